import JvmDerived
import JvmDerived.Pilot.@@N@@Statement
import JvmDerived.Pilot.@@N@@Code
set_option linter.unusedVariables false
set_option linter.unusedSimpArgs false
namespace Jvm.Pilot.@@N@@
open Jvm Jvm.ClassFile Sem Op Lib Jvm.Free Jvm.Stand Jvm.LawKit Jvm.RoadKit Bundle Jvm.Pilot.@@N@@.Jvm.D
/-! the walk in continuation style: 'from U the run comes to an end of which P holds' -/
def OwnGoes (p : Program) (e : Env) (below : List Frame) (P : Outcome → State → Prop) (U : State) : Prop := ∃ s₂ o, Steps p.tables e below U s₂ ∧ s₂.status = .running ∧ Ended s₂ below o ∧ P o s₂
theorem own_pre {p : Program} {e : Env} {below : List Frame} {P : Outcome → State → Prop} {U U' : State} (h : ∀ t, Steps p.tables e below U' t → Steps p.tables e below U t) (k : OwnGoes p e below P U') : OwnGoes p e below P U := by
  obtain ⟨s₂, o, h1, h2⟩ := k
  exact ⟨s₂, o, h _ h1, h2⟩
theorem own_tr {p : Program} {e : Env} {below : List Frame} {P : Outcome → State → Prop} {U U' : State} (h : Steps p.tables e below U U') (k : OwnGoes p e below P U') : OwnGoes p e below P U := own_pre (fun _ q => h.trans q) k
theorem own_ret {p : Program} {l : Launch} {e : Env} {R : Room} {s : State} {m : MethodId} {args : Array Value} {below : List Frame} {meth : Method} {c : Code} {T : State} {locs : List Loc} {cells slots : Nat}
    (X : Stand p l e R s m args below meth c T locs cells slots) (hx : p.tables.exec = Jvm.exec) {pc : Nat} {Ls : Array Slot} {w : Value} {t : FieldType} {i : Instr} {rest : List Value} (hret : meth.sig.returnType = some t) (hn : narrow t w = w)
    (hi : (i = .ireturn ∧ (t = .int ∨ t = .boolean ∨ t = .byte ∨ t = .char ∨ t = .short) ∧ ∃ z, w = .int z) ∨ (i = .lreturn ∧ t = .long ∧ ∃ z, w = .long z) ∨ (i = .dreturn ∧ t = .double ∧ ∃ z, w = .double z) ∨ (i = .freturn ∧ t = .float ∧ ∃ z, w = .float z) ∨ (i = .areturn ∧ t.isReference = true ∧ w.isRef = true))
    (hlocks : meth.locks = false) (hd : decode c.code pc = .ok (i, 1)) {Qh : Option Value → Heap → List Loc → Prop} {rc rs : Nat} (hQ : Qh (some w) T.heap locs) (hc : cells ≤ rc) (hs : slots ≤ rs) :
    OwnGoes p e below (fun o U' => ∃ v L, o = .returned v ∧ Qh v U'.heap L ∧ FrameEnd s o U' L rc rs) (T.setTop (mkF m pc Ls (w :: rest))) := by
  obtain ⟨fs, hr, hrun, hended, hW, hsame⟩ := X.leave (v := some w) (fun h => by rw [hret] at h; cases h) hlocks
  exact ⟨_, _, retOut X hx hret hn hi hd hr, hrun, hended, _, _, rfl, hQ, ⟨_, rfl⟩, hW, hsame.mono hc hs⟩
theorem own_retV {p : Program} {l : Launch} {e : Env} {R : Room} {s : State} {m : MethodId} {args : Array Value} {below : List Frame} {meth : Method} {c : Code} {T : State} {locs : List Loc} {cells slots : Nat}
    (X : Stand p l e R s m args below meth c T locs cells slots) (hx : p.tables.exec = Jvm.exec) {pc : Nat} {Ls : Array Slot} (hret : meth.sig.returnType = none) (hlocks : meth.locks = false) (hd : decode c.code pc = .ok (.return_, 1)) {Qh : Option Value → Heap → List Loc → Prop} {rc rs : Nat} (hQ : Qh none T.heap locs) (hc : cells ≤ rc) (hs : slots ≤ rs) :
    OwnGoes p e below (fun o U' => ∃ v L, o = .returned v ∧ Qh v U'.heap L ∧ FrameEnd s o U' L rc rs) (T.setTop (mkF m pc Ls [])) := by
  obtain ⟨fs, hr, hrun, hended, hW, hsame⟩ := X.leave (v := none) (fun _ => rfl) hlocks
  exact ⟨_, _, X.returnOut hx hret hd hr, hrun, hended, _, _, rfl, hQ, ⟨_, rfl⟩, hW, hsame.mono hc hs⟩

theorem own_iv (p : Int32) : ∃ r : Int32, (r = if p < (128 : Int32) then (1 : Int32) else if p < (2048 : Int32) then (2 : Int32) else if p < (65536 : Int32) then (3 : Int32) else (4 : Int32)) ∧
    ((r = 1 ∧ p.toInt < 128) ∨ (r = 2 ∧ 128 ≤ p.toInt ∧ p.toInt < 2048) ∨ (r = 3 ∧ 2048 ≤ p.toInt ∧ p.toInt < 65536) ∨ (r = 4 ∧ 65536 ≤ p.toInt)) := by
  refine ⟨_, rfl, ?_⟩
  have l1 : p < (128 : Int32) ↔ p.toInt < 128 := by rw [Int32.lt_iff_toInt_lt]; rfl
  have l2 : p < (2048 : Int32) ↔ p.toInt < 2048 := by rw [Int32.lt_iff_toInt_lt]; rfl
  have l3 : p < (65536 : Int32) ↔ p.toInt < 65536 := by rw [Int32.lt_iff_toInt_lt]; rfl
  by_cases h1 : p < (128 : Int32)
  · rw [if_pos h1]; exact Or.inl ⟨rfl, l1.mp h1⟩
  · rw [if_neg h1]; rw [l1] at h1
    by_cases h2 : p < (2048 : Int32)
    · rw [if_pos h2]; rw [l2] at h2; exact Or.inr (Or.inl ⟨rfl, by omega, h2⟩)
    · rw [if_neg h2]; rw [l2] at h2
      by_cases h3 : p < (65536 : Int32)
      · rw [if_pos h3]; rw [l3] at h3; exact Or.inr (Or.inr (Or.inl ⟨rfl, by omega, h3⟩))
      · rw [if_neg h3]; rw [l3] at h3; exact Or.inr (Or.inr (Or.inr ⟨rfl, by omega⟩))
theorem own_z (p q : Int32) (k : Nat) (hk : q.toBitVec.toNat % 32 = k) (h0 : 0 < k) (hp : 0 ≤ p.toInt) : ((p.toUInt32 >>> (q &&& 31).toUInt32).toInt32 = (0 : Int32)) ↔ p.toInt < ((2 ^ k : Nat) : Int) := by
  rw [← Int32.toInt_inj, c_iushr p q k hk h0]
  have hr := rng32 p
  rw [Int.emod_eq_of_lt hp (by omega)]
  show p.toInt / ((2 ^ k : Nat) : Int) = 0 ↔ _
  have hpos : 0 < ((2 ^ k : Nat) : Int) := by exact_mod_cast Nat.two_pow_pos k
  constructor
  · intro h
    have := Int.lt_ediv_add_one_mul_self p.toInt hpos
    rw [h] at this
    omega
  · intro h; exact Int.ediv_eq_zero_of_lt hp h
theorem own_neg (p : Int32) : p < (0 : Int32) ↔ p.toInt < 0 := by rw [Int32.lt_iff_toInt_lt]; rfl
theorem own_big (p : Int32) : (1114111 : Int32) < p ↔ 1114111 < p.toInt := by rw [Int32.lt_iff_toInt_lt]; rfl

theorem d1_0 : decode prog_86_method_23_code 0 = .ok (.iload_n 0, 1) := by decide +kernel
theorem d1_1 : decode prog_86_method_23_code 1 = .ok (.sipush 128, 3) := by decide +kernel
theorem d1_4 : decode prog_86_method_23_code 4 = .ok (.if_icmp .ge 8, 3) := by decide +kernel
theorem d1_7 : decode prog_86_method_23_code 7 = .ok (.iconst 1, 1) := by decide +kernel
theorem d1_8 : decode prog_86_method_23_code 8 = .ok (.istore_n 1, 1) := by decide +kernel
theorem d1_9 : decode prog_86_method_23_code 9 = .ok (.goto 28, 3) := by decide +kernel
theorem d1_12 : decode prog_86_method_23_code 12 = .ok (.iload_n 0, 1) := by decide +kernel
theorem d1_13 : decode prog_86_method_23_code 13 = .ok (.sipush 2048, 3) := by decide +kernel
theorem d1_16 : decode prog_86_method_23_code 16 = .ok (.if_icmp .ge 8, 3) := by decide +kernel
theorem d1_19 : decode prog_86_method_23_code 19 = .ok (.iconst 2, 1) := by decide +kernel
theorem d1_20 : decode prog_86_method_23_code 20 = .ok (.istore_n 1, 1) := by decide +kernel
theorem d1_21 : decode prog_86_method_23_code 21 = .ok (.goto 16, 3) := by decide +kernel
theorem d1_24 : decode prog_86_method_23_code 24 = .ok (.iload_n 0, 1) := by decide +kernel
theorem d1_25 : decode prog_86_method_23_code 25 = .ok (.ldc 153, 2) := by decide +kernel
theorem d1_27 : decode prog_86_method_23_code 27 = .ok (.if_icmp .ge 8, 3) := by decide +kernel
theorem d1_30 : decode prog_86_method_23_code 30 = .ok (.iconst 3, 1) := by decide +kernel
theorem d1_31 : decode prog_86_method_23_code 31 = .ok (.istore_n 1, 1) := by decide +kernel
theorem d1_32 : decode prog_86_method_23_code 32 = .ok (.goto 5, 3) := by decide +kernel
theorem d1_35 : decode prog_86_method_23_code 35 = .ok (.iconst 4, 1) := by decide +kernel
theorem d1_36 : decode prog_86_method_23_code 36 = .ok (.istore_n 1, 1) := by decide +kernel
theorem d1_37 : decode prog_86_method_23_code 37 = .ok (.iload_n 1, 1) := by decide +kernel
theorem d1_38 : decode prog_86_method_23_code 38 = .ok (.ireturn, 1) := by decide +kernel
theorem d2_0 : decode method_2_code 0 = .ok (.iload_n 0, 1) := by decide +kernel
theorem d2_1 : decode method_2_code 1 = .ok (.iconst 1, 1) := by decide +kernel
theorem d2_2 : decode method_2_code 2 = .ok (.if_icmp .ne 8, 3) := by decide +kernel
theorem d2_5 : decode method_2_code 5 = .ok (.bipush 7, 2) := by decide +kernel
theorem d2_7 : decode method_2_code 7 = .ok (.goto 8, 3) := by decide +kernel
theorem d2_10 : decode method_2_code 10 = .ok (.iconst 5, 1) := by decide +kernel
theorem d2_11 : decode method_2_code 11 = .ok (.iload_n 0, 1) := by decide +kernel
theorem d2_12 : decode method_2_code 12 = .ok (.imul, 1) := by decide +kernel
theorem d2_13 : decode method_2_code 13 = .ok (.iconst 1, 1) := by decide +kernel
theorem d2_14 : decode method_2_code 14 = .ok (.iadd, 1) := by decide +kernel
theorem d2_15 : decode method_2_code 15 = .ok (.ireturn, 1) := by decide +kernel
def Q1 (r : Int32) (h0 : Heap) (n0 : Nat) (v : Option Value) (h : Heap) (L : List Loc) : Prop := v = some (.int r) ∧ Fr n0 L ∧ h = h0
def Q0  (h0 : Heap) (n0 : Nat) (v : Option Value) (h : Heap) (L : List Loc) : Prop := v = some (.int (1 : Int32)) ∧ Fr n0 L
set_option maxRecDepth 65536 in
set_option maxHeartbeats 40000000 in
theorem rm1 (l : Launch) (Z : State) (a0 : Array Value) (hw : ∀ d ∈ tables_1, d.before a0 Z = true) (ws : List Jvm.Cond) (p1 r : Int32) (h0 : Heap) (n0 : Nat) (Z0 : n0 ≤ h0.size) (hr : r = if p1 < (128 : Int32) then (1 : Int32) else if p1 < (2048 : Int32) then (2 : Int32) else if p1 < (65536 : Int32) then (3 : Int32) else (4 : Int32)) :
    MetFree l (⟨"com/example/holdfast/holdfast/store/ByteSink", "encodedBytes", "(I)I"⟩ : MethodName) (head1 (Jvm.Cond.code (⟨"com/example/holdfast/holdfast/store/ByteSink", "encodedBytes", "(I)I"⟩ : MethodName) prog_86_method_23_code 2 (some .int) :: ws) ({ frames := 0, cells := 0, slots := 0, locals := 0 } : Room)) (fun a U => a = #[(.int p1)] ∧ Z.Warmed39 U.vm ∧ U.heap = h0) (fun _ _ _ _ _ => True) (fun _ U o U' => ∃ v L, o = .returned v ∧ Q1 r h0 n0 v U'.heap L ∧ FrameEnd U o U' L ({ frames := 0, cells := 0, slots := 0, locals := 0 } : Room).cells ({ frames := 0, cells := 0, slots := 0, locals := 0 } : Room).slots) := by
  refine MetFree.of_bodySF (plainFor_of_name (by first | (simp [plainName, overriddenIn]; done) | decide +kernel)) hisR ?_
  intro p e s m args below meth c s₁ Bd hml0 hP hK
  obtain ⟨rfl, hZ, hh⟩ := hP
  have hx := Bd.exec
  have hby := Bd.bytes
  have hml : c.maxLocals = 2 := hml0
  have hown : s.vm.findClass "com/example/holdfast/holdfast/store/ByteSink" = some m.cls := findClass_of_methodNamed Bd.named
  have hnm := (name_of_methodNamed Bd.named Bd.method).1
  have X0 : Stand p l e ({ frames := 0, cells := 0, slots := 0, locals := 0 } : Room) s m #[(.int p1)] below meth c s₁ [] 0 0 := Stand.of_body Bd
  have e0 : s₁.heap = h0 := by rw [← hh, Bd.state]; rfl
  have N0 := Fr.nil n0
  have ef : entryFrame m #[(.int p1)] 2 = (mkF m 0 #[.val (.int p1), .unset] []) := by first | (simp [entryFrame, mkF, argsToLocals, Value.category]; done) | rfl
  show OwnGoes p e below (fun o U' => ∃ v L, o = .returned v ∧ Q1 r h0 n0 v U'.heap L ∧ FrameEnd s o U' L ({ frames := 0, cells := 0, slots := 0, locals := 0 } : Room).cells ({ frames := 0, cells := 0, slots := 0, locals := 0 } : Room).slots) (s₁.setTop (entryFrame m #[(.int p1)] 2))
  refine own_pre (fun t k => castTop ef k) ?_
  show OwnGoes p e below _ (s₁.setTop (mkF m 0 #[.val (.int p1), .unset] []))
  refine own_pre (fun _ k => XS.iloadN X0.here hx rfl (hb hby d1_0) rfl k) ?_
  show OwnGoes p e below _ (s₁.setTop (mkF m 1 #[.val (.int p1), .unset] [(.int p1)]))
  refine own_pre (fun _ k => XS.sipush X0.here hx rfl (hb hby d1_1) k) ?_
  show OwnGoes p e below _ (s₁.setTop (mkF m 4 #[.val (.int p1), .unset] [(.int (128 : Int32)), (.int p1)]))
  by_cases h4 : p1 < (128 : Int32)
  · refine own_pre (fun _ k => XS.icmpNo X0.here hx rfl (hb hby d1_4) rfl (tlt h4).2.1 k) ?_
    show OwnGoes p e below _ (s₁.setTop (mkF m 7 #[.val (.int p1), .unset] []))
    refine own_pre (fun _ k => XS.iconst X0.here hx rfl (hb hby d1_7) k) ?_
    show OwnGoes p e below _ (s₁.setTop (mkF m 8 #[.val (.int p1), .unset] [(.int (1 : Int32))]))
    refine own_pre (fun _ k => XS.istoreN X0.here hx rfl (hb hby d1_8) rfl (l' := #[.val (.int p1), .val (.int (1 : Int32))]) rfl k) ?_
    show OwnGoes p e below _ (s₁.setTop (mkF m 9 #[.val (.int p1), .val (.int (1 : Int32))] []))
    refine own_pre (fun _ k => XS.goto X0.here hx rfl (pc0 := 9) (pc' := 37) rfl (hb hby d1_9) (by decide) (by decide) k) ?_
    show OwnGoes p e below _ (s₁.setTop (mkF m 37 #[.val (.int p1), .val (.int (1 : Int32))] []))
    refine own_pre (fun _ k => XS.iloadN X0.here hx rfl (hb hby d1_37) rfl k) ?_
    show OwnGoes p e below _ (s₁.setTop (mkF m 38 #[.val (.int p1), .val (.int (1 : Int32))] [(.int (1 : Int32))]))
    exact own_ret X0 hx Bd.returns (rfl) (Or.inl ⟨rfl, by simp, _, rfl⟩) Bd.notSynchronized (hb hby d1_38) ⟨by rw [hr]; simp only [*, if_true, if_false, if_pos, if_neg, not_false_eq_true], N0, e0⟩ (by decide) (by decide)
  · refine own_pre (fun _ k => XS.icmpYes X0.here hx rfl (pc0 := 4) (pc' := 12) rfl (hb hby d1_4) rfl (flt h4).2.1 (by decide) (by decide) k) ?_
    show OwnGoes p e below _ (s₁.setTop (mkF m 12 #[.val (.int p1), .unset] []))
    refine own_pre (fun _ k => XS.iloadN X0.here hx rfl (hb hby d1_12) rfl k) ?_
    show OwnGoes p e below _ (s₁.setTop (mkF m 13 #[.val (.int p1), .unset] [(.int p1)]))
    refine own_pre (fun _ k => XS.sipush X0.here hx rfl (hb hby d1_13) k) ?_
    show OwnGoes p e below _ (s₁.setTop (mkF m 16 #[.val (.int p1), .unset] [(.int (2048 : Int32)), (.int p1)]))
    by_cases h16 : p1 < (2048 : Int32)
    · refine own_pre (fun _ k => XS.icmpNo X0.here hx rfl (hb hby d1_16) rfl (tlt h16).2.1 k) ?_
      show OwnGoes p e below _ (s₁.setTop (mkF m 19 #[.val (.int p1), .unset] []))
      refine own_pre (fun _ k => XS.iconst X0.here hx rfl (hb hby d1_19) k) ?_
      show OwnGoes p e below _ (s₁.setTop (mkF m 20 #[.val (.int p1), .unset] [(.int (2 : Int32))]))
      refine own_pre (fun _ k => XS.istoreN X0.here hx rfl (hb hby d1_20) rfl (l' := #[.val (.int p1), .val (.int (2 : Int32))]) rfl k) ?_
      show OwnGoes p e below _ (s₁.setTop (mkF m 21 #[.val (.int p1), .val (.int (2 : Int32))] []))
      refine own_pre (fun _ k => XS.goto X0.here hx rfl (pc0 := 21) (pc' := 37) rfl (hb hby d1_21) (by decide) (by decide) k) ?_
      show OwnGoes p e below _ (s₁.setTop (mkF m 37 #[.val (.int p1), .val (.int (2 : Int32))] []))
      refine own_pre (fun _ k => XS.iloadN X0.here hx rfl (hb hby d1_37) rfl k) ?_
      show OwnGoes p e below _ (s₁.setTop (mkF m 38 #[.val (.int p1), .val (.int (2 : Int32))] [(.int (2 : Int32))]))
      exact own_ret X0 hx Bd.returns (rfl) (Or.inl ⟨rfl, by simp, _, rfl⟩) Bd.notSynchronized (hb hby d1_38) ⟨by rw [hr]; simp only [*, if_true, if_false, if_pos, if_neg, not_false_eq_true], N0, e0⟩ (by decide) (by decide)
    · refine own_pre (fun _ k => XS.icmpYes X0.here hx rfl (pc0 := 16) (pc' := 24) rfl (hb hby d1_16) rfl (flt h16).2.1 (by decide) (by decide) k) ?_
      show OwnGoes p e below _ (s₁.setTop (mkF m 24 #[.val (.int p1), .unset] []))
      refine own_pre (fun _ k => XS.iloadN X0.here hx rfl (hb hby d1_24) rfl k) ?_
      show OwnGoes p e below _ (s₁.setTop (mkF m 25 #[.val (.int p1), .unset] [(.int p1)]))
      refine own_pre (fun _ k => X0.ldcInt hx hown (mvT hZ (hw _ (List.mem_of_getElem? (i := 9) rfl))) (g := (mkF m 25 #[.val (.int p1), .unset] [(.int p1)])) rfl (hb hby d1_25) _ k) ?_
      show OwnGoes p e below _ (s₁.setTop (mkF m 27 #[.val (.int p1), .unset] [(.int (65536 : Int32)), (.int p1)]))
      by_cases h27 : p1 < (65536 : Int32)
      · refine own_pre (fun _ k => XS.icmpNo X0.here hx rfl (hb hby d1_27) rfl (tlt h27).2.1 k) ?_
        show OwnGoes p e below _ (s₁.setTop (mkF m 30 #[.val (.int p1), .unset] []))
        refine own_pre (fun _ k => XS.iconst X0.here hx rfl (hb hby d1_30) k) ?_
        show OwnGoes p e below _ (s₁.setTop (mkF m 31 #[.val (.int p1), .unset] [(.int (3 : Int32))]))
        refine own_pre (fun _ k => XS.istoreN X0.here hx rfl (hb hby d1_31) rfl (l' := #[.val (.int p1), .val (.int (3 : Int32))]) rfl k) ?_
        show OwnGoes p e below _ (s₁.setTop (mkF m 32 #[.val (.int p1), .val (.int (3 : Int32))] []))
        refine own_pre (fun _ k => XS.goto X0.here hx rfl (pc0 := 32) (pc' := 37) rfl (hb hby d1_32) (by decide) (by decide) k) ?_
        show OwnGoes p e below _ (s₁.setTop (mkF m 37 #[.val (.int p1), .val (.int (3 : Int32))] []))
        refine own_pre (fun _ k => XS.iloadN X0.here hx rfl (hb hby d1_37) rfl k) ?_
        show OwnGoes p e below _ (s₁.setTop (mkF m 38 #[.val (.int p1), .val (.int (3 : Int32))] [(.int (3 : Int32))]))
        exact own_ret X0 hx Bd.returns (rfl) (Or.inl ⟨rfl, by simp, _, rfl⟩) Bd.notSynchronized (hb hby d1_38) ⟨by rw [hr]; simp only [*, if_true, if_false, if_pos, if_neg, not_false_eq_true], N0, e0⟩ (by decide) (by decide)
      · refine own_pre (fun _ k => XS.icmpYes X0.here hx rfl (pc0 := 27) (pc' := 35) rfl (hb hby d1_27) rfl (flt h27).2.1 (by decide) (by decide) k) ?_
        show OwnGoes p e below _ (s₁.setTop (mkF m 35 #[.val (.int p1), .unset] []))
        refine own_pre (fun _ k => XS.iconst X0.here hx rfl (hb hby d1_35) k) ?_
        show OwnGoes p e below _ (s₁.setTop (mkF m 36 #[.val (.int p1), .unset] [(.int (4 : Int32))]))
        refine own_pre (fun _ k => XS.istoreN X0.here hx rfl (hb hby d1_36) rfl (l' := #[.val (.int p1), .val (.int (4 : Int32))]) rfl k) ?_
        show OwnGoes p e below _ (s₁.setTop (mkF m 37 #[.val (.int p1), .val (.int (4 : Int32))] []))
        refine own_pre (fun _ k => XS.iloadN X0.here hx rfl (hb hby d1_37) rfl k) ?_
        show OwnGoes p e below _ (s₁.setTop (mkF m 38 #[.val (.int p1), .val (.int (4 : Int32))] [(.int (4 : Int32))]))
        exact own_ret X0 hx Bd.returns (rfl) (Or.inl ⟨rfl, by simp, _, rfl⟩) Bd.notSynchronized (hb hby d1_38) ⟨by rw [hr]; simp only [*, if_true, if_false, if_pos, if_neg, not_false_eq_true], N0, e0⟩ (by decide) (by decide)
set_option maxRecDepth 65536 in
set_option maxHeartbeats 40000000 in
theorem rm2 (l : Launch) (Z : State) (a0 : Array Value) (hw : ∀ d ∈ tables_1, d.before a0 Z = true) (ws : List Jvm.Cond) (p1 r : Int32) (h0 : Heap) (n0 : Nat) (Z0 : n0 ≤ h0.size) (hr : r = if p1 = (1 : Int32) then (7 : Int32) else (5 : Int32) * p1 + (1 : Int32)) :
    MetFree l (⟨"com/example/holdfast/holdfast/store/ByteSinkEncodedBytesPinLaw", "payloadBits", "(I)I"⟩ : MethodName) (head1 (Jvm.Cond.code (⟨"com/example/holdfast/holdfast/store/ByteSinkEncodedBytesPinLaw", "payloadBits", "(I)I"⟩ : MethodName) method_2_code 1 (some .int) :: ws) ({ frames := 0, cells := 0, slots := 0, locals := 0 } : Room)) (fun a U => a = #[(.int p1)] ∧ Z.Warmed39 U.vm ∧ U.heap = h0) (fun _ _ _ _ _ => True) (fun _ U o U' => ∃ v L, o = .returned v ∧ Q1 r h0 n0 v U'.heap L ∧ FrameEnd U o U' L ({ frames := 0, cells := 0, slots := 0, locals := 0 } : Room).cells ({ frames := 0, cells := 0, slots := 0, locals := 0 } : Room).slots) := by
  refine MetFree.of_bodySF (plainFor_of_name (by first | (simp [plainName, overriddenIn]; done) | decide +kernel)) hisR ?_
  intro p e s m args below meth c s₁ Bd hml0 hP hK
  obtain ⟨rfl, hZ, hh⟩ := hP
  have hx := Bd.exec
  have hby := Bd.bytes
  have hml : c.maxLocals = 1 := hml0
  have hown : s.vm.findClass "com/example/holdfast/holdfast/store/ByteSinkEncodedBytesPinLaw" = some m.cls := findClass_of_methodNamed Bd.named
  have hnm := (name_of_methodNamed Bd.named Bd.method).1
  have X0 : Stand p l e ({ frames := 0, cells := 0, slots := 0, locals := 0 } : Room) s m #[(.int p1)] below meth c s₁ [] 0 0 := Stand.of_body Bd
  have e0 : s₁.heap = h0 := by rw [← hh, Bd.state]; rfl
  have N0 := Fr.nil n0
  have ef : entryFrame m #[(.int p1)] 1 = (mkF m 0 #[.val (.int p1)] []) := by first | (simp [entryFrame, mkF, argsToLocals, Value.category]; done) | rfl
  show OwnGoes p e below (fun o U' => ∃ v L, o = .returned v ∧ Q1 r h0 n0 v U'.heap L ∧ FrameEnd s o U' L ({ frames := 0, cells := 0, slots := 0, locals := 0 } : Room).cells ({ frames := 0, cells := 0, slots := 0, locals := 0 } : Room).slots) (s₁.setTop (entryFrame m #[(.int p1)] 1))
  refine own_pre (fun t k => castTop ef k) ?_
  show OwnGoes p e below _ (s₁.setTop (mkF m 0 #[.val (.int p1)] []))
  refine own_pre (fun _ k => XS.iloadN X0.here hx rfl (hb hby d2_0) rfl k) ?_
  show OwnGoes p e below _ (s₁.setTop (mkF m 1 #[.val (.int p1)] [(.int p1)]))
  refine own_pre (fun _ k => XS.iconst X0.here hx rfl (hb hby d2_1) k) ?_
  show OwnGoes p e below _ (s₁.setTop (mkF m 2 #[.val (.int p1)] [(.int (1 : Int32)), (.int p1)]))
  by_cases h2 : p1 = (1 : Int32)
  · refine own_pre (fun _ k => XS.icmpNo X0.here hx rfl (hb hby d2_2) rfl (teq h2).2 k) ?_
    show OwnGoes p e below _ (s₁.setTop (mkF m 5 #[.val (.int p1)] []))
    refine own_pre (fun _ k => XS.bipush X0.here hx rfl (hb hby d2_5) k) ?_
    show OwnGoes p e below _ (s₁.setTop (mkF m 7 #[.val (.int p1)] [(.int (7 : Int32))]))
    refine own_pre (fun _ k => XS.goto X0.here hx rfl (pc0 := 7) (pc' := 15) rfl (hb hby d2_7) (by decide) (by decide) k) ?_
    show OwnGoes p e below _ (s₁.setTop (mkF m 15 #[.val (.int p1)] [(.int (7 : Int32))]))
    exact own_ret X0 hx Bd.returns (rfl) (Or.inl ⟨rfl, by simp, _, rfl⟩) Bd.notSynchronized (hb hby d2_15) ⟨by rw [hr, if_pos h2], N0, e0⟩ (by decide) (by decide)
  · refine own_pre (fun _ k => XS.icmpYes X0.here hx rfl (pc0 := 2) (pc' := 10) rfl (hb hby d2_2) rfl (feq h2).2 (by decide) (by decide) k) ?_
    show OwnGoes p e below _ (s₁.setTop (mkF m 10 #[.val (.int p1)] []))
    refine own_pre (fun _ k => XS.iconst X0.here hx rfl (hb hby d2_10) k) ?_
    show OwnGoes p e below _ (s₁.setTop (mkF m 11 #[.val (.int p1)] [(.int (5 : Int32))]))
    refine own_pre (fun _ k => XS.iloadN X0.here hx rfl (hb hby d2_11) rfl k) ?_
    show OwnGoes p e below _ (s₁.setTop (mkF m 12 #[.val (.int p1)] [(.int p1), (.int (5 : Int32))]))
    refine own_pre (fun _ k => XS.imul X0.here hx rfl (hb hby d2_12) rfl k) ?_
    show OwnGoes p e below _ (s₁.setTop (mkF m 13 #[.val (.int p1)] [(.int ((5 : Int32) * p1))]))
    refine own_pre (fun _ k => XS.iconst X0.here hx rfl (hb hby d2_13) k) ?_
    show OwnGoes p e below _ (s₁.setTop (mkF m 14 #[.val (.int p1)] [(.int (1 : Int32)), (.int ((5 : Int32) * p1))]))
    refine own_pre (fun _ k => XS.iadd X0.here hx rfl (hb hby d2_14) rfl k) ?_
    show OwnGoes p e below _ (s₁.setTop (mkF m 15 #[.val (.int p1)] [(.int (((5 : Int32) * p1) + (1 : Int32)))]))
    exact own_ret X0 hx Bd.returns (rfl) (Or.inl ⟨rfl, by simp, _, rfl⟩) Bd.notSynchronized (hb hby d2_15) ⟨by rw [hr, if_neg h2], N0, e0⟩ (by decide) (by decide)
set_option maxRecDepth 65536 in
set_option maxHeartbeats 40000000 in
theorem rm0 (l : Launch) (Z : State) (a0 : Array Value) (hw : ∀ d ∈ tables_1, d.before a0 Z = true) (ws : List Jvm.Cond) (p1 : Int32) (h0 : Heap) (n0 : Nat) (Z0 : n0 ≤ h0.size) :
    MetFree l x (head1 (Jvm.Cond.code x code maxLocals ret :: ws) room_1) (fun a U => a = #[(.int p1)] ∧ Z.Warmed39 U.vm ∧ U.heap = h0) (fun _ _ _ _ _ => True) (fun _ U o U' => ∃ v L, o = .returned v ∧ Q0 h0 n0 v U'.heap L ∧ FrameEnd U o U' L room_1.cells room_1.slots) := by
  refine MetFree.of_bodySF (plainFor_of_name (by first | (simp [plainName, overriddenIn]; done) | decide +kernel)) hisR ?_
  intro p e s m args below meth c s₁ Bd hml0 hP hK
  obtain ⟨rfl, hZ, hh⟩ := hP
  have hx := Bd.exec
  have hby := Bd.bytes
  have hml : c.maxLocals = 4 := hml0
  have hown : s.vm.findClass "com/example/holdfast/holdfast/store/ByteSinkEncodedBytesPinLaw" = some m.cls := findClass_of_methodNamed Bd.named
  have hnm := (name_of_methodNamed Bd.named Bd.method).1
  have X0 : Stand p l e room_1 s m #[(.int p1)] below meth c s₁ [] 0 0 := Stand.of_body Bd
  have e0 : s₁.heap = h0 := by rw [← hh, Bd.state]; rfl
  have N0 := Fr.nil n0
  have ef : entryFrame m #[(.int p1)] maxLocals = (mkF m 0 #[.val (.int p1), .unset, .unset, .unset] []) := by first | (simp [entryFrame, mkF, argsToLocals, Value.category, maxLocals]; done) | rfl
  show OwnGoes p e below (fun o U' => ∃ v L, o = .returned v ∧ Q0 h0 n0 v U'.heap L ∧ FrameEnd s o U' L room_1.cells room_1.slots) (s₁.setTop (entryFrame m #[(.int p1)] maxLocals))
  refine own_pre (fun t k => castTop ef k) ?_
  obtain ⟨r, hr, hcase⟩ := own_iv p1
  show OwnGoes p e below _ (s₁.setTop (mkF m 0 #[.val (.int p1), .unset, .unset, .unset] []))
  refine own_pre (fun _ k => XS.iloadN X0.here hx rfl (hb hby at_0) rfl k) ?_
  show OwnGoes p e below _ (s₁.setTop (mkF m 1 #[.val (.int p1), .unset, .unset, .unset] [(.int p1)]))
  obtain ⟨_, _, ⟨T1, L1, k1, n1⟩, -, X1, ⟨Lc1, hQ1, l1, y1, z1⟩, st1⟩ := Jvm.LawKit.callS X0 hx (y := (⟨"com/example/holdfast/holdfast/store/ByteSink", "encodedBytes", "(I)I"⟩ : MethodName)) hown (mvT hZ (hw _ (List.mem_of_getElem? (i := 0) rfl))) (mvT hZ (hw _ (List.mem_of_getElem? (i := 1) rfl))) (mvT hZ (hw _ (List.mem_of_getElem? (i := 2) rfl))) (mvT hZ (hw _ (List.mem_of_getElem? (i := 3) rfl))) (by decide) (backOf (W := 0) (rm1 l Z a0 hw [] p1 r h0 n0 Z0 hr) hZ (hw _ (List.mem_of_getElem? (i := 3) rfl)) (hw _ (List.mem_of_getElem? (i := 2) rfl)) (by decide) (by decide)) (g := (mkF m 1 #[.val (.int p1), .unset, .unset, .unset] [(.int p1)])) rfl (by rw [hml]; rfl) (argsL := [(.int p1)]) (rest := []) (lenOf (d := "(I)I") (ps := [.int]) (r := some .int) (by decide +kernel) rfl) rfl (by show 2 * 0 + _ ≤ _; exact Nat.le_of_eq rfl) (hb hby at_1) (fun _ _ => ⟨rfl, e0, (by decide : 0 + 0 ≤ _), (by decide : 0 + 0 ≤ _)⟩)
  dsimp only [Pt.U, Pt.locs, Pt.cells, Pt.slots] at X1 l1 y1 z1 st1 hQ1
  subst l1 y1 z1
  obtain ⟨rfl, N1q, e1⟩ := hQ1
  have N1 := Fr.app N0 N1q
  refine own_pre st1 ?_
  rcases hcase with ⟨rfl, hB⟩ | ⟨rfl, hB, hB2⟩ | ⟨rfl, hB, hB2⟩ | ⟨rfl, hB⟩
  · show OwnGoes p e below _ (T1.setTop (mkF m 4 #[.val (.int p1), .unset, .unset, .unset] [(.int (1 : Int32))]))
    refine own_pre (fun _ k => XS.istoreN X1.here hx rfl (hb hby at_4) rfl (l' := #[.val (.int p1), .val (.int (1 : Int32)), .unset, .unset]) rfl k) ?_
    show OwnGoes p e below _ (T1.setTop (mkF m 5 #[.val (.int p1), .val (.int (1 : Int32)), .unset, .unset] []))
    refine own_pre (fun _ k => XS.iloadN X1.here hx rfl (hb hby at_5) rfl k) ?_
    show OwnGoes p e below _ (T1.setTop (mkF m 6 #[.val (.int p1), .val (.int (1 : Int32)), .unset, .unset] [(.int p1)]))
    by_cases h6 : p1 < (0 : Int32)
    · refine own_pre (fun _ k => XS.ifNo X1.here hx rfl (hb hby at_6) rfl ((if0 _ _).trans (tlt h6).2.1) k) ?_
      show OwnGoes p e below _ (T1.setTop (mkF m 9 #[.val (.int p1), .val (.int (1 : Int32)), .unset, .unset] []))
      refine own_pre (fun _ k => XS.iloadN X1.here hx rfl (hb hby at_9) rfl k) ?_
      show OwnGoes p e below _ (T1.setTop (mkF m 10 #[.val (.int p1), .val (.int (1 : Int32)), .unset, .unset] [(.int (1 : Int32))]))
      refine own_pre (fun _ k => XS.iconst X1.here hx rfl (hb hby at_10) k) ?_
      show OwnGoes p e below _ (T1.setTop (mkF m 11 #[.val (.int p1), .val (.int (1 : Int32)), .unset, .unset] [(.int (1 : Int32)), (.int (1 : Int32))]))
      refine own_pre (fun _ k => XS.icmpNo X1.here hx rfl (hb hby at_11) rfl (teq (by decide : (1 : Int32) = (1 : Int32))).2 k) ?_
      show OwnGoes p e below _ (T1.setTop (mkF m 14 #[.val (.int p1), .val (.int (1 : Int32)), .unset, .unset] []))
      refine own_pre (fun _ k => XS.iconst X1.here hx rfl (hb hby at_14) k) ?_
      show OwnGoes p e below _ (T1.setTop (mkF m 15 #[.val (.int p1), .val (.int (1 : Int32)), .unset, .unset] [(.int (1 : Int32))]))
      refine own_pre (fun _ k => XS.goto X1.here hx rfl (pc0 := 15) (pc' := 19) rfl (hb hby at_15) (by decide) (by decide) k) ?_
      show OwnGoes p e below _ (T1.setTop (mkF m 19 #[.val (.int p1), .val (.int (1 : Int32)), .unset, .unset] [(.int (1 : Int32))]))
      exact own_ret X1 hx Bd.returns (rfl) (Or.inl ⟨rfl, by simp, _, rfl⟩) Bd.notSynchronized (hb hby at_19) ⟨rfl, N1⟩ (by decide) (by decide)
    · refine own_pre (fun _ k => XS.ifYes X1.here hx rfl (pc0 := 6) (pc' := 20) rfl (hb hby at_6) rfl ((if0 _ _).trans (flt h6).2.1) (by decide) (by decide) k) ?_
      show OwnGoes p e below _ (T1.setTop (mkF m 20 #[.val (.int p1), .val (.int (1 : Int32)), .unset, .unset] []))
      refine own_pre (fun _ k => XS.iloadN X1.here hx rfl (hb hby at_20) rfl k) ?_
      show OwnGoes p e below _ (T1.setTop (mkF m 21 #[.val (.int p1), .val (.int (1 : Int32)), .unset, .unset] [(.int p1)]))
      refine own_pre (fun _ k => X1.ldcInt hx hown (mvT hZ (hw _ (List.mem_of_getElem? (i := 4) rfl))) (g := (mkF m 21 #[.val (.int p1), .val (.int (1 : Int32)), .unset, .unset] [(.int p1)])) rfl (hb hby at_21) _ k) ?_
      show OwnGoes p e below _ (T1.setTop (mkF m 23 #[.val (.int p1), .val (.int (1 : Int32)), .unset, .unset] [(.int (1114111 : Int32)), (.int p1)]))
      by_cases h23 : (1114111 : Int32) < p1
      · exact absurd ((own_big p1).mp h23) (by omega)
      · refine own_pre (fun _ k => XS.icmpYes X1.here hx rfl (pc0 := 23) (pc' := 37) rfl (hb hby at_23) rfl (flt h23).2.2.2 (by decide) (by decide) k) ?_
        show OwnGoes p e below _ (T1.setTop (mkF m 37 #[.val (.int p1), .val (.int (1 : Int32)), .unset, .unset] []))
        refine own_pre (fun _ k => XS.iloadN X1.here hx rfl (hb hby at_37) rfl k) ?_
        show OwnGoes p e below _ (T1.setTop (mkF m 38 #[.val (.int p1), .val (.int (1 : Int32)), .unset, .unset] [(.int (1 : Int32))]))
        refine own_pre (fun _ k => XS.iconst X1.here hx rfl (hb hby at_38) k) ?_
        show OwnGoes p e below _ (T1.setTop (mkF m 39 #[.val (.int p1), .val (.int (1 : Int32)), .unset, .unset] [(.int (1 : Int32)), (.int (1 : Int32))]))
        refine own_pre (fun _ k => XS.icmpNo X1.here hx rfl (hb hby at_39) rfl (flt (by decide : ¬ ((1 : Int32) < (1 : Int32)))).1 k) ?_
        show OwnGoes p e below _ (T1.setTop (mkF m 42 #[.val (.int p1), .val (.int (1 : Int32)), .unset, .unset] []))
        refine own_pre (fun _ k => XS.iloadN X1.here hx rfl (hb hby at_42) rfl k) ?_
        show OwnGoes p e below _ (T1.setTop (mkF m 43 #[.val (.int p1), .val (.int (1 : Int32)), .unset, .unset] [(.int (1 : Int32))]))
        refine own_pre (fun _ k => XS.iconst X1.here hx rfl (hb hby at_43) k) ?_
        show OwnGoes p e below _ (T1.setTop (mkF m 44 #[.val (.int p1), .val (.int (1 : Int32)), .unset, .unset] [(.int (4 : Int32)), (.int (1 : Int32))]))
        refine own_pre (fun _ k => XS.icmpYes X1.here hx rfl (pc0 := 44) (pc' := 49) rfl (hb hby at_44) rfl (flt (by decide : ¬ ((4 : Int32) < (1 : Int32)))).2.2.2 (by decide) (by decide) k) ?_
        show OwnGoes p e below _ (T1.setTop (mkF m 49 #[.val (.int p1), .val (.int (1 : Int32)), .unset, .unset] []))
        refine own_pre (fun _ k => XS.iloadN X1.here hx rfl (hb hby at_49) rfl k) ?_
        show OwnGoes p e below _ (T1.setTop (mkF m 50 #[.val (.int p1), .val (.int (1 : Int32)), .unset, .unset] [(.int p1)]))
        refine own_pre (fun _ k => XS.iloadN X1.here hx rfl (hb hby at_50) rfl k) ?_
        show OwnGoes p e below _ (T1.setTop (mkF m 51 #[.val (.int p1), .val (.int (1 : Int32)), .unset, .unset] [(.int (1 : Int32)), (.int p1)]))
        obtain ⟨_, _, ⟨T2, L2, k2, n2⟩, -, X2, ⟨Lc2, hQ2, l2, y2, z2⟩, st2⟩ := Jvm.LawKit.callS X1 hx (y := (⟨"com/example/holdfast/holdfast/store/ByteSinkEncodedBytesPinLaw", "payloadBits", "(I)I"⟩ : MethodName)) hown (mvT hZ (hw _ (List.mem_of_getElem? (i := 5) rfl))) (mvT hZ (hw _ (List.mem_of_getElem? (i := 6) rfl))) (mvT hZ (hw _ (List.mem_of_getElem? (i := 7) rfl))) (mvT hZ (hw _ (List.mem_of_getElem? (i := 8) rfl))) (by decide) (backOf (W := 1) (rm2 l Z a0 hw [] (1 : Int32) (7 : Int32) h0 n0 Z0 (by decide)) hZ (hw _ (List.mem_of_getElem? (i := 8) rfl)) (hw _ (List.mem_of_getElem? (i := 7) rfl)) (by decide) (by decide)) (g := (mkF m 51 #[.val (.int p1), .val (.int (1 : Int32)), .unset, .unset] [(.int (1 : Int32)), (.int p1)])) rfl (by rw [hml]; rfl) (argsL := [(.int (1 : Int32))]) (rest := [(.int p1)]) (lenOf (d := "(I)I") (ps := [.int]) (r := some .int) (by decide +kernel) rfl) rfl (by show 2 * 0 + _ ≤ _; exact Nat.le_of_eq rfl) (hb hby at_51) (fun _ _ => ⟨rfl, e1, (by decide : 0 + 0 ≤ _), (by decide : 0 + 0 ≤ _)⟩)
        dsimp only [Pt.U, Pt.locs, Pt.cells, Pt.slots] at X2 l2 y2 z2 st2 hQ2
        subst l2 y2 z2
        obtain ⟨rfl, N2q, e2⟩ := hQ2
        have N2 := Fr.app N1 N2q
        refine own_pre st2 ?_
        show OwnGoes p e below _ (T2.setTop (mkF m 54 #[.val (.int p1), .val (.int (1 : Int32)), .unset, .unset] [(.int (7 : Int32)), (.int p1)]))
        refine own_pre (fun _ k => XS.iushr X2.here hx rfl (hb hby at_54) rfl k) ?_
        show OwnGoes p e below _ (T2.setTop (mkF m 55 #[.val (.int p1), .val (.int (1 : Int32)), .unset, .unset] [(.int ((p1.toUInt32 >>> ((7 : Int32) &&& 31).toUInt32).toInt32))]))
        refine own_pre (fun _ k => XS.ifNo X2.here hx rfl (hb hby at_55) rfl ((if0 _ _).trans (teq ((own_z p1 (7 : Int32) 7 (by decide) (by decide) (by rw [own_neg] at h6; omega)).mpr (by rw [own_big] at h23; first | (show p1.toInt < 2 ^ 7; omega) | omega) : ((p1.toUInt32 >>> ((7 : Int32) &&& 31).toUInt32).toInt32) = (0 : Int32))).2) k) ?_
        show OwnGoes p e below _ (T2.setTop (mkF m 58 #[.val (.int p1), .val (.int (1 : Int32)), .unset, .unset] []))
        refine own_pre (fun _ k => XS.iconst X2.here hx rfl (hb hby at_58) k) ?_
        show OwnGoes p e below _ (T2.setTop (mkF m 59 #[.val (.int p1), .val (.int (1 : Int32)), .unset, .unset] [(.int (1 : Int32))]))
        refine own_pre (fun _ k => XS.goto X2.here hx rfl (pc0 := 59) (pc' := 63) rfl (hb hby at_59) (by decide) (by decide) k) ?_
        show OwnGoes p e below _ (T2.setTop (mkF m 63 #[.val (.int p1), .val (.int (1 : Int32)), .unset, .unset] [(.int (1 : Int32))]))
        refine own_pre (fun _ k => XS.istoreN X2.here hx rfl (hb hby at_63) rfl (l' := #[.val (.int p1), .val (.int (1 : Int32)), .val (.int (1 : Int32)), .unset]) rfl k) ?_
        show OwnGoes p e below _ (T2.setTop (mkF m 64 #[.val (.int p1), .val (.int (1 : Int32)), .val (.int (1 : Int32)), .unset] []))
        refine own_pre (fun _ k => XS.iloadN X2.here hx rfl (hb hby at_64) rfl k) ?_
        show OwnGoes p e below _ (T2.setTop (mkF m 65 #[.val (.int p1), .val (.int (1 : Int32)), .val (.int (1 : Int32)), .unset] [(.int (1 : Int32))]))
        refine own_pre (fun _ k => XS.iconst X2.here hx rfl (hb hby at_65) k) ?_
        show OwnGoes p e below _ (T2.setTop (mkF m 66 #[.val (.int p1), .val (.int (1 : Int32)), .val (.int (1 : Int32)), .unset] [(.int (1 : Int32)), (.int (1 : Int32))]))
        refine own_pre (fun _ k => XS.icmpYes X2.here hx rfl (pc0 := 66) (pc' := 80) rfl (hb hby at_66) rfl (teq (by decide : (1 : Int32) = (1 : Int32))).1 (by decide) (by decide) k) ?_
        show OwnGoes p e below _ (T2.setTop (mkF m 80 #[.val (.int p1), .val (.int (1 : Int32)), .val (.int (1 : Int32)), .unset] []))
        refine own_pre (fun _ k => XS.iconst X2.here hx rfl (hb hby at_80) k) ?_
        show OwnGoes p e below _ (T2.setTop (mkF m 81 #[.val (.int p1), .val (.int (1 : Int32)), .val (.int (1 : Int32)), .unset] [(.int (1 : Int32))]))
        refine own_pre (fun _ k => XS.goto X2.here hx rfl (pc0 := 81) (pc' := 85) rfl (hb hby at_81) (by decide) (by decide) k) ?_
        show OwnGoes p e below _ (T2.setTop (mkF m 85 #[.val (.int p1), .val (.int (1 : Int32)), .val (.int (1 : Int32)), .unset] [(.int (1 : Int32))]))
        refine own_pre (fun _ k => XS.istoreN X2.here hx rfl (hb hby at_85) rfl (l' := #[.val (.int p1), .val (.int (1 : Int32)), .val (.int (1 : Int32)), .val (.int (1 : Int32))]) rfl k) ?_
        show OwnGoes p e below _ (T2.setTop (mkF m 86 #[.val (.int p1), .val (.int (1 : Int32)), .val (.int (1 : Int32)), .val (.int (1 : Int32))] []))
        refine own_pre (fun _ k => XS.iloadN X2.here hx rfl (hb hby at_86) rfl k) ?_
        show OwnGoes p e below _ (T2.setTop (mkF m 87 #[.val (.int p1), .val (.int (1 : Int32)), .val (.int (1 : Int32)), .val (.int (1 : Int32))] [(.int (1 : Int32))]))
        refine own_pre (fun _ k => XS.ifNo X2.here hx rfl (hb hby at_87) rfl ((if0 _ _).trans (feq (by decide : ¬ ((1 : Int32) = (0 : Int32)))).1) k) ?_
        show OwnGoes p e below _ (T2.setTop (mkF m 90 #[.val (.int p1), .val (.int (1 : Int32)), .val (.int (1 : Int32)), .val (.int (1 : Int32))] []))
        refine own_pre (fun _ k => XS.iloadN X2.here hx rfl (hb hby at_90) rfl k) ?_
        show OwnGoes p e below _ (T2.setTop (mkF m 91 #[.val (.int p1), .val (.int (1 : Int32)), .val (.int (1 : Int32)), .val (.int (1 : Int32))] [(.int (1 : Int32))]))
        refine own_pre (fun _ k => XS.ifNo X2.here hx rfl (hb hby at_91) rfl ((if0 _ _).trans (feq (by decide : ¬ ((1 : Int32) = (0 : Int32)))).1) k) ?_
        show OwnGoes p e below _ (T2.setTop (mkF m 94 #[.val (.int p1), .val (.int (1 : Int32)), .val (.int (1 : Int32)), .val (.int (1 : Int32))] []))
        refine own_pre (fun _ k => XS.iconst X2.here hx rfl (hb hby at_94) k) ?_
        show OwnGoes p e below _ (T2.setTop (mkF m 95 #[.val (.int p1), .val (.int (1 : Int32)), .val (.int (1 : Int32)), .val (.int (1 : Int32))] [(.int (1 : Int32))]))
        refine own_pre (fun _ k => XS.goto X2.here hx rfl (pc0 := 95) (pc' := 99) rfl (hb hby at_95) (by decide) (by decide) k) ?_
        show OwnGoes p e below _ (T2.setTop (mkF m 99 #[.val (.int p1), .val (.int (1 : Int32)), .val (.int (1 : Int32)), .val (.int (1 : Int32))] [(.int (1 : Int32))]))
        exact own_ret X2 hx Bd.returns (rfl) (Or.inl ⟨rfl, by simp, _, rfl⟩) Bd.notSynchronized (hb hby at_99) ⟨rfl, N2⟩ (by decide) (by decide)
  · show OwnGoes p e below _ (T1.setTop (mkF m 4 #[.val (.int p1), .unset, .unset, .unset] [(.int (2 : Int32))]))
    refine own_pre (fun _ k => XS.istoreN X1.here hx rfl (hb hby at_4) rfl (l' := #[.val (.int p1), .val (.int (2 : Int32)), .unset, .unset]) rfl k) ?_
    show OwnGoes p e below _ (T1.setTop (mkF m 5 #[.val (.int p1), .val (.int (2 : Int32)), .unset, .unset] []))
    refine own_pre (fun _ k => XS.iloadN X1.here hx rfl (hb hby at_5) rfl k) ?_
    show OwnGoes p e below _ (T1.setTop (mkF m 6 #[.val (.int p1), .val (.int (2 : Int32)), .unset, .unset] [(.int p1)]))
    by_cases h6 : p1 < (0 : Int32)
    · exact absurd ((own_neg p1).mp h6) (by omega)
    · refine own_pre (fun _ k => XS.ifYes X1.here hx rfl (pc0 := 6) (pc' := 20) rfl (hb hby at_6) rfl ((if0 _ _).trans (flt h6).2.1) (by decide) (by decide) k) ?_
      show OwnGoes p e below _ (T1.setTop (mkF m 20 #[.val (.int p1), .val (.int (2 : Int32)), .unset, .unset] []))
      refine own_pre (fun _ k => XS.iloadN X1.here hx rfl (hb hby at_20) rfl k) ?_
      show OwnGoes p e below _ (T1.setTop (mkF m 21 #[.val (.int p1), .val (.int (2 : Int32)), .unset, .unset] [(.int p1)]))
      refine own_pre (fun _ k => X1.ldcInt hx hown (mvT hZ (hw _ (List.mem_of_getElem? (i := 4) rfl))) (g := (mkF m 21 #[.val (.int p1), .val (.int (2 : Int32)), .unset, .unset] [(.int p1)])) rfl (hb hby at_21) _ k) ?_
      show OwnGoes p e below _ (T1.setTop (mkF m 23 #[.val (.int p1), .val (.int (2 : Int32)), .unset, .unset] [(.int (1114111 : Int32)), (.int p1)]))
      by_cases h23 : (1114111 : Int32) < p1
      · exact absurd ((own_big p1).mp h23) (by omega)
      · refine own_pre (fun _ k => XS.icmpYes X1.here hx rfl (pc0 := 23) (pc' := 37) rfl (hb hby at_23) rfl (flt h23).2.2.2 (by decide) (by decide) k) ?_
        show OwnGoes p e below _ (T1.setTop (mkF m 37 #[.val (.int p1), .val (.int (2 : Int32)), .unset, .unset] []))
        refine own_pre (fun _ k => XS.iloadN X1.here hx rfl (hb hby at_37) rfl k) ?_
        show OwnGoes p e below _ (T1.setTop (mkF m 38 #[.val (.int p1), .val (.int (2 : Int32)), .unset, .unset] [(.int (2 : Int32))]))
        refine own_pre (fun _ k => XS.iconst X1.here hx rfl (hb hby at_38) k) ?_
        show OwnGoes p e below _ (T1.setTop (mkF m 39 #[.val (.int p1), .val (.int (2 : Int32)), .unset, .unset] [(.int (1 : Int32)), (.int (2 : Int32))]))
        refine own_pre (fun _ k => XS.icmpNo X1.here hx rfl (hb hby at_39) rfl (flt (by decide : ¬ ((2 : Int32) < (1 : Int32)))).1 k) ?_
        show OwnGoes p e below _ (T1.setTop (mkF m 42 #[.val (.int p1), .val (.int (2 : Int32)), .unset, .unset] []))
        refine own_pre (fun _ k => XS.iloadN X1.here hx rfl (hb hby at_42) rfl k) ?_
        show OwnGoes p e below _ (T1.setTop (mkF m 43 #[.val (.int p1), .val (.int (2 : Int32)), .unset, .unset] [(.int (2 : Int32))]))
        refine own_pre (fun _ k => XS.iconst X1.here hx rfl (hb hby at_43) k) ?_
        show OwnGoes p e below _ (T1.setTop (mkF m 44 #[.val (.int p1), .val (.int (2 : Int32)), .unset, .unset] [(.int (4 : Int32)), (.int (2 : Int32))]))
        refine own_pre (fun _ k => XS.icmpYes X1.here hx rfl (pc0 := 44) (pc' := 49) rfl (hb hby at_44) rfl (flt (by decide : ¬ ((4 : Int32) < (2 : Int32)))).2.2.2 (by decide) (by decide) k) ?_
        show OwnGoes p e below _ (T1.setTop (mkF m 49 #[.val (.int p1), .val (.int (2 : Int32)), .unset, .unset] []))
        refine own_pre (fun _ k => XS.iloadN X1.here hx rfl (hb hby at_49) rfl k) ?_
        show OwnGoes p e below _ (T1.setTop (mkF m 50 #[.val (.int p1), .val (.int (2 : Int32)), .unset, .unset] [(.int p1)]))
        refine own_pre (fun _ k => XS.iloadN X1.here hx rfl (hb hby at_50) rfl k) ?_
        show OwnGoes p e below _ (T1.setTop (mkF m 51 #[.val (.int p1), .val (.int (2 : Int32)), .unset, .unset] [(.int (2 : Int32)), (.int p1)]))
        obtain ⟨_, _, ⟨T3, L3, k3, n3⟩, -, X3, ⟨Lc3, hQ3, l3, y3, z3⟩, st3⟩ := Jvm.LawKit.callS X1 hx (y := (⟨"com/example/holdfast/holdfast/store/ByteSinkEncodedBytesPinLaw", "payloadBits", "(I)I"⟩ : MethodName)) hown (mvT hZ (hw _ (List.mem_of_getElem? (i := 5) rfl))) (mvT hZ (hw _ (List.mem_of_getElem? (i := 6) rfl))) (mvT hZ (hw _ (List.mem_of_getElem? (i := 7) rfl))) (mvT hZ (hw _ (List.mem_of_getElem? (i := 8) rfl))) (by decide) (backOf (W := 1) (rm2 l Z a0 hw [] (2 : Int32) (11 : Int32) h0 n0 Z0 (by decide)) hZ (hw _ (List.mem_of_getElem? (i := 8) rfl)) (hw _ (List.mem_of_getElem? (i := 7) rfl)) (by decide) (by decide)) (g := (mkF m 51 #[.val (.int p1), .val (.int (2 : Int32)), .unset, .unset] [(.int (2 : Int32)), (.int p1)])) rfl (by rw [hml]; rfl) (argsL := [(.int (2 : Int32))]) (rest := [(.int p1)]) (lenOf (d := "(I)I") (ps := [.int]) (r := some .int) (by decide +kernel) rfl) rfl (by show 2 * 0 + _ ≤ _; exact Nat.le_of_eq rfl) (hb hby at_51) (fun _ _ => ⟨rfl, e1, (by decide : 0 + 0 ≤ _), (by decide : 0 + 0 ≤ _)⟩)
        dsimp only [Pt.U, Pt.locs, Pt.cells, Pt.slots] at X3 l3 y3 z3 st3 hQ3
        subst l3 y3 z3
        obtain ⟨rfl, N3q, e3⟩ := hQ3
        have N3 := Fr.app N1 N3q
        refine own_pre st3 ?_
        show OwnGoes p e below _ (T3.setTop (mkF m 54 #[.val (.int p1), .val (.int (2 : Int32)), .unset, .unset] [(.int (11 : Int32)), (.int p1)]))
        refine own_pre (fun _ k => XS.iushr X3.here hx rfl (hb hby at_54) rfl k) ?_
        show OwnGoes p e below _ (T3.setTop (mkF m 55 #[.val (.int p1), .val (.int (2 : Int32)), .unset, .unset] [(.int ((p1.toUInt32 >>> ((11 : Int32) &&& 31).toUInt32).toInt32))]))
        refine own_pre (fun _ k => XS.ifNo X3.here hx rfl (hb hby at_55) rfl ((if0 _ _).trans (teq ((own_z p1 (11 : Int32) 11 (by decide) (by decide) (by rw [own_neg] at h6; omega)).mpr (by rw [own_big] at h23; first | (show p1.toInt < 2 ^ 11; omega) | omega) : ((p1.toUInt32 >>> ((11 : Int32) &&& 31).toUInt32).toInt32) = (0 : Int32))).2) k) ?_
        show OwnGoes p e below _ (T3.setTop (mkF m 58 #[.val (.int p1), .val (.int (2 : Int32)), .unset, .unset] []))
        refine own_pre (fun _ k => XS.iconst X3.here hx rfl (hb hby at_58) k) ?_
        show OwnGoes p e below _ (T3.setTop (mkF m 59 #[.val (.int p1), .val (.int (2 : Int32)), .unset, .unset] [(.int (1 : Int32))]))
        refine own_pre (fun _ k => XS.goto X3.here hx rfl (pc0 := 59) (pc' := 63) rfl (hb hby at_59) (by decide) (by decide) k) ?_
        show OwnGoes p e below _ (T3.setTop (mkF m 63 #[.val (.int p1), .val (.int (2 : Int32)), .unset, .unset] [(.int (1 : Int32))]))
        refine own_pre (fun _ k => XS.istoreN X3.here hx rfl (hb hby at_63) rfl (l' := #[.val (.int p1), .val (.int (2 : Int32)), .val (.int (1 : Int32)), .unset]) rfl k) ?_
        show OwnGoes p e below _ (T3.setTop (mkF m 64 #[.val (.int p1), .val (.int (2 : Int32)), .val (.int (1 : Int32)), .unset] []))
        refine own_pre (fun _ k => XS.iloadN X3.here hx rfl (hb hby at_64) rfl k) ?_
        show OwnGoes p e below _ (T3.setTop (mkF m 65 #[.val (.int p1), .val (.int (2 : Int32)), .val (.int (1 : Int32)), .unset] [(.int (2 : Int32))]))
        refine own_pre (fun _ k => XS.iconst X3.here hx rfl (hb hby at_65) k) ?_
        show OwnGoes p e below _ (T3.setTop (mkF m 66 #[.val (.int p1), .val (.int (2 : Int32)), .val (.int (1 : Int32)), .unset] [(.int (1 : Int32)), (.int (2 : Int32))]))
        refine own_pre (fun _ k => XS.icmpNo X3.here hx rfl (hb hby at_66) rfl (feq (by decide : ¬ ((2 : Int32) = (1 : Int32)))).1 k) ?_
        show OwnGoes p e below _ (T3.setTop (mkF m 69 #[.val (.int p1), .val (.int (2 : Int32)), .val (.int (1 : Int32)), .unset] []))
        refine own_pre (fun _ k => XS.iloadN X3.here hx rfl (hb hby at_69) rfl k) ?_
        show OwnGoes p e below _ (T3.setTop (mkF m 70 #[.val (.int p1), .val (.int (2 : Int32)), .val (.int (1 : Int32)), .unset] [(.int p1)]))
        refine own_pre (fun _ k => XS.iloadN X3.here hx rfl (hb hby at_70) rfl k) ?_
        show OwnGoes p e below _ (T3.setTop (mkF m 71 #[.val (.int p1), .val (.int (2 : Int32)), .val (.int (1 : Int32)), .unset] [(.int (2 : Int32)), (.int p1)]))
        refine own_pre (fun _ k => XS.iconst X3.here hx rfl (hb hby at_71) k) ?_
        show OwnGoes p e below _ (T3.setTop (mkF m 72 #[.val (.int p1), .val (.int (2 : Int32)), .val (.int (1 : Int32)), .unset] [(.int (1 : Int32)), (.int (2 : Int32)), (.int p1)]))
        refine own_pre (fun _ k => XS.isub X3.here hx rfl (hb hby at_72) rfl k) ?_
        show OwnGoes p e below _ (T3.setTop (mkF m 73 #[.val (.int p1), .val (.int (2 : Int32)), .val (.int (1 : Int32)), .unset] [(.int ((2 : Int32) - (1 : Int32))), (.int p1)]))
        obtain ⟨_, _, ⟨T4, L4, k4, n4⟩, -, X4, ⟨Lc4, hQ4, l4, y4, z4⟩, st4⟩ := Jvm.LawKit.callS X3 hx (y := (⟨"com/example/holdfast/holdfast/store/ByteSinkEncodedBytesPinLaw", "payloadBits", "(I)I"⟩ : MethodName)) hown (mvT hZ (hw _ (List.mem_of_getElem? (i := 5) rfl))) (mvT hZ (hw _ (List.mem_of_getElem? (i := 6) rfl))) (mvT hZ (hw _ (List.mem_of_getElem? (i := 7) rfl))) (mvT hZ (hw _ (List.mem_of_getElem? (i := 8) rfl))) (by decide) (backOf (W := 1) (rm2 l Z a0 hw [] ((2 : Int32) - (1 : Int32)) (7 : Int32) h0 n0 Z0 (by decide)) hZ (hw _ (List.mem_of_getElem? (i := 8) rfl)) (hw _ (List.mem_of_getElem? (i := 7) rfl)) (by decide) (by decide)) (g := (mkF m 73 #[.val (.int p1), .val (.int (2 : Int32)), .val (.int (1 : Int32)), .unset] [(.int ((2 : Int32) - (1 : Int32))), (.int p1)])) rfl (by rw [hml]; rfl) (argsL := [(.int ((2 : Int32) - (1 : Int32)))]) (rest := [(.int p1)]) (lenOf (d := "(I)I") (ps := [.int]) (r := some .int) (by decide +kernel) rfl) rfl (by show 2 * 0 + _ ≤ _; exact Nat.le_of_eq rfl) (hb hby at_73) (fun _ _ => ⟨rfl, e3, (by decide : 0 + 0 ≤ _), (by decide : 0 + 0 ≤ _)⟩)
        dsimp only [Pt.U, Pt.locs, Pt.cells, Pt.slots] at X4 l4 y4 z4 st4 hQ4
        subst l4 y4 z4
        obtain ⟨rfl, N4q, e4⟩ := hQ4
        have N4 := Fr.app N3 N4q
        refine own_pre st4 ?_
        show OwnGoes p e below _ (T4.setTop (mkF m 76 #[.val (.int p1), .val (.int (2 : Int32)), .val (.int (1 : Int32)), .unset] [(.int (7 : Int32)), (.int p1)]))
        refine own_pre (fun _ k => XS.iushr X4.here hx rfl (hb hby at_76) rfl k) ?_
        show OwnGoes p e below _ (T4.setTop (mkF m 77 #[.val (.int p1), .val (.int (2 : Int32)), .val (.int (1 : Int32)), .unset] [(.int ((p1.toUInt32 >>> ((7 : Int32) &&& 31).toUInt32).toInt32))]))
        refine own_pre (fun _ k => XS.ifNo X4.here hx rfl (hb hby at_77) rfl ((if0 _ _).trans (feq (fun q => absurd ((own_z p1 (7 : Int32) 7 (by decide) (by decide) (by rw [own_neg] at h6; omega)).mp q) (by show ¬ p1.toInt < 2 ^ 7; omega) : ¬ (((p1.toUInt32 >>> ((7 : Int32) &&& 31).toUInt32).toInt32) = (0 : Int32)))).1) k) ?_
        show OwnGoes p e below _ (T4.setTop (mkF m 80 #[.val (.int p1), .val (.int (2 : Int32)), .val (.int (1 : Int32)), .unset] []))
        refine own_pre (fun _ k => XS.iconst X4.here hx rfl (hb hby at_80) k) ?_
        show OwnGoes p e below _ (T4.setTop (mkF m 81 #[.val (.int p1), .val (.int (2 : Int32)), .val (.int (1 : Int32)), .unset] [(.int (1 : Int32))]))
        refine own_pre (fun _ k => XS.goto X4.here hx rfl (pc0 := 81) (pc' := 85) rfl (hb hby at_81) (by decide) (by decide) k) ?_
        show OwnGoes p e below _ (T4.setTop (mkF m 85 #[.val (.int p1), .val (.int (2 : Int32)), .val (.int (1 : Int32)), .unset] [(.int (1 : Int32))]))
        refine own_pre (fun _ k => XS.istoreN X4.here hx rfl (hb hby at_85) rfl (l' := #[.val (.int p1), .val (.int (2 : Int32)), .val (.int (1 : Int32)), .val (.int (1 : Int32))]) rfl k) ?_
        show OwnGoes p e below _ (T4.setTop (mkF m 86 #[.val (.int p1), .val (.int (2 : Int32)), .val (.int (1 : Int32)), .val (.int (1 : Int32))] []))
        refine own_pre (fun _ k => XS.iloadN X4.here hx rfl (hb hby at_86) rfl k) ?_
        show OwnGoes p e below _ (T4.setTop (mkF m 87 #[.val (.int p1), .val (.int (2 : Int32)), .val (.int (1 : Int32)), .val (.int (1 : Int32))] [(.int (1 : Int32))]))
        refine own_pre (fun _ k => XS.ifNo X4.here hx rfl (hb hby at_87) rfl ((if0 _ _).trans (feq (by decide : ¬ ((1 : Int32) = (0 : Int32)))).1) k) ?_
        show OwnGoes p e below _ (T4.setTop (mkF m 90 #[.val (.int p1), .val (.int (2 : Int32)), .val (.int (1 : Int32)), .val (.int (1 : Int32))] []))
        refine own_pre (fun _ k => XS.iloadN X4.here hx rfl (hb hby at_90) rfl k) ?_
        show OwnGoes p e below _ (T4.setTop (mkF m 91 #[.val (.int p1), .val (.int (2 : Int32)), .val (.int (1 : Int32)), .val (.int (1 : Int32))] [(.int (1 : Int32))]))
        refine own_pre (fun _ k => XS.ifNo X4.here hx rfl (hb hby at_91) rfl ((if0 _ _).trans (feq (by decide : ¬ ((1 : Int32) = (0 : Int32)))).1) k) ?_
        show OwnGoes p e below _ (T4.setTop (mkF m 94 #[.val (.int p1), .val (.int (2 : Int32)), .val (.int (1 : Int32)), .val (.int (1 : Int32))] []))
        refine own_pre (fun _ k => XS.iconst X4.here hx rfl (hb hby at_94) k) ?_
        show OwnGoes p e below _ (T4.setTop (mkF m 95 #[.val (.int p1), .val (.int (2 : Int32)), .val (.int (1 : Int32)), .val (.int (1 : Int32))] [(.int (1 : Int32))]))
        refine own_pre (fun _ k => XS.goto X4.here hx rfl (pc0 := 95) (pc' := 99) rfl (hb hby at_95) (by decide) (by decide) k) ?_
        show OwnGoes p e below _ (T4.setTop (mkF m 99 #[.val (.int p1), .val (.int (2 : Int32)), .val (.int (1 : Int32)), .val (.int (1 : Int32))] [(.int (1 : Int32))]))
        exact own_ret X4 hx Bd.returns (rfl) (Or.inl ⟨rfl, by simp, _, rfl⟩) Bd.notSynchronized (hb hby at_99) ⟨rfl, N4⟩ (by decide) (by decide)
  · show OwnGoes p e below _ (T1.setTop (mkF m 4 #[.val (.int p1), .unset, .unset, .unset] [(.int (3 : Int32))]))
    refine own_pre (fun _ k => XS.istoreN X1.here hx rfl (hb hby at_4) rfl (l' := #[.val (.int p1), .val (.int (3 : Int32)), .unset, .unset]) rfl k) ?_
    show OwnGoes p e below _ (T1.setTop (mkF m 5 #[.val (.int p1), .val (.int (3 : Int32)), .unset, .unset] []))
    refine own_pre (fun _ k => XS.iloadN X1.here hx rfl (hb hby at_5) rfl k) ?_
    show OwnGoes p e below _ (T1.setTop (mkF m 6 #[.val (.int p1), .val (.int (3 : Int32)), .unset, .unset] [(.int p1)]))
    by_cases h6 : p1 < (0 : Int32)
    · exact absurd ((own_neg p1).mp h6) (by omega)
    · refine own_pre (fun _ k => XS.ifYes X1.here hx rfl (pc0 := 6) (pc' := 20) rfl (hb hby at_6) rfl ((if0 _ _).trans (flt h6).2.1) (by decide) (by decide) k) ?_
      show OwnGoes p e below _ (T1.setTop (mkF m 20 #[.val (.int p1), .val (.int (3 : Int32)), .unset, .unset] []))
      refine own_pre (fun _ k => XS.iloadN X1.here hx rfl (hb hby at_20) rfl k) ?_
      show OwnGoes p e below _ (T1.setTop (mkF m 21 #[.val (.int p1), .val (.int (3 : Int32)), .unset, .unset] [(.int p1)]))
      refine own_pre (fun _ k => X1.ldcInt hx hown (mvT hZ (hw _ (List.mem_of_getElem? (i := 4) rfl))) (g := (mkF m 21 #[.val (.int p1), .val (.int (3 : Int32)), .unset, .unset] [(.int p1)])) rfl (hb hby at_21) _ k) ?_
      show OwnGoes p e below _ (T1.setTop (mkF m 23 #[.val (.int p1), .val (.int (3 : Int32)), .unset, .unset] [(.int (1114111 : Int32)), (.int p1)]))
      by_cases h23 : (1114111 : Int32) < p1
      · exact absurd ((own_big p1).mp h23) (by omega)
      · refine own_pre (fun _ k => XS.icmpYes X1.here hx rfl (pc0 := 23) (pc' := 37) rfl (hb hby at_23) rfl (flt h23).2.2.2 (by decide) (by decide) k) ?_
        show OwnGoes p e below _ (T1.setTop (mkF m 37 #[.val (.int p1), .val (.int (3 : Int32)), .unset, .unset] []))
        refine own_pre (fun _ k => XS.iloadN X1.here hx rfl (hb hby at_37) rfl k) ?_
        show OwnGoes p e below _ (T1.setTop (mkF m 38 #[.val (.int p1), .val (.int (3 : Int32)), .unset, .unset] [(.int (3 : Int32))]))
        refine own_pre (fun _ k => XS.iconst X1.here hx rfl (hb hby at_38) k) ?_
        show OwnGoes p e below _ (T1.setTop (mkF m 39 #[.val (.int p1), .val (.int (3 : Int32)), .unset, .unset] [(.int (1 : Int32)), (.int (3 : Int32))]))
        refine own_pre (fun _ k => XS.icmpNo X1.here hx rfl (hb hby at_39) rfl (flt (by decide : ¬ ((3 : Int32) < (1 : Int32)))).1 k) ?_
        show OwnGoes p e below _ (T1.setTop (mkF m 42 #[.val (.int p1), .val (.int (3 : Int32)), .unset, .unset] []))
        refine own_pre (fun _ k => XS.iloadN X1.here hx rfl (hb hby at_42) rfl k) ?_
        show OwnGoes p e below _ (T1.setTop (mkF m 43 #[.val (.int p1), .val (.int (3 : Int32)), .unset, .unset] [(.int (3 : Int32))]))
        refine own_pre (fun _ k => XS.iconst X1.here hx rfl (hb hby at_43) k) ?_
        show OwnGoes p e below _ (T1.setTop (mkF m 44 #[.val (.int p1), .val (.int (3 : Int32)), .unset, .unset] [(.int (4 : Int32)), (.int (3 : Int32))]))
        refine own_pre (fun _ k => XS.icmpYes X1.here hx rfl (pc0 := 44) (pc' := 49) rfl (hb hby at_44) rfl (flt (by decide : ¬ ((4 : Int32) < (3 : Int32)))).2.2.2 (by decide) (by decide) k) ?_
        show OwnGoes p e below _ (T1.setTop (mkF m 49 #[.val (.int p1), .val (.int (3 : Int32)), .unset, .unset] []))
        refine own_pre (fun _ k => XS.iloadN X1.here hx rfl (hb hby at_49) rfl k) ?_
        show OwnGoes p e below _ (T1.setTop (mkF m 50 #[.val (.int p1), .val (.int (3 : Int32)), .unset, .unset] [(.int p1)]))
        refine own_pre (fun _ k => XS.iloadN X1.here hx rfl (hb hby at_50) rfl k) ?_
        show OwnGoes p e below _ (T1.setTop (mkF m 51 #[.val (.int p1), .val (.int (3 : Int32)), .unset, .unset] [(.int (3 : Int32)), (.int p1)]))
        obtain ⟨_, _, ⟨T5, L5, k5, n5⟩, -, X5, ⟨Lc5, hQ5, l5, y5, z5⟩, st5⟩ := Jvm.LawKit.callS X1 hx (y := (⟨"com/example/holdfast/holdfast/store/ByteSinkEncodedBytesPinLaw", "payloadBits", "(I)I"⟩ : MethodName)) hown (mvT hZ (hw _ (List.mem_of_getElem? (i := 5) rfl))) (mvT hZ (hw _ (List.mem_of_getElem? (i := 6) rfl))) (mvT hZ (hw _ (List.mem_of_getElem? (i := 7) rfl))) (mvT hZ (hw _ (List.mem_of_getElem? (i := 8) rfl))) (by decide) (backOf (W := 1) (rm2 l Z a0 hw [] (3 : Int32) (16 : Int32) h0 n0 Z0 (by decide)) hZ (hw _ (List.mem_of_getElem? (i := 8) rfl)) (hw _ (List.mem_of_getElem? (i := 7) rfl)) (by decide) (by decide)) (g := (mkF m 51 #[.val (.int p1), .val (.int (3 : Int32)), .unset, .unset] [(.int (3 : Int32)), (.int p1)])) rfl (by rw [hml]; rfl) (argsL := [(.int (3 : Int32))]) (rest := [(.int p1)]) (lenOf (d := "(I)I") (ps := [.int]) (r := some .int) (by decide +kernel) rfl) rfl (by show 2 * 0 + _ ≤ _; exact Nat.le_of_eq rfl) (hb hby at_51) (fun _ _ => ⟨rfl, e1, (by decide : 0 + 0 ≤ _), (by decide : 0 + 0 ≤ _)⟩)
        dsimp only [Pt.U, Pt.locs, Pt.cells, Pt.slots] at X5 l5 y5 z5 st5 hQ5
        subst l5 y5 z5
        obtain ⟨rfl, N5q, e5⟩ := hQ5
        have N5 := Fr.app N1 N5q
        refine own_pre st5 ?_
        show OwnGoes p e below _ (T5.setTop (mkF m 54 #[.val (.int p1), .val (.int (3 : Int32)), .unset, .unset] [(.int (16 : Int32)), (.int p1)]))
        refine own_pre (fun _ k => XS.iushr X5.here hx rfl (hb hby at_54) rfl k) ?_
        show OwnGoes p e below _ (T5.setTop (mkF m 55 #[.val (.int p1), .val (.int (3 : Int32)), .unset, .unset] [(.int ((p1.toUInt32 >>> ((16 : Int32) &&& 31).toUInt32).toInt32))]))
        refine own_pre (fun _ k => XS.ifNo X5.here hx rfl (hb hby at_55) rfl ((if0 _ _).trans (teq ((own_z p1 (16 : Int32) 16 (by decide) (by decide) (by rw [own_neg] at h6; omega)).mpr (by rw [own_big] at h23; first | (show p1.toInt < 2 ^ 16; omega) | omega) : ((p1.toUInt32 >>> ((16 : Int32) &&& 31).toUInt32).toInt32) = (0 : Int32))).2) k) ?_
        show OwnGoes p e below _ (T5.setTop (mkF m 58 #[.val (.int p1), .val (.int (3 : Int32)), .unset, .unset] []))
        refine own_pre (fun _ k => XS.iconst X5.here hx rfl (hb hby at_58) k) ?_
        show OwnGoes p e below _ (T5.setTop (mkF m 59 #[.val (.int p1), .val (.int (3 : Int32)), .unset, .unset] [(.int (1 : Int32))]))
        refine own_pre (fun _ k => XS.goto X5.here hx rfl (pc0 := 59) (pc' := 63) rfl (hb hby at_59) (by decide) (by decide) k) ?_
        show OwnGoes p e below _ (T5.setTop (mkF m 63 #[.val (.int p1), .val (.int (3 : Int32)), .unset, .unset] [(.int (1 : Int32))]))
        refine own_pre (fun _ k => XS.istoreN X5.here hx rfl (hb hby at_63) rfl (l' := #[.val (.int p1), .val (.int (3 : Int32)), .val (.int (1 : Int32)), .unset]) rfl k) ?_
        show OwnGoes p e below _ (T5.setTop (mkF m 64 #[.val (.int p1), .val (.int (3 : Int32)), .val (.int (1 : Int32)), .unset] []))
        refine own_pre (fun _ k => XS.iloadN X5.here hx rfl (hb hby at_64) rfl k) ?_
        show OwnGoes p e below _ (T5.setTop (mkF m 65 #[.val (.int p1), .val (.int (3 : Int32)), .val (.int (1 : Int32)), .unset] [(.int (3 : Int32))]))
        refine own_pre (fun _ k => XS.iconst X5.here hx rfl (hb hby at_65) k) ?_
        show OwnGoes p e below _ (T5.setTop (mkF m 66 #[.val (.int p1), .val (.int (3 : Int32)), .val (.int (1 : Int32)), .unset] [(.int (1 : Int32)), (.int (3 : Int32))]))
        refine own_pre (fun _ k => XS.icmpNo X5.here hx rfl (hb hby at_66) rfl (feq (by decide : ¬ ((3 : Int32) = (1 : Int32)))).1 k) ?_
        show OwnGoes p e below _ (T5.setTop (mkF m 69 #[.val (.int p1), .val (.int (3 : Int32)), .val (.int (1 : Int32)), .unset] []))
        refine own_pre (fun _ k => XS.iloadN X5.here hx rfl (hb hby at_69) rfl k) ?_
        show OwnGoes p e below _ (T5.setTop (mkF m 70 #[.val (.int p1), .val (.int (3 : Int32)), .val (.int (1 : Int32)), .unset] [(.int p1)]))
        refine own_pre (fun _ k => XS.iloadN X5.here hx rfl (hb hby at_70) rfl k) ?_
        show OwnGoes p e below _ (T5.setTop (mkF m 71 #[.val (.int p1), .val (.int (3 : Int32)), .val (.int (1 : Int32)), .unset] [(.int (3 : Int32)), (.int p1)]))
        refine own_pre (fun _ k => XS.iconst X5.here hx rfl (hb hby at_71) k) ?_
        show OwnGoes p e below _ (T5.setTop (mkF m 72 #[.val (.int p1), .val (.int (3 : Int32)), .val (.int (1 : Int32)), .unset] [(.int (1 : Int32)), (.int (3 : Int32)), (.int p1)]))
        refine own_pre (fun _ k => XS.isub X5.here hx rfl (hb hby at_72) rfl k) ?_
        show OwnGoes p e below _ (T5.setTop (mkF m 73 #[.val (.int p1), .val (.int (3 : Int32)), .val (.int (1 : Int32)), .unset] [(.int ((3 : Int32) - (1 : Int32))), (.int p1)]))
        obtain ⟨_, _, ⟨T6, L6, k6, n6⟩, -, X6, ⟨Lc6, hQ6, l6, y6, z6⟩, st6⟩ := Jvm.LawKit.callS X5 hx (y := (⟨"com/example/holdfast/holdfast/store/ByteSinkEncodedBytesPinLaw", "payloadBits", "(I)I"⟩ : MethodName)) hown (mvT hZ (hw _ (List.mem_of_getElem? (i := 5) rfl))) (mvT hZ (hw _ (List.mem_of_getElem? (i := 6) rfl))) (mvT hZ (hw _ (List.mem_of_getElem? (i := 7) rfl))) (mvT hZ (hw _ (List.mem_of_getElem? (i := 8) rfl))) (by decide) (backOf (W := 1) (rm2 l Z a0 hw [] ((3 : Int32) - (1 : Int32)) (11 : Int32) h0 n0 Z0 (by decide)) hZ (hw _ (List.mem_of_getElem? (i := 8) rfl)) (hw _ (List.mem_of_getElem? (i := 7) rfl)) (by decide) (by decide)) (g := (mkF m 73 #[.val (.int p1), .val (.int (3 : Int32)), .val (.int (1 : Int32)), .unset] [(.int ((3 : Int32) - (1 : Int32))), (.int p1)])) rfl (by rw [hml]; rfl) (argsL := [(.int ((3 : Int32) - (1 : Int32)))]) (rest := [(.int p1)]) (lenOf (d := "(I)I") (ps := [.int]) (r := some .int) (by decide +kernel) rfl) rfl (by show 2 * 0 + _ ≤ _; exact Nat.le_of_eq rfl) (hb hby at_73) (fun _ _ => ⟨rfl, e5, (by decide : 0 + 0 ≤ _), (by decide : 0 + 0 ≤ _)⟩)
        dsimp only [Pt.U, Pt.locs, Pt.cells, Pt.slots] at X6 l6 y6 z6 st6 hQ6
        subst l6 y6 z6
        obtain ⟨rfl, N6q, e6⟩ := hQ6
        have N6 := Fr.app N5 N6q
        refine own_pre st6 ?_
        show OwnGoes p e below _ (T6.setTop (mkF m 76 #[.val (.int p1), .val (.int (3 : Int32)), .val (.int (1 : Int32)), .unset] [(.int (11 : Int32)), (.int p1)]))
        refine own_pre (fun _ k => XS.iushr X6.here hx rfl (hb hby at_76) rfl k) ?_
        show OwnGoes p e below _ (T6.setTop (mkF m 77 #[.val (.int p1), .val (.int (3 : Int32)), .val (.int (1 : Int32)), .unset] [(.int ((p1.toUInt32 >>> ((11 : Int32) &&& 31).toUInt32).toInt32))]))
        refine own_pre (fun _ k => XS.ifNo X6.here hx rfl (hb hby at_77) rfl ((if0 _ _).trans (feq (fun q => absurd ((own_z p1 (11 : Int32) 11 (by decide) (by decide) (by rw [own_neg] at h6; omega)).mp q) (by show ¬ p1.toInt < 2 ^ 11; omega) : ¬ (((p1.toUInt32 >>> ((11 : Int32) &&& 31).toUInt32).toInt32) = (0 : Int32)))).1) k) ?_
        show OwnGoes p e below _ (T6.setTop (mkF m 80 #[.val (.int p1), .val (.int (3 : Int32)), .val (.int (1 : Int32)), .unset] []))
        refine own_pre (fun _ k => XS.iconst X6.here hx rfl (hb hby at_80) k) ?_
        show OwnGoes p e below _ (T6.setTop (mkF m 81 #[.val (.int p1), .val (.int (3 : Int32)), .val (.int (1 : Int32)), .unset] [(.int (1 : Int32))]))
        refine own_pre (fun _ k => XS.goto X6.here hx rfl (pc0 := 81) (pc' := 85) rfl (hb hby at_81) (by decide) (by decide) k) ?_
        show OwnGoes p e below _ (T6.setTop (mkF m 85 #[.val (.int p1), .val (.int (3 : Int32)), .val (.int (1 : Int32)), .unset] [(.int (1 : Int32))]))
        refine own_pre (fun _ k => XS.istoreN X6.here hx rfl (hb hby at_85) rfl (l' := #[.val (.int p1), .val (.int (3 : Int32)), .val (.int (1 : Int32)), .val (.int (1 : Int32))]) rfl k) ?_
        show OwnGoes p e below _ (T6.setTop (mkF m 86 #[.val (.int p1), .val (.int (3 : Int32)), .val (.int (1 : Int32)), .val (.int (1 : Int32))] []))
        refine own_pre (fun _ k => XS.iloadN X6.here hx rfl (hb hby at_86) rfl k) ?_
        show OwnGoes p e below _ (T6.setTop (mkF m 87 #[.val (.int p1), .val (.int (3 : Int32)), .val (.int (1 : Int32)), .val (.int (1 : Int32))] [(.int (1 : Int32))]))
        refine own_pre (fun _ k => XS.ifNo X6.here hx rfl (hb hby at_87) rfl ((if0 _ _).trans (feq (by decide : ¬ ((1 : Int32) = (0 : Int32)))).1) k) ?_
        show OwnGoes p e below _ (T6.setTop (mkF m 90 #[.val (.int p1), .val (.int (3 : Int32)), .val (.int (1 : Int32)), .val (.int (1 : Int32))] []))
        refine own_pre (fun _ k => XS.iloadN X6.here hx rfl (hb hby at_90) rfl k) ?_
        show OwnGoes p e below _ (T6.setTop (mkF m 91 #[.val (.int p1), .val (.int (3 : Int32)), .val (.int (1 : Int32)), .val (.int (1 : Int32))] [(.int (1 : Int32))]))
        refine own_pre (fun _ k => XS.ifNo X6.here hx rfl (hb hby at_91) rfl ((if0 _ _).trans (feq (by decide : ¬ ((1 : Int32) = (0 : Int32)))).1) k) ?_
        show OwnGoes p e below _ (T6.setTop (mkF m 94 #[.val (.int p1), .val (.int (3 : Int32)), .val (.int (1 : Int32)), .val (.int (1 : Int32))] []))
        refine own_pre (fun _ k => XS.iconst X6.here hx rfl (hb hby at_94) k) ?_
        show OwnGoes p e below _ (T6.setTop (mkF m 95 #[.val (.int p1), .val (.int (3 : Int32)), .val (.int (1 : Int32)), .val (.int (1 : Int32))] [(.int (1 : Int32))]))
        refine own_pre (fun _ k => XS.goto X6.here hx rfl (pc0 := 95) (pc' := 99) rfl (hb hby at_95) (by decide) (by decide) k) ?_
        show OwnGoes p e below _ (T6.setTop (mkF m 99 #[.val (.int p1), .val (.int (3 : Int32)), .val (.int (1 : Int32)), .val (.int (1 : Int32))] [(.int (1 : Int32))]))
        exact own_ret X6 hx Bd.returns (rfl) (Or.inl ⟨rfl, by simp, _, rfl⟩) Bd.notSynchronized (hb hby at_99) ⟨rfl, N6⟩ (by decide) (by decide)
  · show OwnGoes p e below _ (T1.setTop (mkF m 4 #[.val (.int p1), .unset, .unset, .unset] [(.int (4 : Int32))]))
    refine own_pre (fun _ k => XS.istoreN X1.here hx rfl (hb hby at_4) rfl (l' := #[.val (.int p1), .val (.int (4 : Int32)), .unset, .unset]) rfl k) ?_
    show OwnGoes p e below _ (T1.setTop (mkF m 5 #[.val (.int p1), .val (.int (4 : Int32)), .unset, .unset] []))
    refine own_pre (fun _ k => XS.iloadN X1.here hx rfl (hb hby at_5) rfl k) ?_
    show OwnGoes p e below _ (T1.setTop (mkF m 6 #[.val (.int p1), .val (.int (4 : Int32)), .unset, .unset] [(.int p1)]))
    by_cases h6 : p1 < (0 : Int32)
    · exact absurd ((own_neg p1).mp h6) (by omega)
    · refine own_pre (fun _ k => XS.ifYes X1.here hx rfl (pc0 := 6) (pc' := 20) rfl (hb hby at_6) rfl ((if0 _ _).trans (flt h6).2.1) (by decide) (by decide) k) ?_
      show OwnGoes p e below _ (T1.setTop (mkF m 20 #[.val (.int p1), .val (.int (4 : Int32)), .unset, .unset] []))
      refine own_pre (fun _ k => XS.iloadN X1.here hx rfl (hb hby at_20) rfl k) ?_
      show OwnGoes p e below _ (T1.setTop (mkF m 21 #[.val (.int p1), .val (.int (4 : Int32)), .unset, .unset] [(.int p1)]))
      refine own_pre (fun _ k => X1.ldcInt hx hown (mvT hZ (hw _ (List.mem_of_getElem? (i := 4) rfl))) (g := (mkF m 21 #[.val (.int p1), .val (.int (4 : Int32)), .unset, .unset] [(.int p1)])) rfl (hb hby at_21) _ k) ?_
      show OwnGoes p e below _ (T1.setTop (mkF m 23 #[.val (.int p1), .val (.int (4 : Int32)), .unset, .unset] [(.int (1114111 : Int32)), (.int p1)]))
      by_cases h23 : (1114111 : Int32) < p1
      · refine own_pre (fun _ k => XS.icmpNo X1.here hx rfl (hb hby at_23) rfl (tlt h23).2.2.2 k) ?_
        show OwnGoes p e below _ (T1.setTop (mkF m 26 #[.val (.int p1), .val (.int (4 : Int32)), .unset, .unset] []))
        refine own_pre (fun _ k => XS.iloadN X1.here hx rfl (hb hby at_26) rfl k) ?_
        show OwnGoes p e below _ (T1.setTop (mkF m 27 #[.val (.int p1), .val (.int (4 : Int32)), .unset, .unset] [(.int (4 : Int32))]))
        refine own_pre (fun _ k => XS.iconst X1.here hx rfl (hb hby at_27) k) ?_
        show OwnGoes p e below _ (T1.setTop (mkF m 28 #[.val (.int p1), .val (.int (4 : Int32)), .unset, .unset] [(.int (4 : Int32)), (.int (4 : Int32))]))
        refine own_pre (fun _ k => XS.icmpNo X1.here hx rfl (hb hby at_28) rfl (teq (by decide : (4 : Int32) = (4 : Int32))).2 k) ?_
        show OwnGoes p e below _ (T1.setTop (mkF m 31 #[.val (.int p1), .val (.int (4 : Int32)), .unset, .unset] []))
        refine own_pre (fun _ k => XS.iconst X1.here hx rfl (hb hby at_31) k) ?_
        show OwnGoes p e below _ (T1.setTop (mkF m 32 #[.val (.int p1), .val (.int (4 : Int32)), .unset, .unset] [(.int (1 : Int32))]))
        refine own_pre (fun _ k => XS.goto X1.here hx rfl (pc0 := 32) (pc' := 36) rfl (hb hby at_32) (by decide) (by decide) k) ?_
        show OwnGoes p e below _ (T1.setTop (mkF m 36 #[.val (.int p1), .val (.int (4 : Int32)), .unset, .unset] [(.int (1 : Int32))]))
        exact own_ret X1 hx Bd.returns (rfl) (Or.inl ⟨rfl, by simp, _, rfl⟩) Bd.notSynchronized (hb hby at_36) ⟨rfl, N1⟩ (by decide) (by decide)
      · refine own_pre (fun _ k => XS.icmpYes X1.here hx rfl (pc0 := 23) (pc' := 37) rfl (hb hby at_23) rfl (flt h23).2.2.2 (by decide) (by decide) k) ?_
        show OwnGoes p e below _ (T1.setTop (mkF m 37 #[.val (.int p1), .val (.int (4 : Int32)), .unset, .unset] []))
        refine own_pre (fun _ k => XS.iloadN X1.here hx rfl (hb hby at_37) rfl k) ?_
        show OwnGoes p e below _ (T1.setTop (mkF m 38 #[.val (.int p1), .val (.int (4 : Int32)), .unset, .unset] [(.int (4 : Int32))]))
        refine own_pre (fun _ k => XS.iconst X1.here hx rfl (hb hby at_38) k) ?_
        show OwnGoes p e below _ (T1.setTop (mkF m 39 #[.val (.int p1), .val (.int (4 : Int32)), .unset, .unset] [(.int (1 : Int32)), (.int (4 : Int32))]))
        refine own_pre (fun _ k => XS.icmpNo X1.here hx rfl (hb hby at_39) rfl (flt (by decide : ¬ ((4 : Int32) < (1 : Int32)))).1 k) ?_
        show OwnGoes p e below _ (T1.setTop (mkF m 42 #[.val (.int p1), .val (.int (4 : Int32)), .unset, .unset] []))
        refine own_pre (fun _ k => XS.iloadN X1.here hx rfl (hb hby at_42) rfl k) ?_
        show OwnGoes p e below _ (T1.setTop (mkF m 43 #[.val (.int p1), .val (.int (4 : Int32)), .unset, .unset] [(.int (4 : Int32))]))
        refine own_pre (fun _ k => XS.iconst X1.here hx rfl (hb hby at_43) k) ?_
        show OwnGoes p e below _ (T1.setTop (mkF m 44 #[.val (.int p1), .val (.int (4 : Int32)), .unset, .unset] [(.int (4 : Int32)), (.int (4 : Int32))]))
        refine own_pre (fun _ k => XS.icmpYes X1.here hx rfl (pc0 := 44) (pc' := 49) rfl (hb hby at_44) rfl (flt (by decide : ¬ ((4 : Int32) < (4 : Int32)))).2.2.2 (by decide) (by decide) k) ?_
        show OwnGoes p e below _ (T1.setTop (mkF m 49 #[.val (.int p1), .val (.int (4 : Int32)), .unset, .unset] []))
        refine own_pre (fun _ k => XS.iloadN X1.here hx rfl (hb hby at_49) rfl k) ?_
        show OwnGoes p e below _ (T1.setTop (mkF m 50 #[.val (.int p1), .val (.int (4 : Int32)), .unset, .unset] [(.int p1)]))
        refine own_pre (fun _ k => XS.iloadN X1.here hx rfl (hb hby at_50) rfl k) ?_
        show OwnGoes p e below _ (T1.setTop (mkF m 51 #[.val (.int p1), .val (.int (4 : Int32)), .unset, .unset] [(.int (4 : Int32)), (.int p1)]))
        obtain ⟨_, _, ⟨T7, L7, k7, n7⟩, -, X7, ⟨Lc7, hQ7, l7, y7, z7⟩, st7⟩ := Jvm.LawKit.callS X1 hx (y := (⟨"com/example/holdfast/holdfast/store/ByteSinkEncodedBytesPinLaw", "payloadBits", "(I)I"⟩ : MethodName)) hown (mvT hZ (hw _ (List.mem_of_getElem? (i := 5) rfl))) (mvT hZ (hw _ (List.mem_of_getElem? (i := 6) rfl))) (mvT hZ (hw _ (List.mem_of_getElem? (i := 7) rfl))) (mvT hZ (hw _ (List.mem_of_getElem? (i := 8) rfl))) (by decide) (backOf (W := 1) (rm2 l Z a0 hw [] (4 : Int32) (21 : Int32) h0 n0 Z0 (by decide)) hZ (hw _ (List.mem_of_getElem? (i := 8) rfl)) (hw _ (List.mem_of_getElem? (i := 7) rfl)) (by decide) (by decide)) (g := (mkF m 51 #[.val (.int p1), .val (.int (4 : Int32)), .unset, .unset] [(.int (4 : Int32)), (.int p1)])) rfl (by rw [hml]; rfl) (argsL := [(.int (4 : Int32))]) (rest := [(.int p1)]) (lenOf (d := "(I)I") (ps := [.int]) (r := some .int) (by decide +kernel) rfl) rfl (by show 2 * 0 + _ ≤ _; exact Nat.le_of_eq rfl) (hb hby at_51) (fun _ _ => ⟨rfl, e1, (by decide : 0 + 0 ≤ _), (by decide : 0 + 0 ≤ _)⟩)
        dsimp only [Pt.U, Pt.locs, Pt.cells, Pt.slots] at X7 l7 y7 z7 st7 hQ7
        subst l7 y7 z7
        obtain ⟨rfl, N7q, e7⟩ := hQ7
        have N7 := Fr.app N1 N7q
        refine own_pre st7 ?_
        show OwnGoes p e below _ (T7.setTop (mkF m 54 #[.val (.int p1), .val (.int (4 : Int32)), .unset, .unset] [(.int (21 : Int32)), (.int p1)]))
        refine own_pre (fun _ k => XS.iushr X7.here hx rfl (hb hby at_54) rfl k) ?_
        show OwnGoes p e below _ (T7.setTop (mkF m 55 #[.val (.int p1), .val (.int (4 : Int32)), .unset, .unset] [(.int ((p1.toUInt32 >>> ((21 : Int32) &&& 31).toUInt32).toInt32))]))
        refine own_pre (fun _ k => XS.ifNo X7.here hx rfl (hb hby at_55) rfl ((if0 _ _).trans (teq ((own_z p1 (21 : Int32) 21 (by decide) (by decide) (by rw [own_neg] at h6; omega)).mpr (by rw [own_big] at h23; first | (show p1.toInt < 2 ^ 21; omega) | omega) : ((p1.toUInt32 >>> ((21 : Int32) &&& 31).toUInt32).toInt32) = (0 : Int32))).2) k) ?_
        show OwnGoes p e below _ (T7.setTop (mkF m 58 #[.val (.int p1), .val (.int (4 : Int32)), .unset, .unset] []))
        refine own_pre (fun _ k => XS.iconst X7.here hx rfl (hb hby at_58) k) ?_
        show OwnGoes p e below _ (T7.setTop (mkF m 59 #[.val (.int p1), .val (.int (4 : Int32)), .unset, .unset] [(.int (1 : Int32))]))
        refine own_pre (fun _ k => XS.goto X7.here hx rfl (pc0 := 59) (pc' := 63) rfl (hb hby at_59) (by decide) (by decide) k) ?_
        show OwnGoes p e below _ (T7.setTop (mkF m 63 #[.val (.int p1), .val (.int (4 : Int32)), .unset, .unset] [(.int (1 : Int32))]))
        refine own_pre (fun _ k => XS.istoreN X7.here hx rfl (hb hby at_63) rfl (l' := #[.val (.int p1), .val (.int (4 : Int32)), .val (.int (1 : Int32)), .unset]) rfl k) ?_
        show OwnGoes p e below _ (T7.setTop (mkF m 64 #[.val (.int p1), .val (.int (4 : Int32)), .val (.int (1 : Int32)), .unset] []))
        refine own_pre (fun _ k => XS.iloadN X7.here hx rfl (hb hby at_64) rfl k) ?_
        show OwnGoes p e below _ (T7.setTop (mkF m 65 #[.val (.int p1), .val (.int (4 : Int32)), .val (.int (1 : Int32)), .unset] [(.int (4 : Int32))]))
        refine own_pre (fun _ k => XS.iconst X7.here hx rfl (hb hby at_65) k) ?_
        show OwnGoes p e below _ (T7.setTop (mkF m 66 #[.val (.int p1), .val (.int (4 : Int32)), .val (.int (1 : Int32)), .unset] [(.int (1 : Int32)), (.int (4 : Int32))]))
        refine own_pre (fun _ k => XS.icmpNo X7.here hx rfl (hb hby at_66) rfl (feq (by decide : ¬ ((4 : Int32) = (1 : Int32)))).1 k) ?_
        show OwnGoes p e below _ (T7.setTop (mkF m 69 #[.val (.int p1), .val (.int (4 : Int32)), .val (.int (1 : Int32)), .unset] []))
        refine own_pre (fun _ k => XS.iloadN X7.here hx rfl (hb hby at_69) rfl k) ?_
        show OwnGoes p e below _ (T7.setTop (mkF m 70 #[.val (.int p1), .val (.int (4 : Int32)), .val (.int (1 : Int32)), .unset] [(.int p1)]))
        refine own_pre (fun _ k => XS.iloadN X7.here hx rfl (hb hby at_70) rfl k) ?_
        show OwnGoes p e below _ (T7.setTop (mkF m 71 #[.val (.int p1), .val (.int (4 : Int32)), .val (.int (1 : Int32)), .unset] [(.int (4 : Int32)), (.int p1)]))
        refine own_pre (fun _ k => XS.iconst X7.here hx rfl (hb hby at_71) k) ?_
        show OwnGoes p e below _ (T7.setTop (mkF m 72 #[.val (.int p1), .val (.int (4 : Int32)), .val (.int (1 : Int32)), .unset] [(.int (1 : Int32)), (.int (4 : Int32)), (.int p1)]))
        refine own_pre (fun _ k => XS.isub X7.here hx rfl (hb hby at_72) rfl k) ?_
        show OwnGoes p e below _ (T7.setTop (mkF m 73 #[.val (.int p1), .val (.int (4 : Int32)), .val (.int (1 : Int32)), .unset] [(.int ((4 : Int32) - (1 : Int32))), (.int p1)]))
        obtain ⟨_, _, ⟨T8, L8, k8, n8⟩, -, X8, ⟨Lc8, hQ8, l8, y8, z8⟩, st8⟩ := Jvm.LawKit.callS X7 hx (y := (⟨"com/example/holdfast/holdfast/store/ByteSinkEncodedBytesPinLaw", "payloadBits", "(I)I"⟩ : MethodName)) hown (mvT hZ (hw _ (List.mem_of_getElem? (i := 5) rfl))) (mvT hZ (hw _ (List.mem_of_getElem? (i := 6) rfl))) (mvT hZ (hw _ (List.mem_of_getElem? (i := 7) rfl))) (mvT hZ (hw _ (List.mem_of_getElem? (i := 8) rfl))) (by decide) (backOf (W := 1) (rm2 l Z a0 hw [] ((4 : Int32) - (1 : Int32)) (16 : Int32) h0 n0 Z0 (by decide)) hZ (hw _ (List.mem_of_getElem? (i := 8) rfl)) (hw _ (List.mem_of_getElem? (i := 7) rfl)) (by decide) (by decide)) (g := (mkF m 73 #[.val (.int p1), .val (.int (4 : Int32)), .val (.int (1 : Int32)), .unset] [(.int ((4 : Int32) - (1 : Int32))), (.int p1)])) rfl (by rw [hml]; rfl) (argsL := [(.int ((4 : Int32) - (1 : Int32)))]) (rest := [(.int p1)]) (lenOf (d := "(I)I") (ps := [.int]) (r := some .int) (by decide +kernel) rfl) rfl (by show 2 * 0 + _ ≤ _; exact Nat.le_of_eq rfl) (hb hby at_73) (fun _ _ => ⟨rfl, e7, (by decide : 0 + 0 ≤ _), (by decide : 0 + 0 ≤ _)⟩)
        dsimp only [Pt.U, Pt.locs, Pt.cells, Pt.slots] at X8 l8 y8 z8 st8 hQ8
        subst l8 y8 z8
        obtain ⟨rfl, N8q, e8⟩ := hQ8
        have N8 := Fr.app N7 N8q
        refine own_pre st8 ?_
        show OwnGoes p e below _ (T8.setTop (mkF m 76 #[.val (.int p1), .val (.int (4 : Int32)), .val (.int (1 : Int32)), .unset] [(.int (16 : Int32)), (.int p1)]))
        refine own_pre (fun _ k => XS.iushr X8.here hx rfl (hb hby at_76) rfl k) ?_
        show OwnGoes p e below _ (T8.setTop (mkF m 77 #[.val (.int p1), .val (.int (4 : Int32)), .val (.int (1 : Int32)), .unset] [(.int ((p1.toUInt32 >>> ((16 : Int32) &&& 31).toUInt32).toInt32))]))
        refine own_pre (fun _ k => XS.ifNo X8.here hx rfl (hb hby at_77) rfl ((if0 _ _).trans (feq (fun q => absurd ((own_z p1 (16 : Int32) 16 (by decide) (by decide) (by rw [own_neg] at h6; omega)).mp q) (by show ¬ p1.toInt < 2 ^ 16; omega) : ¬ (((p1.toUInt32 >>> ((16 : Int32) &&& 31).toUInt32).toInt32) = (0 : Int32)))).1) k) ?_
        show OwnGoes p e below _ (T8.setTop (mkF m 80 #[.val (.int p1), .val (.int (4 : Int32)), .val (.int (1 : Int32)), .unset] []))
        refine own_pre (fun _ k => XS.iconst X8.here hx rfl (hb hby at_80) k) ?_
        show OwnGoes p e below _ (T8.setTop (mkF m 81 #[.val (.int p1), .val (.int (4 : Int32)), .val (.int (1 : Int32)), .unset] [(.int (1 : Int32))]))
        refine own_pre (fun _ k => XS.goto X8.here hx rfl (pc0 := 81) (pc' := 85) rfl (hb hby at_81) (by decide) (by decide) k) ?_
        show OwnGoes p e below _ (T8.setTop (mkF m 85 #[.val (.int p1), .val (.int (4 : Int32)), .val (.int (1 : Int32)), .unset] [(.int (1 : Int32))]))
        refine own_pre (fun _ k => XS.istoreN X8.here hx rfl (hb hby at_85) rfl (l' := #[.val (.int p1), .val (.int (4 : Int32)), .val (.int (1 : Int32)), .val (.int (1 : Int32))]) rfl k) ?_
        show OwnGoes p e below _ (T8.setTop (mkF m 86 #[.val (.int p1), .val (.int (4 : Int32)), .val (.int (1 : Int32)), .val (.int (1 : Int32))] []))
        refine own_pre (fun _ k => XS.iloadN X8.here hx rfl (hb hby at_86) rfl k) ?_
        show OwnGoes p e below _ (T8.setTop (mkF m 87 #[.val (.int p1), .val (.int (4 : Int32)), .val (.int (1 : Int32)), .val (.int (1 : Int32))] [(.int (1 : Int32))]))
        refine own_pre (fun _ k => XS.ifNo X8.here hx rfl (hb hby at_87) rfl ((if0 _ _).trans (feq (by decide : ¬ ((1 : Int32) = (0 : Int32)))).1) k) ?_
        show OwnGoes p e below _ (T8.setTop (mkF m 90 #[.val (.int p1), .val (.int (4 : Int32)), .val (.int (1 : Int32)), .val (.int (1 : Int32))] []))
        refine own_pre (fun _ k => XS.iloadN X8.here hx rfl (hb hby at_90) rfl k) ?_
        show OwnGoes p e below _ (T8.setTop (mkF m 91 #[.val (.int p1), .val (.int (4 : Int32)), .val (.int (1 : Int32)), .val (.int (1 : Int32))] [(.int (1 : Int32))]))
        refine own_pre (fun _ k => XS.ifNo X8.here hx rfl (hb hby at_91) rfl ((if0 _ _).trans (feq (by decide : ¬ ((1 : Int32) = (0 : Int32)))).1) k) ?_
        show OwnGoes p e below _ (T8.setTop (mkF m 94 #[.val (.int p1), .val (.int (4 : Int32)), .val (.int (1 : Int32)), .val (.int (1 : Int32))] []))
        refine own_pre (fun _ k => XS.iconst X8.here hx rfl (hb hby at_94) k) ?_
        show OwnGoes p e below _ (T8.setTop (mkF m 95 #[.val (.int p1), .val (.int (4 : Int32)), .val (.int (1 : Int32)), .val (.int (1 : Int32))] [(.int (1 : Int32))]))
        refine own_pre (fun _ k => XS.goto X8.here hx rfl (pc0 := 95) (pc' := 99) rfl (hb hby at_95) (by decide) (by decide) k) ?_
        show OwnGoes p e below _ (T8.setTop (mkF m 99 #[.val (.int p1), .val (.int (4 : Int32)), .val (.int (1 : Int32)), .val (.int (1 : Int32))] [(.int (1 : Int32))]))
        exact own_ret X8 hx Bd.returns (rfl) (Or.inl ⟨rfl, by simp, _, rfl⟩) Bd.notSynchronized (hb hby at_99) ⟨rfl, N8⟩ (by decide) (by decide)
set_option maxRecDepth 65536 in
set_option maxHeartbeats 40000000 in
theorem comes_1 {Post : Tables → Env → Array Value → State → Outcome → State → Prop} (hpost : ∀ tb e args s v u, (limb_1_1.after args s (.returned v) u = true ∧ limb_1_2.after args s (.returned v) u = true ∧ True) → FrameEnd s (.returned v) u (Jvm.fieldLocs frame_1_writes args s ++ Jvm.arrayLocs frame_1_arrays args s ++ Jvm.staticLocs frame_1_statics s) 0 0 → Post tb e args s (.returned v) u) :
    ArmFor flags0 classFile x code maxLocals ret World_1 tables_1 room_1 Calls_1 rest_1 Pre_1 Post := by
  intro l hfl _ _ p e ha hc hk s m args below hf hA hF happ hP
  obtain ⟨hcalls, hrest, hpre⟩ := hP
  obtain ⟨-, -, -, hnamed, -, -, -, hat⟩ := (Spec.applies_iff hf).mp happ
  obtain ⟨hg, hn⟩ := and_e (Cond.before_iff.mp (show (Jvm.Cond.and given_1 narrow_1).before args s = true from hpre))
  obtain ⟨hcount, hgs⟩ := and_e hg
  have ha0 := hgs
  obtain ⟨w0, rfl⟩ : ∃ w0 : Value, args = #[w0] := by
    have hs : args.size = 1 := by simpa [Cond.value, given_1] using hcount
    obtain ⟨L⟩ := args
    match L, hs with
    | [w0], _ => exact ⟨w0, rfl⟩
  have hw := fun d (hd : d ∈ tables_1) => atoms_spec (ws := Jvm.Cond.code x code maxLocals ret :: tables_1) hat d (List.mem_cons_of_mem _ hd)
  have hfit : Fit s := fun {y c} hc i hi => by
    obtain ⟨ha, rfl⟩ := Array.getElem?_eq_some_iff.mp hc
    have q := List.all_eq_true.mp ((Array.all_eq_true_iff_forall_mem.mp hF) _ (Array.getElem_mem ha)) i (List.mem_range.mpr hi)
    simpa [Array.getElem?_eq_getElem hi] using q
  obtain ⟨i0, ei0⟩ := is_v ha0
  obtain rfl : w0 = (.int i0) := Option.some.inj ei0
  obtain ⟨n, o, h1, h2, h3, _, L, rfl, ⟨rfl, N⟩, hq⟩ := rm0 l s _ hw tables_1 i0 s.heap s.heap.size (Nat.le_refl _) p e ha hc hk s m _ below hf ((Spec.applies_iff_loose hf).mp happ).1 ⟨rfl, State.Warmed39.refl s, rfl⟩ trivial
  refine ⟨n, _, h1, h2, h3, hpost _ _ _ _ _ _ ⟨Cond.after_iff.mpr rfl, Cond.after_iff.mpr (eq_i res_at (Term.int_eval (1)) rfl), trivial⟩ ⟨hq.1, hq.2.1, (hq.2.2.sift fun y hy => Or.inr (N y hy)).mono (by decide) (by decide)⟩⟩
theorem main_1_1 : Claimed_1_1 := comes_1 fun _ _ _ _ _ _ h hF => ⟨h.1, hF⟩
theorem main_1_2 : Claimed_1_2 := comes_1 fun _ _ _ _ _ _ h hF => ⟨h.2.1, hF⟩
end Jvm.Pilot.@@N@@
namespace Jvm.Pilot.@@N@@
open Jvm Jvm.ClassFile Sem Op Lib Jvm.Free Jvm.Stand Jvm.Pilot.@@N@@.Jvm.D
/-! MADE BY PROGRAM (witnessworld.py) out of the Statement's table words and the real class files: 9 classes; the members and pool entries that the words name. The judged class is class 1, her method 2. -/
namespace start1
open Jvm.ClassFile
def u (s : String) : CpInfo := .utf8 (stringToUtf16 s)
/-- a pool by its gaps: so many unusable entries, then the entry; so many at the end -/
def gap : Nat → List CpInfo → List CpInfo
  | 0, r => r
  | n + 1, r => .unusable :: gap n r
def poolList (es : List (Nat × CpInfo)) (last : Nat) : List CpInfo := es.foldr (fun e r => gap e.1 (e.2 :: r)) (gap last [])
def pool (es : List (Nat × CpInfo)) (last : Nat) : Array CpInfo := ⟨poolList es last⟩
def fileOf (pool : Array CpInfo) (this : Nat) (attrs : Array Attribute := #[]) (ms : Array MethodInfo := #[]) (fl : Nat := 33) (sup : Nat := 0) (ifs : Array Nat := #[]) (fds : Array FieldInfo := #[]) : ClassFile where
  minorVersion := 0
  majorVersion := 65
  constantPool := pool
  accessFlags := fl
  thisClass := this
  superClass := sup
  interfaces := ifs
  fields := fds
  methods := ms
  attributes := attrs
def plain (name : String) (sup : Option ClassId) : Class where
  name := name
  kind := .ordinary
  loader := none
  accessFlags := 33
  super := sup
  interfaces := #[]
  cf := none
  fields := #[]
  methods := #[]
  instanceTypes := #[]
  staticTypes := #[]
  resolved := #[]
  callSites := []
  init := .initialized
  statics := none
  mirror := none

def pool0 : Array CpInfo := pool [(5, u "<init>"), (0, u "()V"), (1, .class_ 10), (1, u "java/lang/Object")] 113

def k0m0 : Method := { name := "<init>", desc := "()V", sig := { parameters := [], returnType := none }, accessFlags := 1, code := none }
/-- java/lang/Object -/
def k0 : Class := { plain "java/lang/Object" none with
  accessFlags := 33
  interfaces := #[]
  cf := some (fileOf pool0 8 #[] #[{ accessFlags := 1, nameIndex := 5, descriptorIndex := 6, attributes := #[] }] 33 0 #[] #[])
  fields := #[]
  methods := #[k0m0]
  instanceTypes := #[]
  staticTypes := #[]
  resolved := Array.replicate 124 none
  statics := none }

def pool1 : Array CpInfo := pool [(2, .class_ 4), (1, u "java/lang/Object"), (0, u "<init>"), (0, u "()V"), (0, .methodref 8 9), (0, .class_ 10), (0, .nameAndType 11 12), (0, u "com/example/holdfast/holdfast/store/ByteSink"), (0, u "encodedBytes"), (0, u "(I)I"), (0, .integer 1114111), (0, .methodref 15 16), (0, .class_ 17), (0, .nameAndType 18 12), (0, u "com/example/holdfast/holdfast/store/ByteSinkEncodedBytesPinLaw"), (0, u "payloadBits"), (3, u "law"), (0, u "(I)Z")] 2

def k1m0 : Method := { name := "<init>", desc := "()V", sig := { parameters := [], returnType := none }, accessFlags := 1, code := none }
def k1c1 : Code := { maxStack := 2, maxLocals := 1, code := method_2_code, exceptionTable := #[], attributes := #[] }
def k1m1 : Method := { name := "payloadBits", desc := "(I)I", sig := { parameters := [.int], returnType := some .int }, accessFlags := 10, code := some k1c1 }
def k1c2 : Code := { maxStack := 3, maxLocals := 4, code := code, exceptionTable := #[], attributes := #[] }
def k1m2 : Method := { name := "law", desc := "(I)Z", sig := { parameters := [.int], returnType := some .boolean }, accessFlags := 9, code := some k1c2 }
/-- com/example/holdfast/holdfast/store/ByteSinkEncodedBytesPinLaw -/
def k1 : Class := { plain "com/example/holdfast/holdfast/store/ByteSinkEncodedBytesPinLaw" (some 0) with
  accessFlags := 49
  interfaces := #[]
  cf := some (fileOf pool1 15 #[] #[{ accessFlags := 1, nameIndex := 5, descriptorIndex := 6, attributes := #[] }, { accessFlags := 10, nameIndex := 18, descriptorIndex := 12, attributes := #[] }, { accessFlags := 9, nameIndex := 22, descriptorIndex := 23, attributes := #[] }] 49 2 #[] #[])
  fields := #[]
  methods := #[k1m0, k1m1, k1m2]
  instanceTypes := #[]
  staticTypes := #[]
  resolved := Array.replicate 26 none
  statics := none }

def pool2 : Array CpInfo := pool [(2, .class_ 4), (1, u "java/lang/Object"), (0, u "<init>"), (0, u "()V"), (1, .class_ 10), (1, u "com/example/holdfast/holdfast/store/ByteSink"), (0, u "bytes"), (0, u "[B"), (2, u "size"), (0, u "I"), (123, u "(I)I"), (8, u "encodedBytes"), (3, .integer 65536)] 22

def k2m0 : Method := { name := "<init>", desc := "()V", sig := { parameters := [], returnType := none }, accessFlags := 1, code := none }
def k2c1 : Code := { maxStack := 2, maxLocals := 2, code := prog_86_method_23_code, exceptionTable := #[], attributes := #[] }
def k2m1 : Method := { name := "encodedBytes", desc := "(I)I", sig := { parameters := [.int], returnType := some .int }, accessFlags := 8, code := some k2c1 }
/-- com/example/holdfast/holdfast/store/ByteSink -/
def k2 : Class := { plain "com/example/holdfast/holdfast/store/ByteSink" (some 0) with
  accessFlags := 49
  interfaces := #[]
  cf := some (fileOf pool2 8 #[] #[{ accessFlags := 1, nameIndex := 5, descriptorIndex := 6, attributes := #[] }, { accessFlags := 8, nameIndex := 149, descriptorIndex := 140, attributes := #[] }] 49 2 #[] #[{ accessFlags := 2, nameIndex := 11, descriptorIndex := 12, attributes := #[] }, { accessFlags := 2, nameIndex := 15, descriptorIndex := 16, attributes := #[] }])
  fields := #[{ name := "bytes", type := (.array .byte), accessFlags := 2, slot := 0, constantValue := 0 }, { name := "size", type := .int, accessFlags := 2, slot := 1, constantValue := 0 }]
  methods := #[k2m0, k2m1]
  instanceTypes := #[(.array .byte), .int]
  staticTypes := #[]
  resolved := Array.replicate 176 none
  statics := none }

def pool3 : Array CpInfo := pool [(1, u "java/lang/Cloneable"), (0, .class_ 1), (0, u "java/lang/Object"), (0, .class_ 3)] 3

/-- java/lang/Cloneable -/
def k3 : Class := { plain "java/lang/Cloneable" (some 0) with
  accessFlags := 1537
  interfaces := #[]
  cf := some (fileOf pool3 2 #[] #[] 1537 4 #[] #[])
  fields := #[]
  methods := #[]
  instanceTypes := #[]
  staticTypes := #[]
  resolved := Array.replicate 8 none
  statics := none }

def pool4 : Array CpInfo := pool [(1, u "java/io/Serializable"), (0, .class_ 1), (0, u "java/lang/Object"), (0, .class_ 3)] 3

/-- java/io/Serializable -/
def k4 : Class := { plain "java/io/Serializable" (some 0) with
  accessFlags := 1537
  interfaces := #[]
  cf := some (fileOf pool4 2 #[] #[] 1537 4 #[] #[])
  fields := #[]
  methods := #[]
  instanceTypes := #[]
  staticTypes := #[]
  resolved := Array.replicate 8 none
  statics := none }

/-- the primitive byte -/
def k5 : Class := { plain "byte" none with kind := .primitive 'B', accessFlags := 0x411 }
/-- [B -/
def k6 : Class := { plain "[B" (some 0) with kind := .array 5 .byte, interfaces := #[3, 4], accessFlags := 1041 }

/-- the primitive int -/
def k7 : Class := { plain "int" none with kind := .primitive 'I', accessFlags := 0x411 }
/-- [I -/
def k8 : Class := { plain "[I" (some 0) with kind := .array 7 .int, interfaces := #[3, 4], accessFlags := 1041 }

def heap : Heap := #[]
def classes : Array Class := #[k0, k1, k2, k3, k4, k5, k6, k7, k8]
def interned : List (Array UInt16 × Addr) := []
def slotsUsed : Nat := 0
def theMethod : MethodId := ⟨1, 2⟩
def args0 : Array Value := #[.int 65]
def aboutOver (below : List Frame) : State where
  vm := { classes := classes, interned := interned.toArray }
  heap := heap
  slotsUsed := slotsUsed
  threads := #[{ frames := .invoking theMethod args0 :: below }]
def below0 : List Frame := [.native { method := ⟨0, 0⟩, args := #[] }]
def about1 : State := aboutOver below0
def p0 : Program := .bare "" "" ""
def e0 : Env := launch0.env 0 0 0
theorem w_frames : about1.frames = Frame.invoking theMethod args0 :: below0 := rfl
set_option maxRecDepth 65536 in
theorem w_args : argsFit about1.vm theMethod args0 = true := by decide +kernel
set_option maxRecDepth 65536 in
theorem w_heap : heapFits about1 = true := by decide +kernel
set_option maxRecDepth 65536 in
theorem w_runnable : about1.curStatus? = some .runnable := by decide +kernel
set_option maxRecDepth 65536 in
theorem w_alone : about1.alone = true := by decide +kernel
set_option maxRecDepth 65536 in
theorem w_named : about1.methodNamed? x = some theMethod := by decide +kernel
set_option maxRecDepth 65536 in
theorem w_hears : about1.hears theMethod below0 = true := by decide +kernel
set_option maxRecDepth 65536 in
theorem w_ripe : about1.ripe theMethod args0 below0 = true := by decide +kernel
theorem w_running : about1.status = .running := rfl
set_option maxRecDepth 65536 in
theorem w_room : about1.hasRoom e0.platform room_1 = true :=
  launch0.hasRoom_least _ room_1 (by decide +kernel) (by decide +kernel) (by decide +kernel) (by decide +kernel) (by decide +kernel) (by decide +kernel)
theorem allAtoms_all (ts : List Jvm.Cond) (a : Array Jvm.Value) (st : Jvm.State) : (allAtoms ts).before a st = ts.all (fun c => c.before a st) := by
  induction ts with
  | nil => rfl
  | cons c t ih =>
    show (Jvm.Cond.and c (allAtoms t)).before a st = _
    rw [Jvm.Cond.before_and, ih, List.all_cons]
def words1 : List Jvm.Cond := Jvm.Cond.code x code maxLocals ret :: tables_1
/-- a 'code' word, met by the world's own term for the bytes: nothing is compared byte by byte -/
theorem code_word {y : MethodName} {bytes : ByteArray} {mx : Nat} {rt : Option FieldType} {a : Array Value} {s : State} {m : MethodId} {meth : Method} {c : Code} (h1 : s.methodNamed? y = some m) (h2 : s.vm.method? m = some meth) (h3 : meth.code = some c) (h4 : c.code = bytes)
    (h5 : (c.maxLocals == mx && c.exceptionTable.isEmpty && decide (c.maxStack ≤ mostOperands) && decide (meth.sig.returnType = rt) && !meth.locks && decide (parseMethodDescriptor y.desc = some meth.sig)) = true) : (Jvm.Cond.code y bytes mx rt).before a s = true := by
  simp only [Bool.and_eq_true, beq_iff_eq, Bool.not_eq_true', decide_eq_true_eq] at h5
  obtain ⟨⟨⟨⟨⟨g1, g2⟩, g3⟩, g4⟩, g5⟩, g6⟩ := h5
  simp [Cond.before, Cond.holds, Cond.value, h1, h2, h3, h4, g1, g2, g3, g4, g5, g6]
def isCode : Jvm.Cond → Bool
  | .code _ _ _ _ => true
  | _ => false
theorem all_split {L : List Jvm.Cond} {P : Jvm.Cond → Bool} (h1 : L.all (fun c => isCode c || P c) = true) (h2 : ∀ c ∈ L.filter isCode, P c = true) : L.all P = true := by
  refine List.all_eq_true.mpr fun c hc => ?_
  have h := List.all_eq_true.mp h1 c hc
  rcases Bool.eq_false_or_eq_true (isCode c) with hi | hi
  · exact h2 c (List.mem_filter.mpr ⟨hc, hi⟩)
  · simpa [hi] using h
set_option maxRecDepth 65536 in
theorem w_c0 : (Jvm.Cond.code x code maxLocals ret).before args0 about1 = true := code_word (m := ⟨1, 2⟩) (meth := k1m2) (c := k1c2) (by decide +kernel) rfl rfl rfl (by decide +kernel)
set_option maxRecDepth 65536 in
theorem w_c1 : (Jvm.Cond.code ({ cls := "com/example/holdfast/holdfast/store/ByteSink", name := "encodedBytes", desc := "(I)I" } : Jvm.MethodName) prog_86_method_23_code (2 : Nat) (Option.some Jvm.ClassFile.FieldType.int)).before args0 about1 = true := code_word (m := ⟨2, 1⟩) (meth := k2m1) (c := k2c1) (by decide +kernel) rfl rfl rfl (by decide +kernel)
set_option maxRecDepth 65536 in
theorem w_c2 : (Jvm.Cond.code ({ cls := "com/example/holdfast/holdfast/store/ByteSinkEncodedBytesPinLaw", name := "payloadBits", desc := "(I)I" } : Jvm.MethodName) method_2_code (1 : Nat) (Option.some Jvm.ClassFile.FieldType.int)).before args0 about1 = true := code_word (m := ⟨1, 1⟩) (meth := k1m1) (c := k1c1) (by decide +kernel) rfl rfl rfl (by decide +kernel)
def codes1 : List Jvm.Cond := [Jvm.Cond.code x code maxLocals ret, Jvm.Cond.code ({ cls := "com/example/holdfast/holdfast/store/ByteSink", name := "encodedBytes", desc := "(I)I" } : Jvm.MethodName) prog_86_method_23_code (2 : Nat) (Option.some Jvm.ClassFile.FieldType.int), Jvm.Cond.code ({ cls := "com/example/holdfast/holdfast/store/ByteSinkEncodedBytesPinLaw", name := "payloadBits", desc := "(I)I" } : Jvm.MethodName) method_2_code (1 : Nat) (Option.some Jvm.ClassFile.FieldType.int)]
set_option maxRecDepth 65536 in
theorem codes_eq : words1.filter isCode = codes1 := rfl
theorem w_codes : ∀ c ∈ words1.filter isCode, c.before args0 about1 = true := by
  rw [codes_eq]
  intro c hc
  simp only [codes1, List.mem_cons, List.not_mem_nil, or_false] at hc
  rcases hc with rfl | rfl | rfl
  · exact w_c0
  · exact w_c1
  · exact w_c2
set_option maxRecDepth 65536 in
theorem w_t1 : words1.all (fun c => isCode c || c.before args0 about1) = true := by decide +kernel
theorem w_tables : (allAtoms (Jvm.Cond.code x code maxLocals ret :: tables_1)).before args0 about1 = true := by
  rw [allAtoms_all]
  show words1.all (fun c => c.before args0 about1) = true
  refine all_split ?_ w_codes
  rw [w_t1]
set_option maxRecDepth 65536 in
theorem w_case : (Jvm.Cond.and given_1 narrow_1).before args0 about1 = true := by decide +kernel
theorem w_applies : (headSpec (Jvm.Cond.code x code maxLocals ret :: tables_1) room_1).applies x e0.platform about1 = true :=
  (Spec.applies_iff w_frames).mpr ⟨w_running, w_runnable, w_alone, w_named, w_hears, w_ripe, w_room, w_tables⟩
theorem atStart : AtStart classFile x code maxLocals ret World_1 tables_1 room_1 Calls_1 rest_1 Pre_1 launch0 p0 e0 about1 theMethod args0 below0 :=
  ⟨lists_1, trivial, launch0.admits_env _ _ _, launch0.least_env, fairChoices_fair.cas, fairChoices_fair.clock, w_frames, w_args, w_heap, w_applies, trivial, trivial, w_case⟩
end start1
theorem witness_1 : WitnessClaimed_1 := ⟨start1.p0, start1.e0, start1.about1, start1.theMethod, start1.args0, start1.below0, start1.atStart⟩
end Jvm.Pilot.@@N@@

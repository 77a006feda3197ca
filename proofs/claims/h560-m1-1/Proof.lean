import JvmDerived
import JvmDerived.Pilot.@@N@@Statement
import JvmDerived.Pilot.@@N@@Code
set_option linter.unusedVariables false
set_option linter.unusedSimpArgs false
namespace Jvm.Pilot.@@N@@
open Jvm Jvm.ClassFile Sem Op Lib Jvm.Free Jvm.Stand Jvm.LawKit Jvm.RoadKit Bundle Jvm.Pilot.@@N@@.Jvm.D
/-! the walk in continuation style: 'from U the run comes to an end of which P holds' -/
def OwnGoes (p : Program) (e : Env) (below : List Frame) (P : Outcome → State → Prop) (U : State) : Prop := ∃ s₂ o, Steps p.tables e below U s₂ ∧ s₂.status = .running ∧ Ended s₂ below o ∧ P o s₂
theorem own_pre {p : Program} {e : Env} {below : List Frame} {P : Outcome → State → Prop} {U U' : State} (h : ∀ t, Steps p.tables e below U' t → Steps p.tables e below U t) (k : OwnGoes p e below P U') : OwnGoes p e below P U := by
  obtain ⟨s₂, o, h1, h2⟩ := k
  exact ⟨s₂, o, h _ h1, h2⟩
theorem own_tr {p : Program} {e : Env} {below : List Frame} {P : Outcome → State → Prop} {U U' : State} (h : Steps p.tables e below U U') (k : OwnGoes p e below P U') : OwnGoes p e below P U := own_pre (fun _ q => h.trans q) k
theorem own_ret {p : Program} {l : Launch} {e : Env} {R : Room} {s : State} {m : MethodId} {args : Array Value} {below : List Frame} {meth : Method} {c : Code} {T : State} {locs : List Loc} {cells slots : Nat}
    (X : Stand p l e R s m args below meth c T locs cells slots) (hx : p.tables.exec = Jvm.exec) {pc : Nat} {Ls : Array Slot} {w : Value} {t : FieldType} {i : Instr} {rest : List Value} (hret : meth.sig.returnType = some t) (hn : narrow t w = w)
    (hi : (i = .ireturn ∧ (t = .int ∨ t = .boolean ∨ t = .byte ∨ t = .char ∨ t = .short) ∧ ∃ z, w = .int z) ∨ (i = .lreturn ∧ t = .long ∧ ∃ z, w = .long z) ∨ (i = .dreturn ∧ t = .double ∧ ∃ z, w = .double z) ∨ (i = .freturn ∧ t = .float ∧ ∃ z, w = .float z) ∨ (i = .areturn ∧ t.isReference = true ∧ w.isRef = true))
    (hlocks : meth.locks = false) (hd : decode c.code pc = .ok (i, 1)) {Qh : Option Value → Heap → List Loc → Prop} {rc rs : Nat} (hQ : Qh (some w) T.heap locs) (hc : cells ≤ rc) (hs : slots ≤ rs) :
    OwnGoes p e below (fun o U' => ∃ v L, o = .returned v ∧ Qh v U'.heap L ∧ FrameEnd s o U' L rc rs) (T.setTop (mkF m pc Ls (w :: rest))) := by
  obtain ⟨fs, hr, hrun, hended, hW, hsame⟩ := X.leave (v := some w) (fun h => by rw [hret] at h; cases h) hlocks
  exact ⟨_, _, retOut X hx hret hn hi hd hr, hrun, hended, _, _, rfl, hQ, ⟨_, rfl⟩, hW, hsame.mono hc hs⟩
theorem own_retV {p : Program} {l : Launch} {e : Env} {R : Room} {s : State} {m : MethodId} {args : Array Value} {below : List Frame} {meth : Method} {c : Code} {T : State} {locs : List Loc} {cells slots : Nat}
    (X : Stand p l e R s m args below meth c T locs cells slots) (hx : p.tables.exec = Jvm.exec) {pc : Nat} {Ls : Array Slot} (hret : meth.sig.returnType = none) (hlocks : meth.locks = false) (hd : decode c.code pc = .ok (.return_, 1)) {Qh : Option Value → Heap → List Loc → Prop} {rc rs : Nat} (hQ : Qh none T.heap locs) (hc : cells ≤ rc) (hs : slots ≤ rs) :
    OwnGoes p e below (fun o U' => ∃ v L, o = .returned v ∧ Qh v U'.heap L ∧ FrameEnd s o U' L rc rs) (T.setTop (mkF m pc Ls [])) := by
  obtain ⟨fs, hr, hrun, hended, hW, hsame⟩ := X.leave (v := none) (fun _ => rfl) hlocks
  exact ⟨_, _, X.returnOut hx hret hd hr, hrun, hended, _, _, rfl, hQ, ⟨_, rfl⟩, hW, hsame.mono hc hs⟩

def own_sx (z : Int64) (k : Int32) : Int64 := z ^^^ ((z.toUInt64 >>> (k &&& 0x3f).toInt64.toUInt64).toInt64)
def own_sy (z : Int64) (k k2 : Int32) : Int64 := (z ^^^ ((z.toUInt64 >>> (k &&& 0x3f).toInt64.toUInt64).toInt64)) ^^^ ((z.toUInt64 >>> (k2 &&& 0x3f).toInt64.toUInt64).toInt64)
def own_a (q : Int64) : Int64 := own_sx q 30 * (-4658895280553007687 : Int64)
def own_b (q : Int64) : Int64 := own_sx q 27 * (-7723592293110705685 : Int64)
def own_mix (q : Int64) : Int64 := own_sx (own_b (own_a q)) 31
def own_c (q : Int64) : Int64 := own_sy q 31 62 * (3573116690164977347 : Int64)
def own_d (q : Int64) : Int64 := own_sy q 27 54 * (-7575587736534282103 : Int64)
def own_un (q : Int64) : Int64 := own_sy (own_d (own_c q)) 30 60
theorem own_ush (z : Int64) (k : Int32) (n : Nat) (hk : k.toBitVec.toNat % 64 = n) : ((z.toUInt64 >>> (k &&& 0x3f).toInt64.toUInt64).toInt64).toBitVec = z.toBitVec >>> n := by
  obtain ⟨h1, h2⟩ := sm64 k n hk
  show (z.toUInt64 >>> (k &&& 0x3f).toInt64.toUInt64).toBitVec = _
  rw [UInt64.toBitVec_shiftRight]
  show z.toBitVec >>> ((k &&& 0x3f).toInt64.toBitVec % 64) = _
  rw [h1, BitVec.ushiftRight_eq']
  congr 1
  simp [BitVec.toNat_umod, BitVec.toNat_ofNat]
  omega
theorem own_undo (w : Nat) (x : BitVec 64) (k : Nat) (h : 64 ≤ 3 * k) : ((x ^^^ (x >>> k)) ^^^ ((x ^^^ (x >>> k)) >>> k)) ^^^ ((x ^^^ (x >>> k)) >>> (2 * k)) = x := by
  apply BitVec.eq_of_getLsbD_eq
  intro i hi
  simp only [BitVec.getLsbD_xor, BitVec.getLsbD_ushiftRight]
  have e1 : k + (k + i) = 2 * k + i := by omega
  have e2 : x.getLsbD (k + (2 * k + i)) = false := BitVec.getLsbD_of_ge _ _ (by omega)
  rw [e1, e2]
  cases x.getLsbD i <;> cases x.getLsbD (k + i) <;> cases x.getLsbD (2 * k + i) <;> rfl
theorem own_sysx (x : Int64) (k k2 : Int32) (n : Nat) (hk : k.toBitVec.toNat % 64 = n) (hk2 : k2.toBitVec.toNat % 64 = 2 * n) (h : 64 ≤ 3 * n) : own_sy (own_sx x k) k k2 = x := by
  apply Int64.toBitVec_inj.mp
  simp only [own_sy, own_sx, Int64.toBitVec_xor, own_ush _ k n hk, own_ush _ k2 (2 * n) hk2]
  exact own_undo 0 x.toBitVec n h
theorem own_law (v : Int64) : own_un (own_mix v) = v := by
  have m1 : ∀ z : Int64, z * (-7723592293110705685 : Int64) * (3573116690164977347 : Int64) = z := fun z => by
    rw [Int64.mul_assoc, show (-7723592293110705685 : Int64) * (3573116690164977347 : Int64) = 1 from by decide, Int64.mul_one]
  have m2 : ∀ z : Int64, z * (-4658895280553007687 : Int64) * (-7575587736534282103 : Int64) = z := fun z => by
    rw [Int64.mul_assoc, show (-4658895280553007687 : Int64) * (-7575587736534282103 : Int64) = 1 from by decide, Int64.mul_one]
  unfold own_un own_mix own_d own_c
  rw [own_sysx _ 31 62 31 (by decide) (by decide) (by decide)]
  unfold own_b
  rw [m1, own_sysx _ 27 54 27 (by decide) (by decide) (by decide)]
  unfold own_a
  rw [m2, own_sysx _ 30 60 30 (by decide) (by decide) (by decide)]

theorem d1_0 : decode prog_18_method_4_code 0 = .ok (.lload_n 0, 1) := by decide +kernel
theorem d1_1 : decode prog_18_method_4_code 1 = .ok (.lstore_n 2, 1) := by decide +kernel
theorem d1_2 : decode prog_18_method_4_code 2 = .ok (.lload_n 2, 1) := by decide +kernel
theorem d1_3 : decode prog_18_method_4_code 3 = .ok (.lload_n 2, 1) := by decide +kernel
theorem d1_4 : decode prog_18_method_4_code 4 = .ok (.bipush 30, 2) := by decide +kernel
theorem d1_6 : decode prog_18_method_4_code 6 = .ok (.lushr, 1) := by decide +kernel
theorem d1_7 : decode prog_18_method_4_code 7 = .ok (.lxor, 1) := by decide +kernel
theorem d1_8 : decode prog_18_method_4_code 8 = .ok (.ldc2_w 29, 3) := by decide +kernel
theorem d1_11 : decode prog_18_method_4_code 11 = .ok (.lmul, 1) := by decide +kernel
theorem d1_12 : decode prog_18_method_4_code 12 = .ok (.lstore_n 2, 1) := by decide +kernel
theorem d1_13 : decode prog_18_method_4_code 13 = .ok (.lload_n 2, 1) := by decide +kernel
theorem d1_14 : decode prog_18_method_4_code 14 = .ok (.lload_n 2, 1) := by decide +kernel
theorem d1_15 : decode prog_18_method_4_code 15 = .ok (.bipush 27, 2) := by decide +kernel
theorem d1_17 : decode prog_18_method_4_code 17 = .ok (.lushr, 1) := by decide +kernel
theorem d1_18 : decode prog_18_method_4_code 18 = .ok (.lxor, 1) := by decide +kernel
theorem d1_19 : decode prog_18_method_4_code 19 = .ok (.ldc2_w 31, 3) := by decide +kernel
theorem d1_22 : decode prog_18_method_4_code 22 = .ok (.lmul, 1) := by decide +kernel
theorem d1_23 : decode prog_18_method_4_code 23 = .ok (.lstore_n 2, 1) := by decide +kernel
theorem d1_24 : decode prog_18_method_4_code 24 = .ok (.lload_n 2, 1) := by decide +kernel
theorem d1_25 : decode prog_18_method_4_code 25 = .ok (.lload_n 2, 1) := by decide +kernel
theorem d1_26 : decode prog_18_method_4_code 26 = .ok (.bipush 31, 2) := by decide +kernel
theorem d1_28 : decode prog_18_method_4_code 28 = .ok (.lushr, 1) := by decide +kernel
theorem d1_29 : decode prog_18_method_4_code 29 = .ok (.lxor, 1) := by decide +kernel
theorem d1_30 : decode prog_18_method_4_code 30 = .ok (.lreturn, 1) := by decide +kernel
theorem d2_0 : decode method_2_code 0 = .ok (.lload_n 0, 1) := by decide +kernel
theorem d2_1 : decode method_2_code 1 = .ok (.lstore_n 2, 1) := by decide +kernel
theorem d2_2 : decode method_2_code 2 = .ok (.lload_n 2, 1) := by decide +kernel
theorem d2_3 : decode method_2_code 3 = .ok (.lload_n 2, 1) := by decide +kernel
theorem d2_4 : decode method_2_code 4 = .ok (.bipush 31, 2) := by decide +kernel
theorem d2_6 : decode method_2_code 6 = .ok (.lushr, 1) := by decide +kernel
theorem d2_7 : decode method_2_code 7 = .ok (.lxor, 1) := by decide +kernel
theorem d2_8 : decode method_2_code 8 = .ok (.lload_n 2, 1) := by decide +kernel
theorem d2_9 : decode method_2_code 9 = .ok (.bipush 62, 2) := by decide +kernel
theorem d2_11 : decode method_2_code 11 = .ok (.lushr, 1) := by decide +kernel
theorem d2_12 : decode method_2_code 12 = .ok (.lxor, 1) := by decide +kernel
theorem d2_13 : decode method_2_code 13 = .ok (.lstore_n 2, 1) := by decide +kernel
theorem d2_14 : decode method_2_code 14 = .ok (.lload_n 2, 1) := by decide +kernel
theorem d2_15 : decode method_2_code 15 = .ok (.ldc2_w 7, 3) := by decide +kernel
theorem d2_18 : decode method_2_code 18 = .ok (.lmul, 1) := by decide +kernel
theorem d2_19 : decode method_2_code 19 = .ok (.lstore_n 2, 1) := by decide +kernel
theorem d2_20 : decode method_2_code 20 = .ok (.lload_n 2, 1) := by decide +kernel
theorem d2_21 : decode method_2_code 21 = .ok (.lload_n 2, 1) := by decide +kernel
theorem d2_22 : decode method_2_code 22 = .ok (.bipush 27, 2) := by decide +kernel
theorem d2_24 : decode method_2_code 24 = .ok (.lushr, 1) := by decide +kernel
theorem d2_25 : decode method_2_code 25 = .ok (.lxor, 1) := by decide +kernel
theorem d2_26 : decode method_2_code 26 = .ok (.lload_n 2, 1) := by decide +kernel
theorem d2_27 : decode method_2_code 27 = .ok (.bipush 54, 2) := by decide +kernel
theorem d2_29 : decode method_2_code 29 = .ok (.lushr, 1) := by decide +kernel
theorem d2_30 : decode method_2_code 30 = .ok (.lxor, 1) := by decide +kernel
theorem d2_31 : decode method_2_code 31 = .ok (.lstore_n 2, 1) := by decide +kernel
theorem d2_32 : decode method_2_code 32 = .ok (.lload_n 2, 1) := by decide +kernel
theorem d2_33 : decode method_2_code 33 = .ok (.ldc2_w 9, 3) := by decide +kernel
theorem d2_36 : decode method_2_code 36 = .ok (.lmul, 1) := by decide +kernel
theorem d2_37 : decode method_2_code 37 = .ok (.lstore_n 2, 1) := by decide +kernel
theorem d2_38 : decode method_2_code 38 = .ok (.lload_n 2, 1) := by decide +kernel
theorem d2_39 : decode method_2_code 39 = .ok (.lload_n 2, 1) := by decide +kernel
theorem d2_40 : decode method_2_code 40 = .ok (.bipush 30, 2) := by decide +kernel
theorem d2_42 : decode method_2_code 42 = .ok (.lushr, 1) := by decide +kernel
theorem d2_43 : decode method_2_code 43 = .ok (.lxor, 1) := by decide +kernel
theorem d2_44 : decode method_2_code 44 = .ok (.lload_n 2, 1) := by decide +kernel
theorem d2_45 : decode method_2_code 45 = .ok (.bipush 60, 2) := by decide +kernel
theorem d2_47 : decode method_2_code 47 = .ok (.lushr, 1) := by decide +kernel
theorem d2_48 : decode method_2_code 48 = .ok (.lxor, 1) := by decide +kernel
theorem d2_49 : decode method_2_code 49 = .ok (.lstore_n 2, 1) := by decide +kernel
theorem d2_50 : decode method_2_code 50 = .ok (.lload_n 2, 1) := by decide +kernel
theorem d2_51 : decode method_2_code 51 = .ok (.lreturn, 1) := by decide +kernel
def Q1 (q1 : Int64) (h0 : Heap) (n0 : Nat) (v : Option Value) (h : Heap) (L : List Loc) : Prop := v = some (.long (own_mix q1)) ∧ Fr n0 L ∧ h = h0
def Q2 (q1 : Int64) (h0 : Heap) (n0 : Nat) (v : Option Value) (h : Heap) (L : List Loc) : Prop := v = some (.long (own_un q1)) ∧ Fr n0 L ∧ h = h0
def Q0  (h0 : Heap) (n0 : Nat) (v : Option Value) (h : Heap) (L : List Loc) : Prop := v = some (.int (1 : Int32)) ∧ Fr n0 L
set_option maxRecDepth 65536 in
set_option maxHeartbeats 40000000 in
theorem rm1 (l : Launch) (Z : State) (a0 : Array Value) (hw : ∀ d ∈ tables_1, d.before a0 Z = true) (ws : List Jvm.Cond) (q1 : Int64) (h0 : Heap) (n0 : Nat) (Z0 : n0 ≤ h0.size) :
    MetFree l (⟨"com/example/chrono_bloom/chronobloom/Hashes", "mix64", "(J)J"⟩ : MethodName) (head1 (Jvm.Cond.code (⟨"com/example/chrono_bloom/chronobloom/Hashes", "mix64", "(J)J"⟩ : MethodName) prog_18_method_4_code 4 (some .long) :: ws) ({ frames := 0, cells := 0, slots := 0, locals := 0 } : Room)) (fun a U => a = #[(.long q1)] ∧ Z.Warmed39 U.vm ∧ U.heap = h0) (fun _ _ _ _ _ => True) (fun _ U o U' => ∃ v L, o = .returned v ∧ Q1 q1 h0 n0 v U'.heap L ∧ FrameEnd U o U' L ({ frames := 0, cells := 0, slots := 0, locals := 0 } : Room).cells ({ frames := 0, cells := 0, slots := 0, locals := 0 } : Room).slots) := by
  refine MetFree.of_bodySF (plainFor_of_name (by first | (simp [plainName, overriddenIn]; done) | decide +kernel)) hisR ?_
  intro p e s m args below meth c s₁ Bd hml0 hP hK
  obtain ⟨rfl, hZ, hh⟩ := hP
  have hx := Bd.exec
  have hby := Bd.bytes
  have hml : c.maxLocals = 4 := hml0
  have hown : s.vm.findClass "com/example/chrono_bloom/chronobloom/Hashes" = some m.cls := findClass_of_methodNamed Bd.named
  have hnm := (name_of_methodNamed Bd.named Bd.method).1
  have X0 : Stand p l e ({ frames := 0, cells := 0, slots := 0, locals := 0 } : Room) s m #[(.long q1)] below meth c s₁ [] 0 0 := Stand.of_body Bd
  have e0 : s₁.heap = h0 := by rw [← hh, Bd.state]; rfl
  have N0 := Fr.nil n0
  have ef : entryFrame m #[(.long q1)] 4 = (mkF m 0 #[.val (.long q1), .second, .unset, .unset] []) := by first | (simp [entryFrame, mkF, argsToLocals, Value.category]; done) | rfl
  show OwnGoes p e below (fun o U' => ∃ v L, o = .returned v ∧ Q1 q1 h0 n0 v U'.heap L ∧ FrameEnd s o U' L ({ frames := 0, cells := 0, slots := 0, locals := 0 } : Room).cells ({ frames := 0, cells := 0, slots := 0, locals := 0 } : Room).slots) (s₁.setTop (entryFrame m #[(.long q1)] 4))
  refine own_pre (fun t k => castTop ef k) ?_
  show OwnGoes p e below _ (s₁.setTop (mkF m 0 #[.val (.long q1), .second, .unset, .unset] []))
  refine own_pre (fun _ k => XS.lloadN X0.here hx rfl (hb hby d1_0) rfl k) ?_
  show OwnGoes p e below _ (s₁.setTop (mkF m 1 #[.val (.long q1), .second, .unset, .unset] [(.long q1)]))
  refine own_pre (fun _ k => XS.lstoreN X0.here hx rfl (hb hby d1_1) rfl (l' := #[.val (.long q1), .second, .val (.long q1), .second]) rfl k) ?_
  show OwnGoes p e below _ (s₁.setTop (mkF m 2 #[.val (.long q1), .second, .val (.long q1), .second] []))
  refine own_pre (fun _ k => XS.lloadN X0.here hx rfl (hb hby d1_2) rfl k) ?_
  show OwnGoes p e below _ (s₁.setTop (mkF m 3 #[.val (.long q1), .second, .val (.long q1), .second] [(.long q1)]))
  refine own_pre (fun _ k => XS.lloadN X0.here hx rfl (hb hby d1_3) rfl k) ?_
  show OwnGoes p e below _ (s₁.setTop (mkF m 4 #[.val (.long q1), .second, .val (.long q1), .second] [(.long q1), (.long q1)]))
  refine own_pre (fun _ k => XS.bipush X0.here hx rfl (hb hby d1_4) k) ?_
  show OwnGoes p e below _ (s₁.setTop (mkF m 6 #[.val (.long q1), .second, .val (.long q1), .second] [(.int (30 : Int32)), (.long q1), (.long q1)]))
  refine own_pre (fun _ k => XS.lushr X0.here hx rfl (hb hby d1_6) rfl k) ?_
  show OwnGoes p e below _ (s₁.setTop (mkF m 7 #[.val (.long q1), .second, .val (.long q1), .second] [(.long ((q1.toUInt64 >>> ((30 : Int32) &&& 0x3f).toInt64.toUInt64).toInt64)), (.long q1)]))
  refine own_pre (fun _ k => XS.lxor X0.here hx rfl (hb hby d1_7) rfl k) ?_
  show OwnGoes p e below _ (s₁.setTop (mkF m 8 #[.val (.long q1), .second, .val (.long q1), .second] [(.long (own_sx q1 30))]))
  refine own_pre (fun _ k => X0.ldc2Long hx hown (mvT hZ (hw _ (List.mem_of_getElem? (i := 4) rfl))) (g := (mkF m 8 #[.val (.long q1), .second, .val (.long q1), .second] [(.long (own_sx q1 30))])) rfl (hb hby d1_8) _ k) ?_
  show OwnGoes p e below _ (s₁.setTop (mkF m 11 #[.val (.long q1), .second, .val (.long q1), .second] [(.long (-4658895280553007687 : Int64)), (.long (own_sx q1 30))]))
  refine own_pre (fun _ k => XS.lmul X0.here hx rfl (hb hby d1_11) rfl k) ?_
  show OwnGoes p e below _ (s₁.setTop (mkF m 12 #[.val (.long q1), .second, .val (.long q1), .second] [(.long (own_a q1))]))
  refine own_pre (fun _ k => XS.lstoreN X0.here hx rfl (hb hby d1_12) rfl (l' := #[.val (.long q1), .second, .val (.long (own_a q1)), .second]) rfl k) ?_
  show OwnGoes p e below _ (s₁.setTop (mkF m 13 #[.val (.long q1), .second, .val (.long (own_a q1)), .second] []))
  refine own_pre (fun _ k => XS.lloadN X0.here hx rfl (hb hby d1_13) rfl k) ?_
  show OwnGoes p e below _ (s₁.setTop (mkF m 14 #[.val (.long q1), .second, .val (.long (own_a q1)), .second] [(.long (own_a q1))]))
  refine own_pre (fun _ k => XS.lloadN X0.here hx rfl (hb hby d1_14) rfl k) ?_
  show OwnGoes p e below _ (s₁.setTop (mkF m 15 #[.val (.long q1), .second, .val (.long (own_a q1)), .second] [(.long (own_a q1)), (.long (own_a q1))]))
  refine own_pre (fun _ k => XS.bipush X0.here hx rfl (hb hby d1_15) k) ?_
  show OwnGoes p e below _ (s₁.setTop (mkF m 17 #[.val (.long q1), .second, .val (.long (own_a q1)), .second] [(.int (27 : Int32)), (.long (own_a q1)), (.long (own_a q1))]))
  refine own_pre (fun _ k => XS.lushr X0.here hx rfl (hb hby d1_17) rfl k) ?_
  show OwnGoes p e below _ (s₁.setTop (mkF m 18 #[.val (.long q1), .second, .val (.long (own_a q1)), .second] [(.long (((own_a q1).toUInt64 >>> ((27 : Int32) &&& 0x3f).toInt64.toUInt64).toInt64)), (.long (own_a q1))]))
  refine own_pre (fun _ k => XS.lxor X0.here hx rfl (hb hby d1_18) rfl k) ?_
  show OwnGoes p e below _ (s₁.setTop (mkF m 19 #[.val (.long q1), .second, .val (.long (own_a q1)), .second] [(.long (own_sx (own_a q1) 27))]))
  refine own_pre (fun _ k => X0.ldc2Long hx hown (mvT hZ (hw _ (List.mem_of_getElem? (i := 5) rfl))) (g := (mkF m 19 #[.val (.long q1), .second, .val (.long (own_a q1)), .second] [(.long (own_sx (own_a q1) 27))])) rfl (hb hby d1_19) _ k) ?_
  show OwnGoes p e below _ (s₁.setTop (mkF m 22 #[.val (.long q1), .second, .val (.long (own_a q1)), .second] [(.long (-7723592293110705685 : Int64)), (.long (own_sx (own_a q1) 27))]))
  refine own_pre (fun _ k => XS.lmul X0.here hx rfl (hb hby d1_22) rfl k) ?_
  show OwnGoes p e below _ (s₁.setTop (mkF m 23 #[.val (.long q1), .second, .val (.long (own_a q1)), .second] [(.long (own_b (own_a q1)))]))
  refine own_pre (fun _ k => XS.lstoreN X0.here hx rfl (hb hby d1_23) rfl (l' := #[.val (.long q1), .second, .val (.long (own_b (own_a q1))), .second]) rfl k) ?_
  show OwnGoes p e below _ (s₁.setTop (mkF m 24 #[.val (.long q1), .second, .val (.long (own_b (own_a q1))), .second] []))
  refine own_pre (fun _ k => XS.lloadN X0.here hx rfl (hb hby d1_24) rfl k) ?_
  show OwnGoes p e below _ (s₁.setTop (mkF m 25 #[.val (.long q1), .second, .val (.long (own_b (own_a q1))), .second] [(.long (own_b (own_a q1)))]))
  refine own_pre (fun _ k => XS.lloadN X0.here hx rfl (hb hby d1_25) rfl k) ?_
  show OwnGoes p e below _ (s₁.setTop (mkF m 26 #[.val (.long q1), .second, .val (.long (own_b (own_a q1))), .second] [(.long (own_b (own_a q1))), (.long (own_b (own_a q1)))]))
  refine own_pre (fun _ k => XS.bipush X0.here hx rfl (hb hby d1_26) k) ?_
  show OwnGoes p e below _ (s₁.setTop (mkF m 28 #[.val (.long q1), .second, .val (.long (own_b (own_a q1))), .second] [(.int (31 : Int32)), (.long (own_b (own_a q1))), (.long (own_b (own_a q1)))]))
  refine own_pre (fun _ k => XS.lushr X0.here hx rfl (hb hby d1_28) rfl k) ?_
  show OwnGoes p e below _ (s₁.setTop (mkF m 29 #[.val (.long q1), .second, .val (.long (own_b (own_a q1))), .second] [(.long (((own_b (own_a q1)).toUInt64 >>> ((31 : Int32) &&& 0x3f).toInt64.toUInt64).toInt64)), (.long (own_b (own_a q1)))]))
  refine own_pre (fun _ k => XS.lxor X0.here hx rfl (hb hby d1_29) rfl k) ?_
  show OwnGoes p e below _ (s₁.setTop (mkF m 30 #[.val (.long q1), .second, .val (.long (own_b (own_a q1))), .second] [(.long (own_mix q1))]))
  exact own_ret X0 hx Bd.returns (rfl) (Or.inr (Or.inl ⟨rfl, rfl, _, rfl⟩)) Bd.notSynchronized (hb hby d1_30) ⟨rfl, N0, e0⟩ (by decide) (by decide)
set_option maxRecDepth 65536 in
set_option maxHeartbeats 40000000 in
theorem rm2 (l : Launch) (Z : State) (a0 : Array Value) (hw : ∀ d ∈ tables_1, d.before a0 Z = true) (ws : List Jvm.Cond) (q1 : Int64) (h0 : Heap) (n0 : Nat) (Z0 : n0 ≤ h0.size) :
    MetFree l (⟨"com/example/chrono_bloom/chronobloom/HashesMix64PinLaw", "unmix", "(J)J"⟩ : MethodName) (head1 (Jvm.Cond.code (⟨"com/example/chrono_bloom/chronobloom/HashesMix64PinLaw", "unmix", "(J)J"⟩ : MethodName) method_2_code 4 (some .long) :: ws) ({ frames := 0, cells := 0, slots := 0, locals := 0 } : Room)) (fun a U => a = #[(.long q1)] ∧ Z.Warmed39 U.vm ∧ U.heap = h0) (fun _ _ _ _ _ => True) (fun _ U o U' => ∃ v L, o = .returned v ∧ Q2 q1 h0 n0 v U'.heap L ∧ FrameEnd U o U' L ({ frames := 0, cells := 0, slots := 0, locals := 0 } : Room).cells ({ frames := 0, cells := 0, slots := 0, locals := 0 } : Room).slots) := by
  refine MetFree.of_bodySF (plainFor_of_name (by first | (simp [plainName, overriddenIn]; done) | decide +kernel)) hisR ?_
  intro p e s m args below meth c s₁ Bd hml0 hP hK
  obtain ⟨rfl, hZ, hh⟩ := hP
  have hx := Bd.exec
  have hby := Bd.bytes
  have hml : c.maxLocals = 4 := hml0
  have hown : s.vm.findClass "com/example/chrono_bloom/chronobloom/HashesMix64PinLaw" = some m.cls := findClass_of_methodNamed Bd.named
  have hnm := (name_of_methodNamed Bd.named Bd.method).1
  have X0 : Stand p l e ({ frames := 0, cells := 0, slots := 0, locals := 0 } : Room) s m #[(.long q1)] below meth c s₁ [] 0 0 := Stand.of_body Bd
  have e0 : s₁.heap = h0 := by rw [← hh, Bd.state]; rfl
  have N0 := Fr.nil n0
  have ef : entryFrame m #[(.long q1)] 4 = (mkF m 0 #[.val (.long q1), .second, .unset, .unset] []) := by first | (simp [entryFrame, mkF, argsToLocals, Value.category]; done) | rfl
  show OwnGoes p e below (fun o U' => ∃ v L, o = .returned v ∧ Q2 q1 h0 n0 v U'.heap L ∧ FrameEnd s o U' L ({ frames := 0, cells := 0, slots := 0, locals := 0 } : Room).cells ({ frames := 0, cells := 0, slots := 0, locals := 0 } : Room).slots) (s₁.setTop (entryFrame m #[(.long q1)] 4))
  refine own_pre (fun t k => castTop ef k) ?_
  show OwnGoes p e below _ (s₁.setTop (mkF m 0 #[.val (.long q1), .second, .unset, .unset] []))
  refine own_pre (fun _ k => XS.lloadN X0.here hx rfl (hb hby d2_0) rfl k) ?_
  show OwnGoes p e below _ (s₁.setTop (mkF m 1 #[.val (.long q1), .second, .unset, .unset] [(.long q1)]))
  refine own_pre (fun _ k => XS.lstoreN X0.here hx rfl (hb hby d2_1) rfl (l' := #[.val (.long q1), .second, .val (.long q1), .second]) rfl k) ?_
  show OwnGoes p e below _ (s₁.setTop (mkF m 2 #[.val (.long q1), .second, .val (.long q1), .second] []))
  refine own_pre (fun _ k => XS.lloadN X0.here hx rfl (hb hby d2_2) rfl k) ?_
  show OwnGoes p e below _ (s₁.setTop (mkF m 3 #[.val (.long q1), .second, .val (.long q1), .second] [(.long q1)]))
  refine own_pre (fun _ k => XS.lloadN X0.here hx rfl (hb hby d2_3) rfl k) ?_
  show OwnGoes p e below _ (s₁.setTop (mkF m 4 #[.val (.long q1), .second, .val (.long q1), .second] [(.long q1), (.long q1)]))
  refine own_pre (fun _ k => XS.bipush X0.here hx rfl (hb hby d2_4) k) ?_
  show OwnGoes p e below _ (s₁.setTop (mkF m 6 #[.val (.long q1), .second, .val (.long q1), .second] [(.int (31 : Int32)), (.long q1), (.long q1)]))
  refine own_pre (fun _ k => XS.lushr X0.here hx rfl (hb hby d2_6) rfl k) ?_
  show OwnGoes p e below _ (s₁.setTop (mkF m 7 #[.val (.long q1), .second, .val (.long q1), .second] [(.long ((q1.toUInt64 >>> ((31 : Int32) &&& 0x3f).toInt64.toUInt64).toInt64)), (.long q1)]))
  refine own_pre (fun _ k => XS.lxor X0.here hx rfl (hb hby d2_7) rfl k) ?_
  show OwnGoes p e below _ (s₁.setTop (mkF m 8 #[.val (.long q1), .second, .val (.long q1), .second] [(.long (q1 ^^^ ((q1.toUInt64 >>> ((31 : Int32) &&& 0x3f).toInt64.toUInt64).toInt64)))]))
  refine own_pre (fun _ k => XS.lloadN X0.here hx rfl (hb hby d2_8) rfl k) ?_
  show OwnGoes p e below _ (s₁.setTop (mkF m 9 #[.val (.long q1), .second, .val (.long q1), .second] [(.long q1), (.long (q1 ^^^ ((q1.toUInt64 >>> ((31 : Int32) &&& 0x3f).toInt64.toUInt64).toInt64)))]))
  refine own_pre (fun _ k => XS.bipush X0.here hx rfl (hb hby d2_9) k) ?_
  show OwnGoes p e below _ (s₁.setTop (mkF m 11 #[.val (.long q1), .second, .val (.long q1), .second] [(.int (62 : Int32)), (.long q1), (.long (q1 ^^^ ((q1.toUInt64 >>> ((31 : Int32) &&& 0x3f).toInt64.toUInt64).toInt64)))]))
  refine own_pre (fun _ k => XS.lushr X0.here hx rfl (hb hby d2_11) rfl k) ?_
  show OwnGoes p e below _ (s₁.setTop (mkF m 12 #[.val (.long q1), .second, .val (.long q1), .second] [(.long ((q1.toUInt64 >>> ((62 : Int32) &&& 0x3f).toInt64.toUInt64).toInt64)), (.long (q1 ^^^ ((q1.toUInt64 >>> ((31 : Int32) &&& 0x3f).toInt64.toUInt64).toInt64)))]))
  refine own_pre (fun _ k => XS.lxor X0.here hx rfl (hb hby d2_12) rfl k) ?_
  show OwnGoes p e below _ (s₁.setTop (mkF m 13 #[.val (.long q1), .second, .val (.long q1), .second] [(.long (own_sy q1 31 62))]))
  refine own_pre (fun _ k => XS.lstoreN X0.here hx rfl (hb hby d2_13) rfl (l' := #[.val (.long q1), .second, .val (.long (own_sy q1 31 62)), .second]) rfl k) ?_
  show OwnGoes p e below _ (s₁.setTop (mkF m 14 #[.val (.long q1), .second, .val (.long (own_sy q1 31 62)), .second] []))
  refine own_pre (fun _ k => XS.lloadN X0.here hx rfl (hb hby d2_14) rfl k) ?_
  show OwnGoes p e below _ (s₁.setTop (mkF m 15 #[.val (.long q1), .second, .val (.long (own_sy q1 31 62)), .second] [(.long (own_sy q1 31 62))]))
  refine own_pre (fun _ k => X0.ldc2Long hx hown (mvT hZ (hw _ (List.mem_of_getElem? (i := 10) rfl))) (g := (mkF m 15 #[.val (.long q1), .second, .val (.long (own_sy q1 31 62)), .second] [(.long (own_sy q1 31 62))])) rfl (hb hby d2_15) _ k) ?_
  show OwnGoes p e below _ (s₁.setTop (mkF m 18 #[.val (.long q1), .second, .val (.long (own_sy q1 31 62)), .second] [(.long (3573116690164977347 : Int64)), (.long (own_sy q1 31 62))]))
  refine own_pre (fun _ k => XS.lmul X0.here hx rfl (hb hby d2_18) rfl k) ?_
  show OwnGoes p e below _ (s₁.setTop (mkF m 19 #[.val (.long q1), .second, .val (.long (own_sy q1 31 62)), .second] [(.long (own_c q1))]))
  refine own_pre (fun _ k => XS.lstoreN X0.here hx rfl (hb hby d2_19) rfl (l' := #[.val (.long q1), .second, .val (.long (own_c q1)), .second]) rfl k) ?_
  show OwnGoes p e below _ (s₁.setTop (mkF m 20 #[.val (.long q1), .second, .val (.long (own_c q1)), .second] []))
  refine own_pre (fun _ k => XS.lloadN X0.here hx rfl (hb hby d2_20) rfl k) ?_
  show OwnGoes p e below _ (s₁.setTop (mkF m 21 #[.val (.long q1), .second, .val (.long (own_c q1)), .second] [(.long (own_c q1))]))
  refine own_pre (fun _ k => XS.lloadN X0.here hx rfl (hb hby d2_21) rfl k) ?_
  show OwnGoes p e below _ (s₁.setTop (mkF m 22 #[.val (.long q1), .second, .val (.long (own_c q1)), .second] [(.long (own_c q1)), (.long (own_c q1))]))
  refine own_pre (fun _ k => XS.bipush X0.here hx rfl (hb hby d2_22) k) ?_
  show OwnGoes p e below _ (s₁.setTop (mkF m 24 #[.val (.long q1), .second, .val (.long (own_c q1)), .second] [(.int (27 : Int32)), (.long (own_c q1)), (.long (own_c q1))]))
  refine own_pre (fun _ k => XS.lushr X0.here hx rfl (hb hby d2_24) rfl k) ?_
  show OwnGoes p e below _ (s₁.setTop (mkF m 25 #[.val (.long q1), .second, .val (.long (own_c q1)), .second] [(.long (((own_c q1).toUInt64 >>> ((27 : Int32) &&& 0x3f).toInt64.toUInt64).toInt64)), (.long (own_c q1))]))
  refine own_pre (fun _ k => XS.lxor X0.here hx rfl (hb hby d2_25) rfl k) ?_
  show OwnGoes p e below _ (s₁.setTop (mkF m 26 #[.val (.long q1), .second, .val (.long (own_c q1)), .second] [(.long ((own_c q1) ^^^ (((own_c q1).toUInt64 >>> ((27 : Int32) &&& 0x3f).toInt64.toUInt64).toInt64)))]))
  refine own_pre (fun _ k => XS.lloadN X0.here hx rfl (hb hby d2_26) rfl k) ?_
  show OwnGoes p e below _ (s₁.setTop (mkF m 27 #[.val (.long q1), .second, .val (.long (own_c q1)), .second] [(.long (own_c q1)), (.long ((own_c q1) ^^^ (((own_c q1).toUInt64 >>> ((27 : Int32) &&& 0x3f).toInt64.toUInt64).toInt64)))]))
  refine own_pre (fun _ k => XS.bipush X0.here hx rfl (hb hby d2_27) k) ?_
  show OwnGoes p e below _ (s₁.setTop (mkF m 29 #[.val (.long q1), .second, .val (.long (own_c q1)), .second] [(.int (54 : Int32)), (.long (own_c q1)), (.long ((own_c q1) ^^^ (((own_c q1).toUInt64 >>> ((27 : Int32) &&& 0x3f).toInt64.toUInt64).toInt64)))]))
  refine own_pre (fun _ k => XS.lushr X0.here hx rfl (hb hby d2_29) rfl k) ?_
  show OwnGoes p e below _ (s₁.setTop (mkF m 30 #[.val (.long q1), .second, .val (.long (own_c q1)), .second] [(.long (((own_c q1).toUInt64 >>> ((54 : Int32) &&& 0x3f).toInt64.toUInt64).toInt64)), (.long ((own_c q1) ^^^ (((own_c q1).toUInt64 >>> ((27 : Int32) &&& 0x3f).toInt64.toUInt64).toInt64)))]))
  refine own_pre (fun _ k => XS.lxor X0.here hx rfl (hb hby d2_30) rfl k) ?_
  show OwnGoes p e below _ (s₁.setTop (mkF m 31 #[.val (.long q1), .second, .val (.long (own_c q1)), .second] [(.long (own_sy (own_c q1) 27 54))]))
  refine own_pre (fun _ k => XS.lstoreN X0.here hx rfl (hb hby d2_31) rfl (l' := #[.val (.long q1), .second, .val (.long (own_sy (own_c q1) 27 54)), .second]) rfl k) ?_
  show OwnGoes p e below _ (s₁.setTop (mkF m 32 #[.val (.long q1), .second, .val (.long (own_sy (own_c q1) 27 54)), .second] []))
  refine own_pre (fun _ k => XS.lloadN X0.here hx rfl (hb hby d2_32) rfl k) ?_
  show OwnGoes p e below _ (s₁.setTop (mkF m 33 #[.val (.long q1), .second, .val (.long (own_sy (own_c q1) 27 54)), .second] [(.long (own_sy (own_c q1) 27 54))]))
  refine own_pre (fun _ k => X0.ldc2Long hx hown (mvT hZ (hw _ (List.mem_of_getElem? (i := 11) rfl))) (g := (mkF m 33 #[.val (.long q1), .second, .val (.long (own_sy (own_c q1) 27 54)), .second] [(.long (own_sy (own_c q1) 27 54))])) rfl (hb hby d2_33) _ k) ?_
  show OwnGoes p e below _ (s₁.setTop (mkF m 36 #[.val (.long q1), .second, .val (.long (own_sy (own_c q1) 27 54)), .second] [(.long (-7575587736534282103 : Int64)), (.long (own_sy (own_c q1) 27 54))]))
  refine own_pre (fun _ k => XS.lmul X0.here hx rfl (hb hby d2_36) rfl k) ?_
  show OwnGoes p e below _ (s₁.setTop (mkF m 37 #[.val (.long q1), .second, .val (.long (own_sy (own_c q1) 27 54)), .second] [(.long (own_d (own_c q1)))]))
  refine own_pre (fun _ k => XS.lstoreN X0.here hx rfl (hb hby d2_37) rfl (l' := #[.val (.long q1), .second, .val (.long (own_d (own_c q1))), .second]) rfl k) ?_
  show OwnGoes p e below _ (s₁.setTop (mkF m 38 #[.val (.long q1), .second, .val (.long (own_d (own_c q1))), .second] []))
  refine own_pre (fun _ k => XS.lloadN X0.here hx rfl (hb hby d2_38) rfl k) ?_
  show OwnGoes p e below _ (s₁.setTop (mkF m 39 #[.val (.long q1), .second, .val (.long (own_d (own_c q1))), .second] [(.long (own_d (own_c q1)))]))
  refine own_pre (fun _ k => XS.lloadN X0.here hx rfl (hb hby d2_39) rfl k) ?_
  show OwnGoes p e below _ (s₁.setTop (mkF m 40 #[.val (.long q1), .second, .val (.long (own_d (own_c q1))), .second] [(.long (own_d (own_c q1))), (.long (own_d (own_c q1)))]))
  refine own_pre (fun _ k => XS.bipush X0.here hx rfl (hb hby d2_40) k) ?_
  show OwnGoes p e below _ (s₁.setTop (mkF m 42 #[.val (.long q1), .second, .val (.long (own_d (own_c q1))), .second] [(.int (30 : Int32)), (.long (own_d (own_c q1))), (.long (own_d (own_c q1)))]))
  refine own_pre (fun _ k => XS.lushr X0.here hx rfl (hb hby d2_42) rfl k) ?_
  show OwnGoes p e below _ (s₁.setTop (mkF m 43 #[.val (.long q1), .second, .val (.long (own_d (own_c q1))), .second] [(.long (((own_d (own_c q1)).toUInt64 >>> ((30 : Int32) &&& 0x3f).toInt64.toUInt64).toInt64)), (.long (own_d (own_c q1)))]))
  refine own_pre (fun _ k => XS.lxor X0.here hx rfl (hb hby d2_43) rfl k) ?_
  show OwnGoes p e below _ (s₁.setTop (mkF m 44 #[.val (.long q1), .second, .val (.long (own_d (own_c q1))), .second] [(.long ((own_d (own_c q1)) ^^^ (((own_d (own_c q1)).toUInt64 >>> ((30 : Int32) &&& 0x3f).toInt64.toUInt64).toInt64)))]))
  refine own_pre (fun _ k => XS.lloadN X0.here hx rfl (hb hby d2_44) rfl k) ?_
  show OwnGoes p e below _ (s₁.setTop (mkF m 45 #[.val (.long q1), .second, .val (.long (own_d (own_c q1))), .second] [(.long (own_d (own_c q1))), (.long ((own_d (own_c q1)) ^^^ (((own_d (own_c q1)).toUInt64 >>> ((30 : Int32) &&& 0x3f).toInt64.toUInt64).toInt64)))]))
  refine own_pre (fun _ k => XS.bipush X0.here hx rfl (hb hby d2_45) k) ?_
  show OwnGoes p e below _ (s₁.setTop (mkF m 47 #[.val (.long q1), .second, .val (.long (own_d (own_c q1))), .second] [(.int (60 : Int32)), (.long (own_d (own_c q1))), (.long ((own_d (own_c q1)) ^^^ (((own_d (own_c q1)).toUInt64 >>> ((30 : Int32) &&& 0x3f).toInt64.toUInt64).toInt64)))]))
  refine own_pre (fun _ k => XS.lushr X0.here hx rfl (hb hby d2_47) rfl k) ?_
  show OwnGoes p e below _ (s₁.setTop (mkF m 48 #[.val (.long q1), .second, .val (.long (own_d (own_c q1))), .second] [(.long (((own_d (own_c q1)).toUInt64 >>> ((60 : Int32) &&& 0x3f).toInt64.toUInt64).toInt64)), (.long ((own_d (own_c q1)) ^^^ (((own_d (own_c q1)).toUInt64 >>> ((30 : Int32) &&& 0x3f).toInt64.toUInt64).toInt64)))]))
  refine own_pre (fun _ k => XS.lxor X0.here hx rfl (hb hby d2_48) rfl k) ?_
  show OwnGoes p e below _ (s₁.setTop (mkF m 49 #[.val (.long q1), .second, .val (.long (own_d (own_c q1))), .second] [(.long (own_un q1))]))
  refine own_pre (fun _ k => XS.lstoreN X0.here hx rfl (hb hby d2_49) rfl (l' := #[.val (.long q1), .second, .val (.long (own_un q1)), .second]) rfl k) ?_
  show OwnGoes p e below _ (s₁.setTop (mkF m 50 #[.val (.long q1), .second, .val (.long (own_un q1)), .second] []))
  refine own_pre (fun _ k => XS.lloadN X0.here hx rfl (hb hby d2_50) rfl k) ?_
  show OwnGoes p e below _ (s₁.setTop (mkF m 51 #[.val (.long q1), .second, .val (.long (own_un q1)), .second] [(.long (own_un q1))]))
  exact own_ret X0 hx Bd.returns (rfl) (Or.inr (Or.inl ⟨rfl, rfl, _, rfl⟩)) Bd.notSynchronized (hb hby d2_51) ⟨rfl, N0, e0⟩ (by decide) (by decide)
set_option maxRecDepth 65536 in
set_option maxHeartbeats 40000000 in
theorem rm0 (l : Launch) (Z : State) (a0 : Array Value) (hw : ∀ d ∈ tables_1, d.before a0 Z = true) (ws : List Jvm.Cond) (q1 : Int64) (h0 : Heap) (n0 : Nat) (Z0 : n0 ≤ h0.size) :
    MetFree l x (head1 (Jvm.Cond.code x code maxLocals ret :: ws) room_1) (fun a U => a = #[(.long q1)] ∧ Z.Warmed39 U.vm ∧ U.heap = h0) (fun _ _ _ _ _ => True) (fun _ U o U' => ∃ v L, o = .returned v ∧ Q0 h0 n0 v U'.heap L ∧ FrameEnd U o U' L room_1.cells room_1.slots) := by
  refine MetFree.of_bodySF (plainFor_of_name (by first | (simp [plainName, overriddenIn]; done) | decide +kernel)) hisR ?_
  intro p e s m args below meth c s₁ Bd hml0 hP hK
  obtain ⟨rfl, hZ, hh⟩ := hP
  have hx := Bd.exec
  have hby := Bd.bytes
  have hml : c.maxLocals = 4 := hml0
  have hown : s.vm.findClass "com/example/chrono_bloom/chronobloom/HashesMix64PinLaw" = some m.cls := findClass_of_methodNamed Bd.named
  have hnm := (name_of_methodNamed Bd.named Bd.method).1
  have X0 : Stand p l e room_1 s m #[(.long q1)] below meth c s₁ [] 0 0 := Stand.of_body Bd
  have e0 : s₁.heap = h0 := by rw [← hh, Bd.state]; rfl
  have N0 := Fr.nil n0
  have ef : entryFrame m #[(.long q1)] maxLocals = (mkF m 0 #[.val (.long q1), .second, .unset, .unset] []) := by first | (simp [entryFrame, mkF, argsToLocals, Value.category, maxLocals]; done) | rfl
  show OwnGoes p e below (fun o U' => ∃ v L, o = .returned v ∧ Q0 h0 n0 v U'.heap L ∧ FrameEnd s o U' L room_1.cells room_1.slots) (s₁.setTop (entryFrame m #[(.long q1)] maxLocals))
  refine own_pre (fun t k => castTop ef k) ?_
  show OwnGoes p e below _ (s₁.setTop (mkF m 0 #[.val (.long q1), .second, .unset, .unset] []))
  refine own_pre (fun _ k => XS.lloadN X0.here hx rfl (hb hby at_0) rfl k) ?_
  show OwnGoes p e below _ (s₁.setTop (mkF m 1 #[.val (.long q1), .second, .unset, .unset] [(.long q1)]))
  obtain ⟨_, _, ⟨T1, L1, k1, n1⟩, -, X1, ⟨Lc1, hQ1, l1, y1, z1⟩, st1⟩ := Jvm.LawKit.callS X0 hx (y := (⟨"com/example/chrono_bloom/chronobloom/Hashes", "mix64", "(J)J"⟩ : MethodName)) hown (mvT hZ (hw _ (List.mem_of_getElem? (i := 0) rfl))) (mvT hZ (hw _ (List.mem_of_getElem? (i := 1) rfl))) (mvT hZ (hw _ (List.mem_of_getElem? (i := 2) rfl))) (mvT hZ (hw _ (List.mem_of_getElem? (i := 3) rfl))) (by decide) (backOf (W := 0) (rm1 l Z a0 hw [] q1 h0 n0 Z0) hZ (hw _ (List.mem_of_getElem? (i := 3) rfl)) (hw _ (List.mem_of_getElem? (i := 2) rfl)) (by decide) (by decide)) (g := (mkF m 1 #[.val (.long q1), .second, .unset, .unset] [(.long q1)])) rfl (by rw [hml]; rfl) (argsL := [(.long q1)]) (rest := []) (lenOf (d := "(J)J") (ps := [.long]) (r := some .long) (by decide +kernel) rfl) rfl (by show 2 * 0 + _ ≤ _; exact Nat.le_of_eq rfl) (hb hby at_1) (fun _ _ => ⟨rfl, e0, (by decide : 0 + 0 ≤ _), (by decide : 0 + 0 ≤ _)⟩)
  dsimp only [Pt.U, Pt.locs, Pt.cells, Pt.slots] at X1 l1 y1 z1 st1 hQ1
  subst l1 y1 z1
  obtain ⟨rfl, N1q, e1⟩ := hQ1
  have N1 := Fr.app N0 N1q
  refine own_pre st1 ?_
  show OwnGoes p e below _ (T1.setTop (mkF m 4 #[.val (.long q1), .second, .unset, .unset] [(.long (own_mix q1))]))
  refine own_pre (fun _ k => XS.lstoreN X1.here hx rfl (hb hby at_4) rfl (l' := #[.val (.long q1), .second, .val (.long (own_mix q1)), .second]) rfl k) ?_
  show OwnGoes p e below _ (T1.setTop (mkF m 5 #[.val (.long q1), .second, .val (.long (own_mix q1)), .second] []))
  refine own_pre (fun _ k => XS.lloadN X1.here hx rfl (hb hby at_5) rfl k) ?_
  show OwnGoes p e below _ (T1.setTop (mkF m 6 #[.val (.long q1), .second, .val (.long (own_mix q1)), .second] [(.long (own_mix q1))]))
  obtain ⟨_, _, ⟨T2, L2, k2, n2⟩, -, X2, ⟨Lc2, hQ2, l2, y2, z2⟩, st2⟩ := Jvm.LawKit.callS X1 hx (y := (⟨"com/example/chrono_bloom/chronobloom/HashesMix64PinLaw", "unmix", "(J)J"⟩ : MethodName)) hown (mvT hZ (hw _ (List.mem_of_getElem? (i := 6) rfl))) (mvT hZ (hw _ (List.mem_of_getElem? (i := 7) rfl))) (mvT hZ (hw _ (List.mem_of_getElem? (i := 8) rfl))) (mvT hZ (hw _ (List.mem_of_getElem? (i := 9) rfl))) (by decide) (backOf (W := 0) (rm2 l Z a0 hw [] (own_mix q1) h0 n0 Z0) hZ (hw _ (List.mem_of_getElem? (i := 9) rfl)) (hw _ (List.mem_of_getElem? (i := 8) rfl)) (by decide) (by decide)) (g := (mkF m 6 #[.val (.long q1), .second, .val (.long (own_mix q1)), .second] [(.long (own_mix q1))])) rfl (by rw [hml]; rfl) (argsL := [(.long (own_mix q1))]) (rest := []) (lenOf (d := "(J)J") (ps := [.long]) (r := some .long) (by decide +kernel) rfl) rfl (by show 2 * 0 + _ ≤ _; exact Nat.le_of_eq rfl) (hb hby at_6) (fun _ _ => ⟨rfl, e1, (by decide : 0 + 0 ≤ _), (by decide : 0 + 0 ≤ _)⟩)
  dsimp only [Pt.U, Pt.locs, Pt.cells, Pt.slots] at X2 l2 y2 z2 st2 hQ2
  subst l2 y2 z2
  obtain ⟨rfl, N2q, e2⟩ := hQ2
  have N2 := Fr.app N1 N2q
  refine own_pre st2 ?_
  show OwnGoes p e below _ (T2.setTop (mkF m 9 #[.val (.long q1), .second, .val (.long (own_mix q1)), .second] [(.long (own_un (own_mix q1)))]))
  refine own_pre (fun _ k => XS.lloadN X2.here hx rfl (hb hby at_9) rfl k) ?_
  show OwnGoes p e below _ (T2.setTop (mkF m 10 #[.val (.long q1), .second, .val (.long (own_mix q1)), .second] [(.long q1), (.long (own_un (own_mix q1)))]))
  refine own_pre (fun _ k => XS.lcmp X2.here hx rfl (hb hby at_10) rfl k) ?_
  show OwnGoes p e below _ (T2.setTop (mkF m 11 #[.val (.long q1), .second, .val (.long (own_mix q1)), .second] [(.int (lcmpW (own_un (own_mix q1)) q1))]))
  refine own_pre (fun _ k => XS.ifNo X2.here hx rfl (hb hby at_11) rfl ((if0 _ _).trans (teq ((lw_eq (own_un (own_mix q1)) q1).mpr (own_law q1 : (own_un (own_mix q1)) = q1))).2) k) ?_
  show OwnGoes p e below _ (T2.setTop (mkF m 14 #[.val (.long q1), .second, .val (.long (own_mix q1)), .second] []))
  refine own_pre (fun _ k => XS.iconst X2.here hx rfl (hb hby at_14) k) ?_
  show OwnGoes p e below _ (T2.setTop (mkF m 15 #[.val (.long q1), .second, .val (.long (own_mix q1)), .second] [(.int (1 : Int32))]))
  refine own_pre (fun _ k => XS.goto X2.here hx rfl (pc0 := 15) (pc' := 19) rfl (hb hby at_15) (by decide) (by decide) k) ?_
  show OwnGoes p e below _ (T2.setTop (mkF m 19 #[.val (.long q1), .second, .val (.long (own_mix q1)), .second] [(.int (1 : Int32))]))
  exact own_ret X2 hx Bd.returns (rfl) (Or.inl ⟨rfl, by simp, _, rfl⟩) Bd.notSynchronized (hb hby at_19) ⟨rfl, N2⟩ (by decide) (by decide)
set_option maxRecDepth 65536 in
set_option maxHeartbeats 40000000 in
theorem comes_1 {Post : Tables → Env → Array Value → State → Outcome → State → Prop} (hpost : ∀ tb e args s v u, (limb_1_1.after args s (.returned v) u = true ∧ limb_1_2.after args s (.returned v) u = true ∧ True) → FrameEnd s (.returned v) u (Jvm.fieldLocs frame_1_writes args s ++ Jvm.arrayLocs frame_1_arrays args s ++ Jvm.staticLocs frame_1_statics s) 0 0 → Post tb e args s (.returned v) u) :
    ArmFor flags0 classFile x code maxLocals ret World_1 tables_1 room_1 Calls_1 rest_1 Pre_1 Post := by
  intro l hfl _ _ p e ha hc hk s m args below hf hA hF happ hP
  obtain ⟨hcalls, hrest, hpre⟩ := hP
  obtain ⟨-, -, -, hnamed, -, -, -, hat⟩ := (Spec.applies_iff hf).mp happ
  obtain ⟨hg, hn⟩ := and_e (Cond.before_iff.mp (show (Jvm.Cond.and given_1 narrow_1).before args s = true from hpre))
  obtain ⟨hcount, hgs⟩ := and_e hg
  have ha0 := hgs
  obtain ⟨w0, rfl⟩ : ∃ w0 : Value, args = #[w0] := by
    have hs : args.size = 1 := by simpa [Cond.value, given_1] using hcount
    obtain ⟨L⟩ := args
    match L, hs with
    | [w0], _ => exact ⟨w0, rfl⟩
  have hw := fun d (hd : d ∈ tables_1) => atoms_spec (ws := Jvm.Cond.code x code maxLocals ret :: tables_1) hat d (List.mem_cons_of_mem _ hd)
  have hfit : Fit s := fun {y c} hc i hi => by
    obtain ⟨ha, rfl⟩ := Array.getElem?_eq_some_iff.mp hc
    have q := List.all_eq_true.mp ((Array.all_eq_true_iff_forall_mem.mp hF) _ (Array.getElem_mem ha)) i (List.mem_range.mpr hi)
    simpa [Array.getElem?_eq_getElem hi] using q
  obtain ⟨i0, ei0⟩ := isL_v ha0
  obtain rfl : w0 = (.long i0) := Option.some.inj ei0
  obtain ⟨n, o, h1, h2, h3, _, L, rfl, ⟨rfl, N⟩, hq⟩ := rm0 l s _ hw tables_1 i0 s.heap s.heap.size (Nat.le_refl _) p e ha hc hk s m _ below hf ((Spec.applies_iff_loose hf).mp happ).1 ⟨rfl, State.Warmed39.refl s, rfl⟩ trivial
  refine ⟨n, _, h1, h2, h3, hpost _ _ _ _ _ _ ⟨Cond.after_iff.mpr rfl, Cond.after_iff.mpr (eq_i res_at (Term.int_eval (1)) rfl), trivial⟩ ⟨hq.1, hq.2.1, (hq.2.2.sift fun y hy => Or.inr (N y hy)).mono (by decide) (by decide)⟩⟩
theorem main_1_1 : Claimed_1_1 := comes_1 fun _ _ _ _ _ _ h hF => ⟨h.1, hF⟩
theorem main_1_2 : Claimed_1_2 := comes_1 fun _ _ _ _ _ _ h hF => ⟨h.2.1, hF⟩
end Jvm.Pilot.@@N@@
namespace Jvm.Pilot.@@N@@
open Jvm Jvm.ClassFile Sem Op Lib Jvm.Free Jvm.Stand Jvm.Pilot.@@N@@.Jvm.D
/-! MADE BY PROGRAM (witnessworld.py) out of the Statement's table words and the real class files: 9 classes; the members and pool entries that the words name. The judged class is class 1, her method 2. -/
namespace start1
open Jvm.ClassFile
def u (s : String) : CpInfo := .utf8 (stringToUtf16 s)
/-- a pool by its gaps: so many unusable entries, then the entry; so many at the end -/
def gap : Nat → List CpInfo → List CpInfo
  | 0, r => r
  | n + 1, r => .unusable :: gap n r
def poolList (es : List (Nat × CpInfo)) (last : Nat) : List CpInfo := es.foldr (fun e r => gap e.1 (e.2 :: r)) (gap last [])
def pool (es : List (Nat × CpInfo)) (last : Nat) : Array CpInfo := ⟨poolList es last⟩
def fileOf (pool : Array CpInfo) (this : Nat) (attrs : Array Attribute := #[]) (ms : Array MethodInfo := #[]) (fl : Nat := 33) (sup : Nat := 0) (ifs : Array Nat := #[]) (fds : Array FieldInfo := #[]) : ClassFile where
  minorVersion := 0
  majorVersion := 65
  constantPool := pool
  accessFlags := fl
  thisClass := this
  superClass := sup
  interfaces := ifs
  fields := fds
  methods := ms
  attributes := attrs
def plain (name : String) (sup : Option ClassId) : Class where
  name := name
  kind := .ordinary
  loader := none
  accessFlags := 33
  super := sup
  interfaces := #[]
  cf := none
  fields := #[]
  methods := #[]
  instanceTypes := #[]
  staticTypes := #[]
  resolved := #[]
  callSites := []
  init := .initialized
  statics := none
  mirror := none

def pool0 : Array CpInfo := pool [(5, u "<init>"), (0, u "()V"), (1, .class_ 10), (1, u "java/lang/Object")] 113

def k0m0 : Method := { name := "<init>", desc := "()V", sig := { parameters := [], returnType := none }, accessFlags := 1, code := none }
/-- java/lang/Object -/
def k0 : Class := { plain "java/lang/Object" none with
  accessFlags := 33
  interfaces := #[]
  cf := some (fileOf pool0 8 #[] #[{ accessFlags := 1, nameIndex := 5, descriptorIndex := 6, attributes := #[] }] 33 0 #[] #[])
  fields := #[]
  methods := #[k0m0]
  instanceTypes := #[]
  staticTypes := #[]
  resolved := Array.replicate 124 none
  statics := none }

def pool1 : Array CpInfo := pool [(2, .class_ 4), (1, u "java/lang/Object"), (0, u "<init>"), (0, u "()V"), (0, .long 3573116690164977347), (1, .long 10871156337175269513), (1, .methodref 12 13), (0, .class_ 14), (0, .nameAndType 15 16), (0, u "com/example/chrono_bloom/chronobloom/Hashes"), (0, u "mix64"), (0, u "(J)J"), (0, .methodref 18 19), (0, .class_ 20), (0, .nameAndType 21 16), (0, u "com/example/chrono_bloom/chronobloom/HashesMix64PinLaw"), (0, u "unmix"), (2, u "law"), (0, u "(J)Z")] 3

def k1m0 : Method := { name := "<init>", desc := "()V", sig := { parameters := [], returnType := none }, accessFlags := 2, code := none }
def k1c1 : Code := { maxStack := 5, maxLocals := 4, code := method_2_code, exceptionTable := #[], attributes := #[] }
def k1m1 : Method := { name := "unmix", desc := "(J)J", sig := { parameters := [.long], returnType := some .long }, accessFlags := 10, code := some k1c1 }
def k1c2 : Code := { maxStack := 4, maxLocals := 4, code := code, exceptionTable := #[], attributes := #[] }
def k1m2 : Method := { name := "law", desc := "(J)Z", sig := { parameters := [.long], returnType := some .boolean }, accessFlags := 9, code := some k1c2 }
/-- com/example/chrono_bloom/chronobloom/HashesMix64PinLaw -/
def k1 : Class := { plain "com/example/chrono_bloom/chronobloom/HashesMix64PinLaw" (some 0) with
  accessFlags := 49
  interfaces := #[]
  cf := some (fileOf pool1 18 #[] #[{ accessFlags := 2, nameIndex := 5, descriptorIndex := 6, attributes := #[] }, { accessFlags := 10, nameIndex := 21, descriptorIndex := 16, attributes := #[] }, { accessFlags := 9, nameIndex := 24, descriptorIndex := 25, attributes := #[] }] 49 2 #[] #[])
  fields := #[]
  methods := #[k1m0, k1m1, k1m2]
  instanceTypes := #[]
  staticTypes := #[]
  resolved := Array.replicate 29 none
  statics := none }

def pool2 : Array CpInfo := pool [(2, .class_ 4), (1, u "java/lang/Object"), (0, u "<init>"), (0, u "()V"), (0, .class_ 8), (0, u "com/example/chrono_bloom/chronobloom/Hashes"), (18, u "mix64"), (0, u "(J)J"), (0, .long 13787848793156543929), (1, .long 10723151780598845931), (7, u "GAMMA"), (0, u "J"), (3, u "FNV_OFFSET_BASIS"), (0, u "FNV_PRIME")] 12

def k2m0 : Method := { name := "<init>", desc := "()V", sig := { parameters := [], returnType := none }, accessFlags := 2, code := none }
def k2c1 : Code := { maxStack := 5, maxLocals := 4, code := prog_18_method_4_code, exceptionTable := #[], attributes := #[] }
def k2m1 : Method := { name := "mix64", desc := "(J)J", sig := { parameters := [.long], returnType := some .long }, accessFlags := 8, code := some k2c1 }
/-- com/example/chrono_bloom/chronobloom/Hashes -/
def k2 : Class := { plain "com/example/chrono_bloom/chronobloom/Hashes" (some 0) with
  accessFlags := 32
  interfaces := #[]
  cf := some (fileOf pool2 7 #[] #[{ accessFlags := 2, nameIndex := 5, descriptorIndex := 6, attributes := #[] }, { accessFlags := 8, nameIndex := 27, descriptorIndex := 28, attributes := #[] }] 32 2 #[] #[{ accessFlags := 24, nameIndex := 39, descriptorIndex := 40, attributes := #[] }, { accessFlags := 26, nameIndex := 44, descriptorIndex := 40, attributes := #[] }, { accessFlags := 26, nameIndex := 45, descriptorIndex := 40, attributes := #[] }])
  fields := #[{ name := "GAMMA", type := .long, accessFlags := 24, slot := 0, constantValue := 0 }, { name := "FNV_OFFSET_BASIS", type := .long, accessFlags := 26, slot := 1, constantValue := 0 }, { name := "FNV_PRIME", type := .long, accessFlags := 26, slot := 2, constantValue := 0 }]
  methods := #[k2m0, k2m1]
  instanceTypes := #[]
  staticTypes := #[.long, .long, .long]
  resolved := Array.replicate 58 none
  statics := none }

def pool3 : Array CpInfo := pool [(1, u "java/lang/Cloneable"), (0, .class_ 1), (0, u "java/lang/Object"), (0, .class_ 3)] 3

/-- java/lang/Cloneable -/
def k3 : Class := { plain "java/lang/Cloneable" (some 0) with
  accessFlags := 1537
  interfaces := #[]
  cf := some (fileOf pool3 2 #[] #[] 1537 4 #[] #[])
  fields := #[]
  methods := #[]
  instanceTypes := #[]
  staticTypes := #[]
  resolved := Array.replicate 8 none
  statics := none }

def pool4 : Array CpInfo := pool [(1, u "java/io/Serializable"), (0, .class_ 1), (0, u "java/lang/Object"), (0, .class_ 3)] 3

/-- java/io/Serializable -/
def k4 : Class := { plain "java/io/Serializable" (some 0) with
  accessFlags := 1537
  interfaces := #[]
  cf := some (fileOf pool4 2 #[] #[] 1537 4 #[] #[])
  fields := #[]
  methods := #[]
  instanceTypes := #[]
  staticTypes := #[]
  resolved := Array.replicate 8 none
  statics := none }

/-- the primitive byte -/
def k5 : Class := { plain "byte" none with kind := .primitive 'B', accessFlags := 0x411 }
/-- [B -/
def k6 : Class := { plain "[B" (some 0) with kind := .array 5 .byte, interfaces := #[3, 4], accessFlags := 1041 }

/-- the primitive int -/
def k7 : Class := { plain "int" none with kind := .primitive 'I', accessFlags := 0x411 }
/-- [I -/
def k8 : Class := { plain "[I" (some 0) with kind := .array 7 .int, interfaces := #[3, 4], accessFlags := 1041 }

def heap : Heap := #[]
def classes : Array Class := #[k0, k1, k2, k3, k4, k5, k6, k7, k8]
def interned : List (Array UInt16 × Addr) := []
def slotsUsed : Nat := 0
def theMethod : MethodId := ⟨1, 2⟩
def args0 : Array Value := #[.long 5]
def aboutOver (below : List Frame) : State where
  vm := { classes := classes, interned := interned.toArray }
  heap := heap
  slotsUsed := slotsUsed
  threads := #[{ frames := .invoking theMethod args0 :: below }]
def below0 : List Frame := [.native { method := ⟨0, 0⟩, args := #[] }]
def about1 : State := aboutOver below0
def p0 : Program := .bare "" "" ""
def e0 : Env := launch0.env 0 0 0
theorem w_frames : about1.frames = Frame.invoking theMethod args0 :: below0 := rfl
set_option maxRecDepth 65536 in
theorem w_args : argsFit about1.vm theMethod args0 = true := by decide +kernel
set_option maxRecDepth 65536 in
theorem w_heap : heapFits about1 = true := by decide +kernel
set_option maxRecDepth 65536 in
theorem w_runnable : about1.curStatus? = some .runnable := by decide +kernel
set_option maxRecDepth 65536 in
theorem w_alone : about1.alone = true := by decide +kernel
set_option maxRecDepth 65536 in
theorem w_named : about1.methodNamed? x = some theMethod := by decide +kernel
set_option maxRecDepth 65536 in
theorem w_hears : about1.hears theMethod below0 = true := by decide +kernel
set_option maxRecDepth 65536 in
theorem w_ripe : about1.ripe theMethod args0 below0 = true := by decide +kernel
theorem w_running : about1.status = .running := rfl
set_option maxRecDepth 65536 in
theorem w_room : about1.hasRoom e0.platform room_1 = true :=
  launch0.hasRoom_least _ room_1 (by decide +kernel) (by decide +kernel) (by decide +kernel) (by decide +kernel) (by decide +kernel) (by decide +kernel)
theorem allAtoms_all (ts : List Jvm.Cond) (a : Array Jvm.Value) (st : Jvm.State) : (allAtoms ts).before a st = ts.all (fun c => c.before a st) := by
  induction ts with
  | nil => rfl
  | cons c t ih =>
    show (Jvm.Cond.and c (allAtoms t)).before a st = _
    rw [Jvm.Cond.before_and, ih, List.all_cons]
def words1 : List Jvm.Cond := Jvm.Cond.code x code maxLocals ret :: tables_1
/-- a 'code' word, met by the world's own term for the bytes: nothing is compared byte by byte -/
theorem code_word {y : MethodName} {bytes : ByteArray} {mx : Nat} {rt : Option FieldType} {a : Array Value} {s : State} {m : MethodId} {meth : Method} {c : Code} (h1 : s.methodNamed? y = some m) (h2 : s.vm.method? m = some meth) (h3 : meth.code = some c) (h4 : c.code = bytes)
    (h5 : (c.maxLocals == mx && c.exceptionTable.isEmpty && decide (c.maxStack ≤ mostOperands) && decide (meth.sig.returnType = rt) && !meth.locks && decide (parseMethodDescriptor y.desc = some meth.sig)) = true) : (Jvm.Cond.code y bytes mx rt).before a s = true := by
  simp only [Bool.and_eq_true, beq_iff_eq, Bool.not_eq_true', decide_eq_true_eq] at h5
  obtain ⟨⟨⟨⟨⟨g1, g2⟩, g3⟩, g4⟩, g5⟩, g6⟩ := h5
  simp [Cond.before, Cond.holds, Cond.value, h1, h2, h3, h4, g1, g2, g3, g4, g5, g6]
def isCode : Jvm.Cond → Bool
  | .code _ _ _ _ => true
  | _ => false
theorem all_split {L : List Jvm.Cond} {P : Jvm.Cond → Bool} (h1 : L.all (fun c => isCode c || P c) = true) (h2 : ∀ c ∈ L.filter isCode, P c = true) : L.all P = true := by
  refine List.all_eq_true.mpr fun c hc => ?_
  have h := List.all_eq_true.mp h1 c hc
  rcases Bool.eq_false_or_eq_true (isCode c) with hi | hi
  · exact h2 c (List.mem_filter.mpr ⟨hc, hi⟩)
  · simpa [hi] using h
set_option maxRecDepth 65536 in
theorem w_c0 : (Jvm.Cond.code x code maxLocals ret).before args0 about1 = true := code_word (m := ⟨1, 2⟩) (meth := k1m2) (c := k1c2) (by decide +kernel) rfl rfl rfl (by decide +kernel)
set_option maxRecDepth 65536 in
theorem w_c1 : (Jvm.Cond.code ({ cls := "com/example/chrono_bloom/chronobloom/Hashes", name := "mix64", desc := "(J)J" } : Jvm.MethodName) prog_18_method_4_code (4 : Nat) (Option.some Jvm.ClassFile.FieldType.long)).before args0 about1 = true := code_word (m := ⟨2, 1⟩) (meth := k2m1) (c := k2c1) (by decide +kernel) rfl rfl rfl (by decide +kernel)
set_option maxRecDepth 65536 in
theorem w_c2 : (Jvm.Cond.code ({ cls := "com/example/chrono_bloom/chronobloom/HashesMix64PinLaw", name := "unmix", desc := "(J)J" } : Jvm.MethodName) method_2_code (4 : Nat) (Option.some Jvm.ClassFile.FieldType.long)).before args0 about1 = true := code_word (m := ⟨1, 1⟩) (meth := k1m1) (c := k1c1) (by decide +kernel) rfl rfl rfl (by decide +kernel)
def codes1 : List Jvm.Cond := [Jvm.Cond.code x code maxLocals ret, Jvm.Cond.code ({ cls := "com/example/chrono_bloom/chronobloom/Hashes", name := "mix64", desc := "(J)J" } : Jvm.MethodName) prog_18_method_4_code (4 : Nat) (Option.some Jvm.ClassFile.FieldType.long), Jvm.Cond.code ({ cls := "com/example/chrono_bloom/chronobloom/HashesMix64PinLaw", name := "unmix", desc := "(J)J" } : Jvm.MethodName) method_2_code (4 : Nat) (Option.some Jvm.ClassFile.FieldType.long)]
set_option maxRecDepth 65536 in
theorem codes_eq : words1.filter isCode = codes1 := rfl
theorem w_codes : ∀ c ∈ words1.filter isCode, c.before args0 about1 = true := by
  rw [codes_eq]
  intro c hc
  simp only [codes1, List.mem_cons, List.not_mem_nil, or_false] at hc
  rcases hc with rfl | rfl | rfl
  · exact w_c0
  · exact w_c1
  · exact w_c2
set_option maxRecDepth 65536 in
theorem w_t1 : words1.all (fun c => isCode c || c.before args0 about1) = true := by decide +kernel
theorem w_tables : (allAtoms (Jvm.Cond.code x code maxLocals ret :: tables_1)).before args0 about1 = true := by
  rw [allAtoms_all]
  show words1.all (fun c => c.before args0 about1) = true
  refine all_split ?_ w_codes
  rw [w_t1]
set_option maxRecDepth 65536 in
theorem w_case : (Jvm.Cond.and given_1 narrow_1).before args0 about1 = true := by decide +kernel
theorem w_applies : (headSpec (Jvm.Cond.code x code maxLocals ret :: tables_1) room_1).applies x e0.platform about1 = true :=
  (Spec.applies_iff w_frames).mpr ⟨w_running, w_runnable, w_alone, w_named, w_hears, w_ripe, w_room, w_tables⟩
theorem atStart : AtStart classFile x code maxLocals ret World_1 tables_1 room_1 Calls_1 rest_1 Pre_1 launch0 p0 e0 about1 theMethod args0 below0 :=
  ⟨lists_1, trivial, launch0.admits_env _ _ _, launch0.least_env, fairChoices_fair.cas, fairChoices_fair.clock, w_frames, w_args, w_heap, w_applies, trivial, trivial, w_case⟩
end start1
theorem witness_1 : WitnessClaimed_1 := ⟨start1.p0, start1.e0, start1.about1, start1.theMethod, start1.args0, start1.below0, start1.atStart⟩
end Jvm.Pilot.@@N@@

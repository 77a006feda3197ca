import JvmDerived
import JvmDerived.Pilot.@@N@@Statement
import JvmDerived.Pilot.@@N@@Code
set_option linter.unusedVariables false
set_option linter.unusedSimpArgs false
namespace Jvm.Pilot.@@N@@
open Jvm Jvm.ClassFile Sem Op Lib Jvm.Free Jvm.Stand Jvm.LawKit Jvm.RoadKit Bundle Jvm.Pilot.@@N@@.Jvm.D
/-! the walk in continuation style: 'from U the run comes to an end of which P holds' -/
def OwnGoes (p : Program) (e : Env) (below : List Frame) (P : Outcome → State → Prop) (U : State) : Prop := ∃ s₂ o, Steps p.tables e below U s₂ ∧ s₂.status = .running ∧ Ended s₂ below o ∧ P o s₂
theorem own_pre {p : Program} {e : Env} {below : List Frame} {P : Outcome → State → Prop} {U U' : State} (h : ∀ t, Steps p.tables e below U' t → Steps p.tables e below U t) (k : OwnGoes p e below P U') : OwnGoes p e below P U := by
  obtain ⟨s₂, o, h1, h2⟩ := k
  exact ⟨s₂, o, h _ h1, h2⟩
theorem own_tr {p : Program} {e : Env} {below : List Frame} {P : Outcome → State → Prop} {U U' : State} (h : Steps p.tables e below U U') (k : OwnGoes p e below P U') : OwnGoes p e below P U := own_pre (fun _ q => h.trans q) k
theorem own_ret {p : Program} {l : Launch} {e : Env} {R : Room} {s : State} {m : MethodId} {args : Array Value} {below : List Frame} {meth : Method} {c : Code} {T : State} {locs : List Loc} {cells slots : Nat}
    (X : Stand p l e R s m args below meth c T locs cells slots) (hx : p.tables.exec = Jvm.exec) {pc : Nat} {Ls : Array Slot} {w : Value} {t : FieldType} {i : Instr} {rest : List Value} (hret : meth.sig.returnType = some t) (hn : narrow t w = w)
    (hi : (i = .ireturn ∧ (t = .int ∨ t = .boolean ∨ t = .byte ∨ t = .char ∨ t = .short) ∧ ∃ z, w = .int z) ∨ (i = .lreturn ∧ t = .long ∧ ∃ z, w = .long z) ∨ (i = .dreturn ∧ t = .double ∧ ∃ z, w = .double z) ∨ (i = .freturn ∧ t = .float ∧ ∃ z, w = .float z) ∨ (i = .areturn ∧ t.isReference = true ∧ w.isRef = true))
    (hlocks : meth.locks = false) (hd : decode c.code pc = .ok (i, 1)) {Qh : Option Value → Heap → List Loc → Prop} {rc rs : Nat} (hQ : Qh (some w) T.heap locs) (hc : cells ≤ rc) (hs : slots ≤ rs) :
    OwnGoes p e below (fun o U' => ∃ v L, o = .returned v ∧ Qh v U'.heap L ∧ FrameEnd s o U' L rc rs) (T.setTop (mkF m pc Ls (w :: rest))) := by
  obtain ⟨fs, hr, hrun, hended, hW, hsame⟩ := X.leave (v := some w) (fun h => by rw [hret] at h; cases h) hlocks
  exact ⟨_, _, retOut X hx hret hn hi hd hr, hrun, hended, _, _, rfl, hQ, ⟨_, rfl⟩, hW, hsame.mono hc hs⟩
theorem own_retV {p : Program} {l : Launch} {e : Env} {R : Room} {s : State} {m : MethodId} {args : Array Value} {below : List Frame} {meth : Method} {c : Code} {T : State} {locs : List Loc} {cells slots : Nat}
    (X : Stand p l e R s m args below meth c T locs cells slots) (hx : p.tables.exec = Jvm.exec) {pc : Nat} {Ls : Array Slot} (hret : meth.sig.returnType = none) (hlocks : meth.locks = false) (hd : decode c.code pc = .ok (.return_, 1)) {Qh : Option Value → Heap → List Loc → Prop} {rc rs : Nat} (hQ : Qh none T.heap locs) (hc : cells ≤ rc) (hs : slots ≤ rs) :
    OwnGoes p e below (fun o U' => ∃ v L, o = .returned v ∧ Qh v U'.heap L ∧ FrameEnd s o U' L rc rs) (T.setTop (mkF m pc Ls [])) := by
  obtain ⟨fs, hr, hrun, hended, hW, hsame⟩ := X.leave (v := none) (fun _ => rfl) hlocks
  exact ⟨_, _, X.returnOut hx hret hd hr, hrun, hended, _, _, rfl, hQ, ⟨_, rfl⟩, hW, hsame.mono hc hs⟩

def own_bn (n k : Int32) : Int64 := (3 : Int64) * ((16 : Int64) + (8 : Int64) * (k.toInt64 * n.toInt64)) + (2 : Int64) * ((16 : Int64) + (8 : Int64) * n.toInt64)
def own_ex (n k : Int32) : Int64 := (5 : Int64) * (16 : Int64) + (8 : Int64) * ((3 : Int64) * (k.toInt64 * n.toInt64) + (2 : Int64) * n.toInt64)
theorem own_law (n k : Int32) : own_bn n k = own_ex n k := by
  unfold own_bn own_ex
  generalize k.toInt64 * n.toInt64 = a
  generalize n.toInt64 = b
  simp only [Int64.mul_add, ← Int64.mul_assoc]
  have e1 : (3 : Int64) * 8 = 8 * 3 := by decide
  have e2 : (2 : Int64) * 8 = 8 * 2 := by decide
  have e3 : (5 : Int64) * 16 = 3 * 16 + 2 * 16 := by decide
  rw [e1, e2, e3]
  generalize (3 : Int64) * 16 = c
  generalize (2 : Int64) * 16 = d
  generalize (8 : Int64) * 3 * a = f
  generalize (8 : Int64) * 2 * b = g
  rw [Int64.add_assoc, Int64.add_assoc, ← Int64.add_assoc f, Int64.add_comm f d, Int64.add_assoc d]

theorem d1_0 : decode prog_67_method_2_code 0 = .ok (.ldc2_w 51, 3) := by decide +kernel
theorem d1_3 : decode prog_67_method_2_code 3 = .ok (.lstore_n 2, 1) := by decide +kernel
theorem d1_4 : decode prog_67_method_2_code 4 = .ok (.iload_n 1, 1) := by decide +kernel
theorem d1_5 : decode prog_67_method_2_code 5 = .ok (.i2l, 1) := by decide +kernel
theorem d1_6 : decode prog_67_method_2_code 6 = .ok (.iload_n 0, 1) := by decide +kernel
theorem d1_7 : decode prog_67_method_2_code 7 = .ok (.i2l, 1) := by decide +kernel
theorem d1_8 : decode prog_67_method_2_code 8 = .ok (.lmul, 1) := by decide +kernel
theorem d1_9 : decode prog_67_method_2_code 9 = .ok (.lstore 4, 2) := by decide +kernel
theorem d1_11 : decode prog_67_method_2_code 11 = .ok (.ldc2_w 53, 3) := by decide +kernel
theorem d1_14 : decode prog_67_method_2_code 14 = .ok (.lload_n 2, 1) := by decide +kernel
theorem d1_15 : decode prog_67_method_2_code 15 = .ok (.ldc2_w 55, 3) := by decide +kernel
theorem d1_18 : decode prog_67_method_2_code 18 = .ok (.lload 4, 2) := by decide +kernel
theorem d1_20 : decode prog_67_method_2_code 20 = .ok (.lmul, 1) := by decide +kernel
theorem d1_21 : decode prog_67_method_2_code 21 = .ok (.ladd, 1) := by decide +kernel
theorem d1_22 : decode prog_67_method_2_code 22 = .ok (.lmul, 1) := by decide +kernel
theorem d1_23 : decode prog_67_method_2_code 23 = .ok (.ldc2_w 57, 3) := by decide +kernel
theorem d1_26 : decode prog_67_method_2_code 26 = .ok (.lload_n 2, 1) := by decide +kernel
theorem d1_27 : decode prog_67_method_2_code 27 = .ok (.ldc2_w 55, 3) := by decide +kernel
theorem d1_30 : decode prog_67_method_2_code 30 = .ok (.iload_n 0, 1) := by decide +kernel
theorem d1_31 : decode prog_67_method_2_code 31 = .ok (.i2l, 1) := by decide +kernel
theorem d1_32 : decode prog_67_method_2_code 32 = .ok (.lmul, 1) := by decide +kernel
theorem d1_33 : decode prog_67_method_2_code 33 = .ok (.ladd, 1) := by decide +kernel
theorem d1_34 : decode prog_67_method_2_code 34 = .ok (.lmul, 1) := by decide +kernel
theorem d1_35 : decode prog_67_method_2_code 35 = .ok (.ladd, 1) := by decide +kernel
theorem d1_36 : decode prog_67_method_2_code 36 = .ok (.lreturn, 1) := by decide +kernel
def Q1 (p1 p2 : Int32) (h0 : Heap) (n0 : Nat) (v : Option Value) (h : Heap) (L : List Loc) : Prop := v = some (.long (own_bn p1 p2)) ∧ Fr n0 L ∧ h = h0
def Q0  (h0 : Heap) (n0 : Nat) (v : Option Value) (h : Heap) (L : List Loc) : Prop := v = some (.int (1 : Int32)) ∧ Fr n0 L
set_option maxRecDepth 65536 in
set_option maxHeartbeats 40000000 in
theorem rm1 (l : Launch) (Z : State) (a0 : Array Value) (hw : ∀ d ∈ tables_1, d.before a0 Z = true) (ws : List Jvm.Cond) (p1 p2 : Int32) (h0 : Heap) (n0 : Nat) (Z0 : n0 ≤ h0.size) :
    MetFree l (⟨"com/example/dual_bounds/dualbounds/numerics/RewardLevelChain", "bytesNeeded", "(II)J"⟩ : MethodName) (head1 (Jvm.Cond.code (⟨"com/example/dual_bounds/dualbounds/numerics/RewardLevelChain", "bytesNeeded", "(II)J"⟩ : MethodName) prog_67_method_2_code 6 (some .long) :: ws) ({ frames := 0, cells := 0, slots := 0, locals := 0 } : Room)) (fun a U => a = #[(.int p1), (.int p2)] ∧ Z.Warmed39 U.vm ∧ U.heap = h0) (fun _ _ _ _ _ => True) (fun _ U o U' => ∃ v L, o = .returned v ∧ Q1 p1 p2 h0 n0 v U'.heap L ∧ FrameEnd U o U' L ({ frames := 0, cells := 0, slots := 0, locals := 0 } : Room).cells ({ frames := 0, cells := 0, slots := 0, locals := 0 } : Room).slots) := by
  refine MetFree.of_bodySF (plainFor_of_name (by first | (simp [plainName, overriddenIn]; done) | decide +kernel)) hisR ?_
  intro p e s m args below meth c s₁ Bd hml0 hP hK
  obtain ⟨rfl, hZ, hh⟩ := hP
  have hx := Bd.exec
  have hby := Bd.bytes
  have hml : c.maxLocals = 6 := hml0
  have hown : s.vm.findClass "com/example/dual_bounds/dualbounds/numerics/RewardLevelChain" = some m.cls := findClass_of_methodNamed Bd.named
  have hnm := (name_of_methodNamed Bd.named Bd.method).1
  have X0 : Stand p l e ({ frames := 0, cells := 0, slots := 0, locals := 0 } : Room) s m #[(.int p1), (.int p2)] below meth c s₁ [] 0 0 := Stand.of_body Bd
  have e0 : s₁.heap = h0 := by rw [← hh, Bd.state]; rfl
  have N0 := Fr.nil n0
  have ef : entryFrame m #[(.int p1), (.int p2)] 6 = (mkF m 0 #[.val (.int p1), .val (.int p2), .unset, .unset, .unset, .unset] []) := by first | (simp [entryFrame, mkF, argsToLocals, Value.category]; done) | rfl
  show OwnGoes p e below (fun o U' => ∃ v L, o = .returned v ∧ Q1 p1 p2 h0 n0 v U'.heap L ∧ FrameEnd s o U' L ({ frames := 0, cells := 0, slots := 0, locals := 0 } : Room).cells ({ frames := 0, cells := 0, slots := 0, locals := 0 } : Room).slots) (s₁.setTop (entryFrame m #[(.int p1), (.int p2)] 6))
  refine own_pre (fun t k => castTop ef k) ?_
  show OwnGoes p e below _ (s₁.setTop (mkF m 0 #[.val (.int p1), .val (.int p2), .unset, .unset, .unset, .unset] []))
  refine own_pre (fun _ k => X0.ldc2Long hx hown (mvT hZ (hw _ (List.mem_of_getElem? (i := 9) rfl))) (g := (mkF m 0 #[.val (.int p1), .val (.int p2), .unset, .unset, .unset, .unset] [])) rfl (hb hby d1_0) _ k) ?_
  show OwnGoes p e below _ (s₁.setTop (mkF m 3 #[.val (.int p1), .val (.int p2), .unset, .unset, .unset, .unset] [(.long (16 : Int64))]))
  refine own_pre (fun _ k => XS.lstoreN X0.here hx rfl (hb hby d1_3) rfl (l' := #[.val (.int p1), .val (.int p2), .val (.long (16 : Int64)), .second, .unset, .unset]) rfl k) ?_
  show OwnGoes p e below _ (s₁.setTop (mkF m 4 #[.val (.int p1), .val (.int p2), .val (.long (16 : Int64)), .second, .unset, .unset] []))
  refine own_pre (fun _ k => XS.iloadN X0.here hx rfl (hb hby d1_4) rfl k) ?_
  show OwnGoes p e below _ (s₁.setTop (mkF m 5 #[.val (.int p1), .val (.int p2), .val (.long (16 : Int64)), .second, .unset, .unset] [(.int p2)]))
  refine own_pre (fun _ k => XS.i2l X0.here hx rfl (hb hby d1_5) rfl k) ?_
  show OwnGoes p e below _ (s₁.setTop (mkF m 6 #[.val (.int p1), .val (.int p2), .val (.long (16 : Int64)), .second, .unset, .unset] [(.long (p2.toInt64))]))
  refine own_pre (fun _ k => XS.iloadN X0.here hx rfl (hb hby d1_6) rfl k) ?_
  show OwnGoes p e below _ (s₁.setTop (mkF m 7 #[.val (.int p1), .val (.int p2), .val (.long (16 : Int64)), .second, .unset, .unset] [(.int p1), (.long (p2.toInt64))]))
  refine own_pre (fun _ k => XS.i2l X0.here hx rfl (hb hby d1_7) rfl k) ?_
  show OwnGoes p e below _ (s₁.setTop (mkF m 8 #[.val (.int p1), .val (.int p2), .val (.long (16 : Int64)), .second, .unset, .unset] [(.long (p1.toInt64)), (.long (p2.toInt64))]))
  refine own_pre (fun _ k => XS.lmul X0.here hx rfl (hb hby d1_8) rfl k) ?_
  show OwnGoes p e below _ (s₁.setTop (mkF m 9 #[.val (.int p1), .val (.int p2), .val (.long (16 : Int64)), .second, .unset, .unset] [(.long ((p2.toInt64) * (p1.toInt64)))]))
  refine own_pre (fun _ k => XS.lstore X0.here hx rfl (hb hby d1_9) rfl (l' := #[.val (.int p1), .val (.int p2), .val (.long (16 : Int64)), .second, .val (.long ((p2.toInt64) * (p1.toInt64))), .second]) rfl k) ?_
  show OwnGoes p e below _ (s₁.setTop (mkF m 11 #[.val (.int p1), .val (.int p2), .val (.long (16 : Int64)), .second, .val (.long ((p2.toInt64) * (p1.toInt64))), .second] []))
  refine own_pre (fun _ k => X0.ldc2Long hx hown (mvT hZ (hw _ (List.mem_of_getElem? (i := 10) rfl))) (g := (mkF m 11 #[.val (.int p1), .val (.int p2), .val (.long (16 : Int64)), .second, .val (.long ((p2.toInt64) * (p1.toInt64))), .second] [])) rfl (hb hby d1_11) _ k) ?_
  show OwnGoes p e below _ (s₁.setTop (mkF m 14 #[.val (.int p1), .val (.int p2), .val (.long (16 : Int64)), .second, .val (.long ((p2.toInt64) * (p1.toInt64))), .second] [(.long (3 : Int64))]))
  refine own_pre (fun _ k => XS.lloadN X0.here hx rfl (hb hby d1_14) rfl k) ?_
  show OwnGoes p e below _ (s₁.setTop (mkF m 15 #[.val (.int p1), .val (.int p2), .val (.long (16 : Int64)), .second, .val (.long ((p2.toInt64) * (p1.toInt64))), .second] [(.long (16 : Int64)), (.long (3 : Int64))]))
  refine own_pre (fun _ k => X0.ldc2Long hx hown (mvT hZ (hw _ (List.mem_of_getElem? (i := 11) rfl))) (g := (mkF m 15 #[.val (.int p1), .val (.int p2), .val (.long (16 : Int64)), .second, .val (.long ((p2.toInt64) * (p1.toInt64))), .second] [(.long (16 : Int64)), (.long (3 : Int64))])) rfl (hb hby d1_15) _ k) ?_
  show OwnGoes p e below _ (s₁.setTop (mkF m 18 #[.val (.int p1), .val (.int p2), .val (.long (16 : Int64)), .second, .val (.long ((p2.toInt64) * (p1.toInt64))), .second] [(.long (8 : Int64)), (.long (16 : Int64)), (.long (3 : Int64))]))
  refine own_pre (fun _ k => XS.lload X0.here hx rfl (hb hby d1_18) rfl k) ?_
  show OwnGoes p e below _ (s₁.setTop (mkF m 20 #[.val (.int p1), .val (.int p2), .val (.long (16 : Int64)), .second, .val (.long ((p2.toInt64) * (p1.toInt64))), .second] [(.long ((p2.toInt64) * (p1.toInt64))), (.long (8 : Int64)), (.long (16 : Int64)), (.long (3 : Int64))]))
  refine own_pre (fun _ k => XS.lmul X0.here hx rfl (hb hby d1_20) rfl k) ?_
  show OwnGoes p e below _ (s₁.setTop (mkF m 21 #[.val (.int p1), .val (.int p2), .val (.long (16 : Int64)), .second, .val (.long ((p2.toInt64) * (p1.toInt64))), .second] [(.long ((8 : Int64) * ((p2.toInt64) * (p1.toInt64)))), (.long (16 : Int64)), (.long (3 : Int64))]))
  refine own_pre (fun _ k => XS.ladd X0.here hx rfl (hb hby d1_21) rfl k) ?_
  show OwnGoes p e below _ (s₁.setTop (mkF m 22 #[.val (.int p1), .val (.int p2), .val (.long (16 : Int64)), .second, .val (.long ((p2.toInt64) * (p1.toInt64))), .second] [(.long ((16 : Int64) + ((8 : Int64) * ((p2.toInt64) * (p1.toInt64))))), (.long (3 : Int64))]))
  refine own_pre (fun _ k => XS.lmul X0.here hx rfl (hb hby d1_22) rfl k) ?_
  show OwnGoes p e below _ (s₁.setTop (mkF m 23 #[.val (.int p1), .val (.int p2), .val (.long (16 : Int64)), .second, .val (.long ((p2.toInt64) * (p1.toInt64))), .second] [(.long ((3 : Int64) * ((16 : Int64) + ((8 : Int64) * ((p2.toInt64) * (p1.toInt64))))))]))
  refine own_pre (fun _ k => X0.ldc2Long hx hown (mvT hZ (hw _ (List.mem_of_getElem? (i := 12) rfl))) (g := (mkF m 23 #[.val (.int p1), .val (.int p2), .val (.long (16 : Int64)), .second, .val (.long ((p2.toInt64) * (p1.toInt64))), .second] [(.long ((3 : Int64) * ((16 : Int64) + ((8 : Int64) * ((p2.toInt64) * (p1.toInt64))))))])) rfl (hb hby d1_23) _ k) ?_
  show OwnGoes p e below _ (s₁.setTop (mkF m 26 #[.val (.int p1), .val (.int p2), .val (.long (16 : Int64)), .second, .val (.long ((p2.toInt64) * (p1.toInt64))), .second] [(.long (2 : Int64)), (.long ((3 : Int64) * ((16 : Int64) + ((8 : Int64) * ((p2.toInt64) * (p1.toInt64))))))]))
  refine own_pre (fun _ k => XS.lloadN X0.here hx rfl (hb hby d1_26) rfl k) ?_
  show OwnGoes p e below _ (s₁.setTop (mkF m 27 #[.val (.int p1), .val (.int p2), .val (.long (16 : Int64)), .second, .val (.long ((p2.toInt64) * (p1.toInt64))), .second] [(.long (16 : Int64)), (.long (2 : Int64)), (.long ((3 : Int64) * ((16 : Int64) + ((8 : Int64) * ((p2.toInt64) * (p1.toInt64))))))]))
  refine own_pre (fun _ k => X0.ldc2Long hx hown (mvT hZ (hw _ (List.mem_of_getElem? (i := 11) rfl))) (g := (mkF m 27 #[.val (.int p1), .val (.int p2), .val (.long (16 : Int64)), .second, .val (.long ((p2.toInt64) * (p1.toInt64))), .second] [(.long (16 : Int64)), (.long (2 : Int64)), (.long ((3 : Int64) * ((16 : Int64) + ((8 : Int64) * ((p2.toInt64) * (p1.toInt64))))))])) rfl (hb hby d1_27) _ k) ?_
  show OwnGoes p e below _ (s₁.setTop (mkF m 30 #[.val (.int p1), .val (.int p2), .val (.long (16 : Int64)), .second, .val (.long ((p2.toInt64) * (p1.toInt64))), .second] [(.long (8 : Int64)), (.long (16 : Int64)), (.long (2 : Int64)), (.long ((3 : Int64) * ((16 : Int64) + ((8 : Int64) * ((p2.toInt64) * (p1.toInt64))))))]))
  refine own_pre (fun _ k => XS.iloadN X0.here hx rfl (hb hby d1_30) rfl k) ?_
  show OwnGoes p e below _ (s₁.setTop (mkF m 31 #[.val (.int p1), .val (.int p2), .val (.long (16 : Int64)), .second, .val (.long ((p2.toInt64) * (p1.toInt64))), .second] [(.int p1), (.long (8 : Int64)), (.long (16 : Int64)), (.long (2 : Int64)), (.long ((3 : Int64) * ((16 : Int64) + ((8 : Int64) * ((p2.toInt64) * (p1.toInt64))))))]))
  refine own_pre (fun _ k => XS.i2l X0.here hx rfl (hb hby d1_31) rfl k) ?_
  show OwnGoes p e below _ (s₁.setTop (mkF m 32 #[.val (.int p1), .val (.int p2), .val (.long (16 : Int64)), .second, .val (.long ((p2.toInt64) * (p1.toInt64))), .second] [(.long (p1.toInt64)), (.long (8 : Int64)), (.long (16 : Int64)), (.long (2 : Int64)), (.long ((3 : Int64) * ((16 : Int64) + ((8 : Int64) * ((p2.toInt64) * (p1.toInt64))))))]))
  refine own_pre (fun _ k => XS.lmul X0.here hx rfl (hb hby d1_32) rfl k) ?_
  show OwnGoes p e below _ (s₁.setTop (mkF m 33 #[.val (.int p1), .val (.int p2), .val (.long (16 : Int64)), .second, .val (.long ((p2.toInt64) * (p1.toInt64))), .second] [(.long ((8 : Int64) * (p1.toInt64))), (.long (16 : Int64)), (.long (2 : Int64)), (.long ((3 : Int64) * ((16 : Int64) + ((8 : Int64) * ((p2.toInt64) * (p1.toInt64))))))]))
  refine own_pre (fun _ k => XS.ladd X0.here hx rfl (hb hby d1_33) rfl k) ?_
  show OwnGoes p e below _ (s₁.setTop (mkF m 34 #[.val (.int p1), .val (.int p2), .val (.long (16 : Int64)), .second, .val (.long ((p2.toInt64) * (p1.toInt64))), .second] [(.long ((16 : Int64) + ((8 : Int64) * (p1.toInt64)))), (.long (2 : Int64)), (.long ((3 : Int64) * ((16 : Int64) + ((8 : Int64) * ((p2.toInt64) * (p1.toInt64))))))]))
  refine own_pre (fun _ k => XS.lmul X0.here hx rfl (hb hby d1_34) rfl k) ?_
  show OwnGoes p e below _ (s₁.setTop (mkF m 35 #[.val (.int p1), .val (.int p2), .val (.long (16 : Int64)), .second, .val (.long ((p2.toInt64) * (p1.toInt64))), .second] [(.long ((2 : Int64) * ((16 : Int64) + ((8 : Int64) * (p1.toInt64))))), (.long ((3 : Int64) * ((16 : Int64) + ((8 : Int64) * ((p2.toInt64) * (p1.toInt64))))))]))
  refine own_pre (fun _ k => XS.ladd X0.here hx rfl (hb hby d1_35) rfl k) ?_
  show OwnGoes p e below _ (s₁.setTop (mkF m 36 #[.val (.int p1), .val (.int p2), .val (.long (16 : Int64)), .second, .val (.long ((p2.toInt64) * (p1.toInt64))), .second] [(.long (((3 : Int64) * ((16 : Int64) + ((8 : Int64) * ((p2.toInt64) * (p1.toInt64))))) + ((2 : Int64) * ((16 : Int64) + ((8 : Int64) * (p1.toInt64))))))]))
  exact own_ret X0 hx Bd.returns (rfl) (Or.inr (Or.inl ⟨rfl, rfl, _, rfl⟩)) Bd.notSynchronized (hb hby d1_36) ⟨rfl, N0, e0⟩ (by decide) (by decide)
set_option maxRecDepth 65536 in
set_option maxHeartbeats 40000000 in
theorem rm0 (l : Launch) (Z : State) (a0 : Array Value) (hw : ∀ d ∈ tables_1, d.before a0 Z = true) (ws : List Jvm.Cond) (p1 p2 : Int32) (h0 : Heap) (n0 : Nat) (Z0 : n0 ≤ h0.size) :
    MetFree l x (head1 (Jvm.Cond.code x code maxLocals ret :: ws) room_1) (fun a U => a = #[(.int p1), (.int p2)] ∧ Z.Warmed39 U.vm ∧ U.heap = h0) (fun _ _ _ _ _ => True) (fun _ U o U' => ∃ v L, o = .returned v ∧ Q0 h0 n0 v U'.heap L ∧ FrameEnd U o U' L room_1.cells room_1.slots) := by
  refine MetFree.of_bodySF (plainFor_of_name (by first | (simp [plainName, overriddenIn]; done) | decide +kernel)) hisR ?_
  intro p e s m args below meth c s₁ Bd hml0 hP hK
  obtain ⟨rfl, hZ, hh⟩ := hP
  have hx := Bd.exec
  have hby := Bd.bytes
  have hml : c.maxLocals = 14 := hml0
  have hown : s.vm.findClass "com/example/dual_bounds/dualbounds/numerics/RewardLevelChainBytesNeededPinLaw" = some m.cls := findClass_of_methodNamed Bd.named
  have hnm := (name_of_methodNamed Bd.named Bd.method).1
  have X0 : Stand p l e room_1 s m #[(.int p1), (.int p2)] below meth c s₁ [] 0 0 := Stand.of_body Bd
  have e0 : s₁.heap = h0 := by rw [← hh, Bd.state]; rfl
  have N0 := Fr.nil n0
  have ef : entryFrame m #[(.int p1), (.int p2)] maxLocals = (mkF m 0 #[.val (.int p1), .val (.int p2), .unset, .unset, .unset, .unset, .unset, .unset, .unset, .unset, .unset, .unset, .unset, .unset] []) := by first | (simp [entryFrame, mkF, argsToLocals, Value.category, maxLocals]; done) | rfl
  show OwnGoes p e below (fun o U' => ∃ v L, o = .returned v ∧ Q0 h0 n0 v U'.heap L ∧ FrameEnd s o U' L room_1.cells room_1.slots) (s₁.setTop (entryFrame m #[(.int p1), (.int p2)] maxLocals))
  refine own_pre (fun t k => castTop ef k) ?_
  show OwnGoes p e below _ (s₁.setTop (mkF m 0 #[.val (.int p1), .val (.int p2), .unset, .unset, .unset, .unset, .unset, .unset, .unset, .unset, .unset, .unset, .unset, .unset] []))
  refine own_pre (fun _ k => XS.iloadN X0.here hx rfl (hb hby at_0) rfl k) ?_
  show OwnGoes p e below _ (s₁.setTop (mkF m 1 #[.val (.int p1), .val (.int p2), .unset, .unset, .unset, .unset, .unset, .unset, .unset, .unset, .unset, .unset, .unset, .unset] [(.int p1)]))
  refine own_pre (fun _ k => XS.i2l X0.here hx rfl (hb hby at_1) rfl k) ?_
  show OwnGoes p e below _ (s₁.setTop (mkF m 2 #[.val (.int p1), .val (.int p2), .unset, .unset, .unset, .unset, .unset, .unset, .unset, .unset, .unset, .unset, .unset, .unset] [(.long (p1.toInt64))]))
  refine own_pre (fun _ k => XS.lstoreN X0.here hx rfl (hb hby at_2) rfl (l' := #[.val (.int p1), .val (.int p2), .val (.long (p1.toInt64)), .second, .unset, .unset, .unset, .unset, .unset, .unset, .unset, .unset, .unset, .unset]) rfl k) ?_
  show OwnGoes p e below _ (s₁.setTop (mkF m 3 #[.val (.int p1), .val (.int p2), .val (.long (p1.toInt64)), .second, .unset, .unset, .unset, .unset, .unset, .unset, .unset, .unset, .unset, .unset] []))
  refine own_pre (fun _ k => XS.iloadN X0.here hx rfl (hb hby at_3) rfl k) ?_
  show OwnGoes p e below _ (s₁.setTop (mkF m 4 #[.val (.int p1), .val (.int p2), .val (.long (p1.toInt64)), .second, .unset, .unset, .unset, .unset, .unset, .unset, .unset, .unset, .unset, .unset] [(.int p2)]))
  refine own_pre (fun _ k => XS.i2l X0.here hx rfl (hb hby at_4) rfl k) ?_
  show OwnGoes p e below _ (s₁.setTop (mkF m 5 #[.val (.int p1), .val (.int p2), .val (.long (p1.toInt64)), .second, .unset, .unset, .unset, .unset, .unset, .unset, .unset, .unset, .unset, .unset] [(.long (p2.toInt64))]))
  refine own_pre (fun _ k => XS.lloadN X0.here hx rfl (hb hby at_5) rfl k) ?_
  show OwnGoes p e below _ (s₁.setTop (mkF m 6 #[.val (.int p1), .val (.int p2), .val (.long (p1.toInt64)), .second, .unset, .unset, .unset, .unset, .unset, .unset, .unset, .unset, .unset, .unset] [(.long (p1.toInt64)), (.long (p2.toInt64))]))
  refine own_pre (fun _ k => XS.lmul X0.here hx rfl (hb hby at_6) rfl k) ?_
  show OwnGoes p e below _ (s₁.setTop (mkF m 7 #[.val (.int p1), .val (.int p2), .val (.long (p1.toInt64)), .second, .unset, .unset, .unset, .unset, .unset, .unset, .unset, .unset, .unset, .unset] [(.long ((p2.toInt64) * (p1.toInt64)))]))
  refine own_pre (fun _ k => XS.lstore X0.here hx rfl (hb hby at_7) rfl (l' := #[.val (.int p1), .val (.int p2), .val (.long (p1.toInt64)), .second, .val (.long ((p2.toInt64) * (p1.toInt64))), .second, .unset, .unset, .unset, .unset, .unset, .unset, .unset, .unset]) rfl k) ?_
  show OwnGoes p e below _ (s₁.setTop (mkF m 9 #[.val (.int p1), .val (.int p2), .val (.long (p1.toInt64)), .second, .val (.long ((p2.toInt64) * (p1.toInt64))), .second, .unset, .unset, .unset, .unset, .unset, .unset, .unset, .unset] []))
  refine own_pre (fun _ k => X0.ldc2Long hx hown (mvT hZ (hw _ (List.mem_of_getElem? (i := 0) rfl))) (g := (mkF m 9 #[.val (.int p1), .val (.int p2), .val (.long (p1.toInt64)), .second, .val (.long ((p2.toInt64) * (p1.toInt64))), .second, .unset, .unset, .unset, .unset, .unset, .unset, .unset, .unset] [])) rfl (hb hby at_9) _ k) ?_
  show OwnGoes p e below _ (s₁.setTop (mkF m 12 #[.val (.int p1), .val (.int p2), .val (.long (p1.toInt64)), .second, .val (.long ((p2.toInt64) * (p1.toInt64))), .second, .unset, .unset, .unset, .unset, .unset, .unset, .unset, .unset] [(.long (5 : Int64))]))
  refine own_pre (fun _ k => XS.lstore X0.here hx rfl (hb hby at_12) rfl (l' := #[.val (.int p1), .val (.int p2), .val (.long (p1.toInt64)), .second, .val (.long ((p2.toInt64) * (p1.toInt64))), .second, .val (.long (5 : Int64)), .second, .unset, .unset, .unset, .unset, .unset, .unset]) rfl k) ?_
  show OwnGoes p e below _ (s₁.setTop (mkF m 14 #[.val (.int p1), .val (.int p2), .val (.long (p1.toInt64)), .second, .val (.long ((p2.toInt64) * (p1.toInt64))), .second, .val (.long (5 : Int64)), .second, .unset, .unset, .unset, .unset, .unset, .unset] []))
  refine own_pre (fun _ k => XS.lload X0.here hx rfl (hb hby at_14) rfl k) ?_
  show OwnGoes p e below _ (s₁.setTop (mkF m 16 #[.val (.int p1), .val (.int p2), .val (.long (p1.toInt64)), .second, .val (.long ((p2.toInt64) * (p1.toInt64))), .second, .val (.long (5 : Int64)), .second, .unset, .unset, .unset, .unset, .unset, .unset] [(.long (5 : Int64))]))
  refine own_pre (fun _ k => X0.ldc2Long hx hown (mvT hZ (hw _ (List.mem_of_getElem? (i := 1) rfl))) (g := (mkF m 16 #[.val (.int p1), .val (.int p2), .val (.long (p1.toInt64)), .second, .val (.long ((p2.toInt64) * (p1.toInt64))), .second, .val (.long (5 : Int64)), .second, .unset, .unset, .unset, .unset, .unset, .unset] [(.long (5 : Int64))])) rfl (hb hby at_16) _ k) ?_
  show OwnGoes p e below _ (s₁.setTop (mkF m 19 #[.val (.int p1), .val (.int p2), .val (.long (p1.toInt64)), .second, .val (.long ((p2.toInt64) * (p1.toInt64))), .second, .val (.long (5 : Int64)), .second, .unset, .unset, .unset, .unset, .unset, .unset] [(.long (16 : Int64)), (.long (5 : Int64))]))
  refine own_pre (fun _ k => XS.lmul X0.here hx rfl (hb hby at_19) rfl k) ?_
  show OwnGoes p e below _ (s₁.setTop (mkF m 20 #[.val (.int p1), .val (.int p2), .val (.long (p1.toInt64)), .second, .val (.long ((p2.toInt64) * (p1.toInt64))), .second, .val (.long (5 : Int64)), .second, .unset, .unset, .unset, .unset, .unset, .unset] [(.long ((5 : Int64) * (16 : Int64)))]))
  refine own_pre (fun _ k => XS.lstore X0.here hx rfl (hb hby at_20) rfl (l' := #[.val (.int p1), .val (.int p2), .val (.long (p1.toInt64)), .second, .val (.long ((p2.toInt64) * (p1.toInt64))), .second, .val (.long (5 : Int64)), .second, .val (.long ((5 : Int64) * (16 : Int64))), .second, .unset, .unset, .unset, .unset]) rfl k) ?_
  show OwnGoes p e below _ (s₁.setTop (mkF m 22 #[.val (.int p1), .val (.int p2), .val (.long (p1.toInt64)), .second, .val (.long ((p2.toInt64) * (p1.toInt64))), .second, .val (.long (5 : Int64)), .second, .val (.long ((5 : Int64) * (16 : Int64))), .second, .unset, .unset, .unset, .unset] []))
  refine own_pre (fun _ k => X0.ldc2Long hx hown (mvT hZ (hw _ (List.mem_of_getElem? (i := 2) rfl))) (g := (mkF m 22 #[.val (.int p1), .val (.int p2), .val (.long (p1.toInt64)), .second, .val (.long ((p2.toInt64) * (p1.toInt64))), .second, .val (.long (5 : Int64)), .second, .val (.long ((5 : Int64) * (16 : Int64))), .second, .unset, .unset, .unset, .unset] [])) rfl (hb hby at_22) _ k) ?_
  show OwnGoes p e below _ (s₁.setTop (mkF m 25 #[.val (.int p1), .val (.int p2), .val (.long (p1.toInt64)), .second, .val (.long ((p2.toInt64) * (p1.toInt64))), .second, .val (.long (5 : Int64)), .second, .val (.long ((5 : Int64) * (16 : Int64))), .second, .unset, .unset, .unset, .unset] [(.long (3 : Int64))]))
  refine own_pre (fun _ k => XS.lload X0.here hx rfl (hb hby at_25) rfl k) ?_
  show OwnGoes p e below _ (s₁.setTop (mkF m 27 #[.val (.int p1), .val (.int p2), .val (.long (p1.toInt64)), .second, .val (.long ((p2.toInt64) * (p1.toInt64))), .second, .val (.long (5 : Int64)), .second, .val (.long ((5 : Int64) * (16 : Int64))), .second, .unset, .unset, .unset, .unset] [(.long ((p2.toInt64) * (p1.toInt64))), (.long (3 : Int64))]))
  refine own_pre (fun _ k => XS.lmul X0.here hx rfl (hb hby at_27) rfl k) ?_
  show OwnGoes p e below _ (s₁.setTop (mkF m 28 #[.val (.int p1), .val (.int p2), .val (.long (p1.toInt64)), .second, .val (.long ((p2.toInt64) * (p1.toInt64))), .second, .val (.long (5 : Int64)), .second, .val (.long ((5 : Int64) * (16 : Int64))), .second, .unset, .unset, .unset, .unset] [(.long ((3 : Int64) * ((p2.toInt64) * (p1.toInt64))))]))
  refine own_pre (fun _ k => X0.ldc2Long hx hown (mvT hZ (hw _ (List.mem_of_getElem? (i := 3) rfl))) (g := (mkF m 28 #[.val (.int p1), .val (.int p2), .val (.long (p1.toInt64)), .second, .val (.long ((p2.toInt64) * (p1.toInt64))), .second, .val (.long (5 : Int64)), .second, .val (.long ((5 : Int64) * (16 : Int64))), .second, .unset, .unset, .unset, .unset] [(.long ((3 : Int64) * ((p2.toInt64) * (p1.toInt64))))])) rfl (hb hby at_28) _ k) ?_
  show OwnGoes p e below _ (s₁.setTop (mkF m 31 #[.val (.int p1), .val (.int p2), .val (.long (p1.toInt64)), .second, .val (.long ((p2.toInt64) * (p1.toInt64))), .second, .val (.long (5 : Int64)), .second, .val (.long ((5 : Int64) * (16 : Int64))), .second, .unset, .unset, .unset, .unset] [(.long (2 : Int64)), (.long ((3 : Int64) * ((p2.toInt64) * (p1.toInt64))))]))
  refine own_pre (fun _ k => XS.lloadN X0.here hx rfl (hb hby at_31) rfl k) ?_
  show OwnGoes p e below _ (s₁.setTop (mkF m 32 #[.val (.int p1), .val (.int p2), .val (.long (p1.toInt64)), .second, .val (.long ((p2.toInt64) * (p1.toInt64))), .second, .val (.long (5 : Int64)), .second, .val (.long ((5 : Int64) * (16 : Int64))), .second, .unset, .unset, .unset, .unset] [(.long (p1.toInt64)), (.long (2 : Int64)), (.long ((3 : Int64) * ((p2.toInt64) * (p1.toInt64))))]))
  refine own_pre (fun _ k => XS.lmul X0.here hx rfl (hb hby at_32) rfl k) ?_
  show OwnGoes p e below _ (s₁.setTop (mkF m 33 #[.val (.int p1), .val (.int p2), .val (.long (p1.toInt64)), .second, .val (.long ((p2.toInt64) * (p1.toInt64))), .second, .val (.long (5 : Int64)), .second, .val (.long ((5 : Int64) * (16 : Int64))), .second, .unset, .unset, .unset, .unset] [(.long ((2 : Int64) * (p1.toInt64))), (.long ((3 : Int64) * ((p2.toInt64) * (p1.toInt64))))]))
  refine own_pre (fun _ k => XS.ladd X0.here hx rfl (hb hby at_33) rfl k) ?_
  show OwnGoes p e below _ (s₁.setTop (mkF m 34 #[.val (.int p1), .val (.int p2), .val (.long (p1.toInt64)), .second, .val (.long ((p2.toInt64) * (p1.toInt64))), .second, .val (.long (5 : Int64)), .second, .val (.long ((5 : Int64) * (16 : Int64))), .second, .unset, .unset, .unset, .unset] [(.long (((3 : Int64) * ((p2.toInt64) * (p1.toInt64))) + ((2 : Int64) * (p1.toInt64))))]))
  refine own_pre (fun _ k => XS.lstore X0.here hx rfl (hb hby at_34) rfl (l' := #[.val (.int p1), .val (.int p2), .val (.long (p1.toInt64)), .second, .val (.long ((p2.toInt64) * (p1.toInt64))), .second, .val (.long (5 : Int64)), .second, .val (.long ((5 : Int64) * (16 : Int64))), .second, .val (.long (((3 : Int64) * ((p2.toInt64) * (p1.toInt64))) + ((2 : Int64) * (p1.toInt64)))), .second, .unset, .unset]) rfl k) ?_
  show OwnGoes p e below _ (s₁.setTop (mkF m 36 #[.val (.int p1), .val (.int p2), .val (.long (p1.toInt64)), .second, .val (.long ((p2.toInt64) * (p1.toInt64))), .second, .val (.long (5 : Int64)), .second, .val (.long ((5 : Int64) * (16 : Int64))), .second, .val (.long (((3 : Int64) * ((p2.toInt64) * (p1.toInt64))) + ((2 : Int64) * (p1.toInt64)))), .second, .unset, .unset] []))
  refine own_pre (fun _ k => XS.lload X0.here hx rfl (hb hby at_36) rfl k) ?_
  show OwnGoes p e below _ (s₁.setTop (mkF m 38 #[.val (.int p1), .val (.int p2), .val (.long (p1.toInt64)), .second, .val (.long ((p2.toInt64) * (p1.toInt64))), .second, .val (.long (5 : Int64)), .second, .val (.long ((5 : Int64) * (16 : Int64))), .second, .val (.long (((3 : Int64) * ((p2.toInt64) * (p1.toInt64))) + ((2 : Int64) * (p1.toInt64)))), .second, .unset, .unset] [(.long ((5 : Int64) * (16 : Int64)))]))
  refine own_pre (fun _ k => X0.ldc2Long hx hown (mvT hZ (hw _ (List.mem_of_getElem? (i := 4) rfl))) (g := (mkF m 38 #[.val (.int p1), .val (.int p2), .val (.long (p1.toInt64)), .second, .val (.long ((p2.toInt64) * (p1.toInt64))), .second, .val (.long (5 : Int64)), .second, .val (.long ((5 : Int64) * (16 : Int64))), .second, .val (.long (((3 : Int64) * ((p2.toInt64) * (p1.toInt64))) + ((2 : Int64) * (p1.toInt64)))), .second, .unset, .unset] [(.long ((5 : Int64) * (16 : Int64)))])) rfl (hb hby at_38) _ k) ?_
  show OwnGoes p e below _ (s₁.setTop (mkF m 41 #[.val (.int p1), .val (.int p2), .val (.long (p1.toInt64)), .second, .val (.long ((p2.toInt64) * (p1.toInt64))), .second, .val (.long (5 : Int64)), .second, .val (.long ((5 : Int64) * (16 : Int64))), .second, .val (.long (((3 : Int64) * ((p2.toInt64) * (p1.toInt64))) + ((2 : Int64) * (p1.toInt64)))), .second, .unset, .unset] [(.long (8 : Int64)), (.long ((5 : Int64) * (16 : Int64)))]))
  refine own_pre (fun _ k => XS.lload X0.here hx rfl (hb hby at_41) rfl k) ?_
  show OwnGoes p e below _ (s₁.setTop (mkF m 43 #[.val (.int p1), .val (.int p2), .val (.long (p1.toInt64)), .second, .val (.long ((p2.toInt64) * (p1.toInt64))), .second, .val (.long (5 : Int64)), .second, .val (.long ((5 : Int64) * (16 : Int64))), .second, .val (.long (((3 : Int64) * ((p2.toInt64) * (p1.toInt64))) + ((2 : Int64) * (p1.toInt64)))), .second, .unset, .unset] [(.long (((3 : Int64) * ((p2.toInt64) * (p1.toInt64))) + ((2 : Int64) * (p1.toInt64)))), (.long (8 : Int64)), (.long ((5 : Int64) * (16 : Int64)))]))
  refine own_pre (fun _ k => XS.lmul X0.here hx rfl (hb hby at_43) rfl k) ?_
  show OwnGoes p e below _ (s₁.setTop (mkF m 44 #[.val (.int p1), .val (.int p2), .val (.long (p1.toInt64)), .second, .val (.long ((p2.toInt64) * (p1.toInt64))), .second, .val (.long (5 : Int64)), .second, .val (.long ((5 : Int64) * (16 : Int64))), .second, .val (.long (((3 : Int64) * ((p2.toInt64) * (p1.toInt64))) + ((2 : Int64) * (p1.toInt64)))), .second, .unset, .unset] [(.long ((8 : Int64) * (((3 : Int64) * ((p2.toInt64) * (p1.toInt64))) + ((2 : Int64) * (p1.toInt64))))), (.long ((5 : Int64) * (16 : Int64)))]))
  refine own_pre (fun _ k => XS.ladd X0.here hx rfl (hb hby at_44) rfl k) ?_
  show OwnGoes p e below _ (s₁.setTop (mkF m 45 #[.val (.int p1), .val (.int p2), .val (.long (p1.toInt64)), .second, .val (.long ((p2.toInt64) * (p1.toInt64))), .second, .val (.long (5 : Int64)), .second, .val (.long ((5 : Int64) * (16 : Int64))), .second, .val (.long (((3 : Int64) * ((p2.toInt64) * (p1.toInt64))) + ((2 : Int64) * (p1.toInt64)))), .second, .unset, .unset] [(.long (own_ex p1 p2))]))
  refine own_pre (fun _ k => XS.lstore X0.here hx rfl (hb hby at_45) rfl (l' := #[.val (.int p1), .val (.int p2), .val (.long (p1.toInt64)), .second, .val (.long ((p2.toInt64) * (p1.toInt64))), .second, .val (.long (5 : Int64)), .second, .val (.long ((5 : Int64) * (16 : Int64))), .second, .val (.long (((3 : Int64) * ((p2.toInt64) * (p1.toInt64))) + ((2 : Int64) * (p1.toInt64)))), .second, .val (.long (own_ex p1 p2)), .second]) rfl k) ?_
  show OwnGoes p e below _ (s₁.setTop (mkF m 47 #[.val (.int p1), .val (.int p2), .val (.long (p1.toInt64)), .second, .val (.long ((p2.toInt64) * (p1.toInt64))), .second, .val (.long (5 : Int64)), .second, .val (.long ((5 : Int64) * (16 : Int64))), .second, .val (.long (((3 : Int64) * ((p2.toInt64) * (p1.toInt64))) + ((2 : Int64) * (p1.toInt64)))), .second, .val (.long (own_ex p1 p2)), .second] []))
  refine own_pre (fun _ k => XS.iloadN X0.here hx rfl (hb hby at_47) rfl k) ?_
  show OwnGoes p e below _ (s₁.setTop (mkF m 48 #[.val (.int p1), .val (.int p2), .val (.long (p1.toInt64)), .second, .val (.long ((p2.toInt64) * (p1.toInt64))), .second, .val (.long (5 : Int64)), .second, .val (.long ((5 : Int64) * (16 : Int64))), .second, .val (.long (((3 : Int64) * ((p2.toInt64) * (p1.toInt64))) + ((2 : Int64) * (p1.toInt64)))), .second, .val (.long (own_ex p1 p2)), .second] [(.int p1)]))
  refine own_pre (fun _ k => XS.iloadN X0.here hx rfl (hb hby at_48) rfl k) ?_
  show OwnGoes p e below _ (s₁.setTop (mkF m 49 #[.val (.int p1), .val (.int p2), .val (.long (p1.toInt64)), .second, .val (.long ((p2.toInt64) * (p1.toInt64))), .second, .val (.long (5 : Int64)), .second, .val (.long ((5 : Int64) * (16 : Int64))), .second, .val (.long (((3 : Int64) * ((p2.toInt64) * (p1.toInt64))) + ((2 : Int64) * (p1.toInt64)))), .second, .val (.long (own_ex p1 p2)), .second] [(.int p2), (.int p1)]))
  obtain ⟨_, _, ⟨T1, L1, k1, n1⟩, -, X1, ⟨Lc1, hQ1, l1, y1, z1⟩, st1⟩ := Jvm.LawKit.callS X0 hx (y := (⟨"com/example/dual_bounds/dualbounds/numerics/RewardLevelChain", "bytesNeeded", "(II)J"⟩ : MethodName)) hown (mvT hZ (hw _ (List.mem_of_getElem? (i := 5) rfl))) (mvT hZ (hw _ (List.mem_of_getElem? (i := 6) rfl))) (mvT hZ (hw _ (List.mem_of_getElem? (i := 7) rfl))) (mvT hZ (hw _ (List.mem_of_getElem? (i := 8) rfl))) (by decide) (backOf (W := 0) (rm1 l Z a0 hw [] p1 p2 h0 n0 Z0) hZ (hw _ (List.mem_of_getElem? (i := 8) rfl)) (hw _ (List.mem_of_getElem? (i := 7) rfl)) (by decide) (by decide)) (g := (mkF m 49 #[.val (.int p1), .val (.int p2), .val (.long (p1.toInt64)), .second, .val (.long ((p2.toInt64) * (p1.toInt64))), .second, .val (.long (5 : Int64)), .second, .val (.long ((5 : Int64) * (16 : Int64))), .second, .val (.long (((3 : Int64) * ((p2.toInt64) * (p1.toInt64))) + ((2 : Int64) * (p1.toInt64)))), .second, .val (.long (own_ex p1 p2)), .second] [(.int p2), (.int p1)])) rfl (by rw [hml]; rfl) (argsL := [(.int p1), (.int p2)]) (rest := []) (lenOf (d := "(II)J") (ps := [.int, .int]) (r := some .long) (by decide +kernel) rfl) rfl (by show 2 * 0 + _ ≤ _; exact Nat.le_of_eq rfl) (hb hby at_49) (fun _ _ => ⟨rfl, e0, (by decide : 0 + 0 ≤ _), (by decide : 0 + 0 ≤ _)⟩)
  dsimp only [Pt.U, Pt.locs, Pt.cells, Pt.slots] at X1 l1 y1 z1 st1 hQ1
  subst l1 y1 z1
  obtain ⟨rfl, N1q, e1⟩ := hQ1
  have N1 := Fr.app N0 N1q
  refine own_pre st1 ?_
  show OwnGoes p e below _ (T1.setTop (mkF m 52 #[.val (.int p1), .val (.int p2), .val (.long (p1.toInt64)), .second, .val (.long ((p2.toInt64) * (p1.toInt64))), .second, .val (.long (5 : Int64)), .second, .val (.long ((5 : Int64) * (16 : Int64))), .second, .val (.long (((3 : Int64) * ((p2.toInt64) * (p1.toInt64))) + ((2 : Int64) * (p1.toInt64)))), .second, .val (.long (own_ex p1 p2)), .second] [(.long (own_bn p1 p2))]))
  refine own_pre (fun _ k => XS.lload X1.here hx rfl (hb hby at_52) rfl k) ?_
  show OwnGoes p e below _ (T1.setTop (mkF m 54 #[.val (.int p1), .val (.int p2), .val (.long (p1.toInt64)), .second, .val (.long ((p2.toInt64) * (p1.toInt64))), .second, .val (.long (5 : Int64)), .second, .val (.long ((5 : Int64) * (16 : Int64))), .second, .val (.long (((3 : Int64) * ((p2.toInt64) * (p1.toInt64))) + ((2 : Int64) * (p1.toInt64)))), .second, .val (.long (own_ex p1 p2)), .second] [(.long (own_ex p1 p2)), (.long (own_bn p1 p2))]))
  refine own_pre (fun _ k => XS.lcmp X1.here hx rfl (hb hby at_54) rfl k) ?_
  show OwnGoes p e below _ (T1.setTop (mkF m 55 #[.val (.int p1), .val (.int p2), .val (.long (p1.toInt64)), .second, .val (.long ((p2.toInt64) * (p1.toInt64))), .second, .val (.long (5 : Int64)), .second, .val (.long ((5 : Int64) * (16 : Int64))), .second, .val (.long (((3 : Int64) * ((p2.toInt64) * (p1.toInt64))) + ((2 : Int64) * (p1.toInt64)))), .second, .val (.long (own_ex p1 p2)), .second] [(.int (lcmpW (own_bn p1 p2) (own_ex p1 p2)))]))
  refine own_pre (fun _ k => XS.ifNo X1.here hx rfl (hb hby at_55) rfl ((if0 _ _).trans (teq ((lw_eq (own_bn p1 p2) (own_ex p1 p2)).mpr (own_law p1 p2 : (own_bn p1 p2) = (own_ex p1 p2)))).2) k) ?_
  show OwnGoes p e below _ (T1.setTop (mkF m 58 #[.val (.int p1), .val (.int p2), .val (.long (p1.toInt64)), .second, .val (.long ((p2.toInt64) * (p1.toInt64))), .second, .val (.long (5 : Int64)), .second, .val (.long ((5 : Int64) * (16 : Int64))), .second, .val (.long (((3 : Int64) * ((p2.toInt64) * (p1.toInt64))) + ((2 : Int64) * (p1.toInt64)))), .second, .val (.long (own_ex p1 p2)), .second] []))
  refine own_pre (fun _ k => XS.iconst X1.here hx rfl (hb hby at_58) k) ?_
  show OwnGoes p e below _ (T1.setTop (mkF m 59 #[.val (.int p1), .val (.int p2), .val (.long (p1.toInt64)), .second, .val (.long ((p2.toInt64) * (p1.toInt64))), .second, .val (.long (5 : Int64)), .second, .val (.long ((5 : Int64) * (16 : Int64))), .second, .val (.long (((3 : Int64) * ((p2.toInt64) * (p1.toInt64))) + ((2 : Int64) * (p1.toInt64)))), .second, .val (.long (own_ex p1 p2)), .second] [(.int (1 : Int32))]))
  refine own_pre (fun _ k => XS.goto X1.here hx rfl (pc0 := 59) (pc' := 63) rfl (hb hby at_59) (by decide) (by decide) k) ?_
  show OwnGoes p e below _ (T1.setTop (mkF m 63 #[.val (.int p1), .val (.int p2), .val (.long (p1.toInt64)), .second, .val (.long ((p2.toInt64) * (p1.toInt64))), .second, .val (.long (5 : Int64)), .second, .val (.long ((5 : Int64) * (16 : Int64))), .second, .val (.long (((3 : Int64) * ((p2.toInt64) * (p1.toInt64))) + ((2 : Int64) * (p1.toInt64)))), .second, .val (.long (own_ex p1 p2)), .second] [(.int (1 : Int32))]))
  exact own_ret X1 hx Bd.returns (rfl) (Or.inl ⟨rfl, by simp, _, rfl⟩) Bd.notSynchronized (hb hby at_63) ⟨rfl, N1⟩ (by decide) (by decide)
set_option maxRecDepth 65536 in
set_option maxHeartbeats 40000000 in
theorem comes_1 {Post : Tables → Env → Array Value → State → Outcome → State → Prop} (hpost : ∀ tb e args s v u, (limb_1_1.after args s (.returned v) u = true ∧ limb_1_2.after args s (.returned v) u = true ∧ True) → FrameEnd s (.returned v) u (Jvm.fieldLocs frame_1_writes args s ++ Jvm.arrayLocs frame_1_arrays args s ++ Jvm.staticLocs frame_1_statics s) 0 0 → Post tb e args s (.returned v) u) :
    ArmFor flags0 classFile x code maxLocals ret World_1 tables_1 room_1 Calls_1 rest_1 Pre_1 Post := by
  intro l hfl _ _ p e ha hc hk s m args below hf hA hF happ hP
  obtain ⟨hcalls, hrest, hpre⟩ := hP
  obtain ⟨-, -, -, hnamed, -, -, -, hat⟩ := (Spec.applies_iff hf).mp happ
  obtain ⟨hg, hn⟩ := and_e (Cond.before_iff.mp (show (Jvm.Cond.and given_1 narrow_1).before args s = true from hpre))
  obtain ⟨hcount, hgs⟩ := and_e hg
  obtain ⟨ha0, hgs0⟩ := and_e hgs
  have ha1 := hgs0
  obtain ⟨w0, w1, rfl⟩ : ∃ w0 w1 : Value, args = #[w0, w1] := by
    have hs : args.size = 2 := by simpa [Cond.value, given_1] using hcount
    obtain ⟨L⟩ := args
    match L, hs with
    | [w0, w1], _ => exact ⟨w0, w1, rfl⟩
  have hw := fun d (hd : d ∈ tables_1) => atoms_spec (ws := Jvm.Cond.code x code maxLocals ret :: tables_1) hat d (List.mem_cons_of_mem _ hd)
  have hfit : Fit s := fun {y c} hc i hi => by
    obtain ⟨ha, rfl⟩ := Array.getElem?_eq_some_iff.mp hc
    have q := List.all_eq_true.mp ((Array.all_eq_true_iff_forall_mem.mp hF) _ (Array.getElem_mem ha)) i (List.mem_range.mpr hi)
    simpa [Array.getElem?_eq_getElem hi] using q
  obtain ⟨i0, ei0⟩ := is_v ha0
  obtain rfl : w0 = (.int i0) := Option.some.inj ei0
  obtain ⟨i1, ei1⟩ := is_v ha1
  obtain rfl : w1 = (.int i1) := Option.some.inj ei1
  obtain ⟨n, o, h1, h2, h3, _, L, rfl, ⟨rfl, N⟩, hq⟩ := rm0 l s _ hw tables_1 i0 i1 s.heap s.heap.size (Nat.le_refl _) p e ha hc hk s m _ below hf ((Spec.applies_iff_loose hf).mp happ).1 ⟨rfl, State.Warmed39.refl s, rfl⟩ trivial
  refine ⟨n, _, h1, h2, h3, hpost _ _ _ _ _ _ ⟨Cond.after_iff.mpr rfl, Cond.after_iff.mpr (eq_i res_at (Term.int_eval (1)) rfl), trivial⟩ ⟨hq.1, hq.2.1, (hq.2.2.sift fun y hy => Or.inr (N y hy)).mono (by decide) (by decide)⟩⟩
theorem main_1_1 : Claimed_1_1 := comes_1 fun _ _ _ _ _ _ h hF => ⟨h.1, hF⟩
theorem main_1_2 : Claimed_1_2 := comes_1 fun _ _ _ _ _ _ h hF => ⟨h.2.1, hF⟩
end Jvm.Pilot.@@N@@
namespace Jvm.Pilot.@@N@@
open Jvm Jvm.ClassFile Sem Op Lib Jvm.Free Jvm.Stand Jvm.Pilot.@@N@@.Jvm.D
/-! MADE BY PROGRAM (witnessworld.py) out of the Statement's table words and the real class files: 10 classes; the members and pool entries that the words name. The judged class is class 1, her method 1. -/
namespace start1
open Jvm.ClassFile
def u (s : String) : CpInfo := .utf8 (stringToUtf16 s)
/-- a pool by its gaps: so many unusable entries, then the entry; so many at the end -/
def gap : Nat → List CpInfo → List CpInfo
  | 0, r => r
  | n + 1, r => .unusable :: gap n r
def poolList (es : List (Nat × CpInfo)) (last : Nat) : List CpInfo := es.foldr (fun e r => gap e.1 (e.2 :: r)) (gap last [])
def pool (es : List (Nat × CpInfo)) (last : Nat) : Array CpInfo := ⟨poolList es last⟩
def fileOf (pool : Array CpInfo) (this : Nat) (attrs : Array Attribute := #[]) (ms : Array MethodInfo := #[]) (fl : Nat := 33) (sup : Nat := 0) (ifs : Array Nat := #[]) (fds : Array FieldInfo := #[]) : ClassFile where
  minorVersion := 0
  majorVersion := 65
  constantPool := pool
  accessFlags := fl
  thisClass := this
  superClass := sup
  interfaces := ifs
  fields := fds
  methods := ms
  attributes := attrs
def plain (name : String) (sup : Option ClassId) : Class where
  name := name
  kind := .ordinary
  loader := none
  accessFlags := 33
  super := sup
  interfaces := #[]
  cf := none
  fields := #[]
  methods := #[]
  instanceTypes := #[]
  staticTypes := #[]
  resolved := #[]
  callSites := []
  init := .initialized
  statics := none
  mirror := none

def pool0 : Array CpInfo := pool [(5, u "<init>"), (0, u "()V"), (1, .class_ 10), (1, u "java/lang/Object")] 113

def k0m0 : Method := { name := "<init>", desc := "()V", sig := { parameters := [], returnType := none }, accessFlags := 1, code := none }
/-- java/lang/Object -/
def k0 : Class := { plain "java/lang/Object" none with
  accessFlags := 33
  interfaces := #[]
  cf := some (fileOf pool0 8 #[] #[{ accessFlags := 1, nameIndex := 5, descriptorIndex := 6, attributes := #[] }] 33 0 #[] #[])
  fields := #[]
  methods := #[k0m0]
  instanceTypes := #[]
  staticTypes := #[]
  resolved := Array.replicate 124 none
  statics := none }

def pool1 : Array CpInfo := pool [(2, .class_ 4), (1, u "java/lang/Object"), (0, u "<init>"), (0, u "()V"), (0, .long 5), (1, .long 16), (1, .long 3), (1, .long 2), (1, .long 8), (1, .methodref 18 19), (0, .class_ 20), (0, .nameAndType 21 22), (0, u "com/example/dual_bounds/dualbounds/numerics/RewardLevelChain"), (0, u "bytesNeeded"), (0, u "(II)J"), (0, .class_ 24), (0, u "com/example/dual_bounds/dualbounds/numerics/RewardLevelChainBytesNeededPinLaw"), (2, u "law"), (0, u "(II)Z")] 3

def k1m0 : Method := { name := "<init>", desc := "()V", sig := { parameters := [], returnType := none }, accessFlags := 1, code := none }
def k1c1 : Code := { maxStack := 6, maxLocals := 14, code := code, exceptionTable := #[], attributes := #[] }
def k1m1 : Method := { name := "law", desc := "(II)Z", sig := { parameters := [.int, .int], returnType := some .boolean }, accessFlags := 9, code := some k1c1 }
/-- com/example/dual_bounds/dualbounds/numerics/RewardLevelChainBytesNeededPinLaw -/
def k1 : Class := { plain "com/example/dual_bounds/dualbounds/numerics/RewardLevelChainBytesNeededPinLaw" (some 0) with
  accessFlags := 49
  interfaces := #[]
  cf := some (fileOf pool1 23 #[] #[{ accessFlags := 1, nameIndex := 5, descriptorIndex := 6, attributes := #[] }, { accessFlags := 9, nameIndex := 27, descriptorIndex := 28, attributes := #[] }] 49 2 #[] #[])
  fields := #[]
  methods := #[k1m0, k1m1]
  instanceTypes := #[]
  staticTypes := #[]
  resolved := Array.replicate 32 none
  statics := none }

def pool2 : Array CpInfo := pool [(2, .class_ 4), (1, u "com/example/dual_bounds/dualbounds/numerics/Uniformised"), (41, .class_ 47), (0, u "java/lang/Object")] 38

/-- com/example/dual_bounds/dualbounds/numerics/Uniformised -/
def k2 : Class := { plain "com/example/dual_bounds/dualbounds/numerics/Uniformised" (some 0) with
  accessFlags := 1537
  interfaces := #[]
  cf := some (fileOf pool2 2 #[] #[] 1537 46 #[] #[])
  fields := #[]
  methods := #[]
  instanceTypes := #[]
  staticTypes := #[]
  resolved := Array.replicate 86 none
  statics := none }

def pool3 : Array CpInfo := pool [(4, .class_ 6), (1, u "java/lang/Object"), (9, .class_ 18), (1, u "com/example/dual_bounds/dualbounds/numerics/RewardLevelChain"), (0, u "states"), (0, u "I"), (20, u "levels"), (7, u "level"), (0, u "Lcom/example/dual_bounds/dualbounds/numerics/UniformisedChain;"), (0, .long 16), (1, .long 3), (1, .long 8), (1, .long 2), (41, .class_ 100), (0, u "com/example/dual_bounds/dualbounds/numerics/Uniformised"), (0, u "MAX_PAIRS"), (0, u "J"), (7, u "bytesNeeded"), (0, u "(II)J")] 39

def k3c0 : Code := { maxStack := 10, maxLocals := 6, code := prog_67_method_2_code, exceptionTable := #[], attributes := #[] }
def k3m0 : Method := { name := "bytesNeeded", desc := "(II)J", sig := { parameters := [.int, .int], returnType := some .long }, accessFlags := 9, code := some k3c0 }
/-- com/example/dual_bounds/dualbounds/numerics/RewardLevelChain -/
def k3 : Class := { plain "com/example/dual_bounds/dualbounds/numerics/RewardLevelChain" (some 0) with
  accessFlags := 49
  interfaces := #[2]
  cf := some (fileOf pool3 16 #[] #[{ accessFlags := 9, nameIndex := 110, descriptorIndex := 111, attributes := #[] }] 49 4 #[99] #[{ accessFlags := 25, nameIndex := 101, descriptorIndex := 102, attributes := #[] }, { accessFlags := 18, nameIndex := 49, descriptorIndex := 50, attributes := #[] }, { accessFlags := 18, nameIndex := 19, descriptorIndex := 20, attributes := #[] }, { accessFlags := 18, nameIndex := 41, descriptorIndex := 20, attributes := #[] }])
  fields := #[{ name := "MAX_PAIRS", type := .long, accessFlags := 25, slot := 0, constantValue := 0 }, { name := "level", type := (.object "com/example/dual_bounds/dualbounds/numerics/UniformisedChain"), accessFlags := 18, slot := 0, constantValue := 0 }, { name := "states", type := .int, accessFlags := 18, slot := 1, constantValue := 0 }, { name := "levels", type := .int, accessFlags := 18, slot := 2, constantValue := 0 }]
  methods := #[k3m0]
  instanceTypes := #[(.object "com/example/dual_bounds/dualbounds/numerics/UniformisedChain"), .int, .int]
  staticTypes := #[.long]
  resolved := Array.replicate 151 none
  statics := none }

def pool4 : Array CpInfo := pool [(1, u "java/lang/Cloneable"), (0, .class_ 1), (0, u "java/lang/Object"), (0, .class_ 3)] 3

/-- java/lang/Cloneable -/
def k4 : Class := { plain "java/lang/Cloneable" (some 0) with
  accessFlags := 1537
  interfaces := #[]
  cf := some (fileOf pool4 2 #[] #[] 1537 4 #[] #[])
  fields := #[]
  methods := #[]
  instanceTypes := #[]
  staticTypes := #[]
  resolved := Array.replicate 8 none
  statics := none }

def pool5 : Array CpInfo := pool [(1, u "java/io/Serializable"), (0, .class_ 1), (0, u "java/lang/Object"), (0, .class_ 3)] 3

/-- java/io/Serializable -/
def k5 : Class := { plain "java/io/Serializable" (some 0) with
  accessFlags := 1537
  interfaces := #[]
  cf := some (fileOf pool5 2 #[] #[] 1537 4 #[] #[])
  fields := #[]
  methods := #[]
  instanceTypes := #[]
  staticTypes := #[]
  resolved := Array.replicate 8 none
  statics := none }

/-- the primitive byte -/
def k6 : Class := { plain "byte" none with kind := .primitive 'B', accessFlags := 0x411 }
/-- [B -/
def k7 : Class := { plain "[B" (some 0) with kind := .array 6 .byte, interfaces := #[4, 5], accessFlags := 1041 }

/-- the primitive int -/
def k8 : Class := { plain "int" none with kind := .primitive 'I', accessFlags := 0x411 }
/-- [I -/
def k9 : Class := { plain "[I" (some 0) with kind := .array 8 .int, interfaces := #[4, 5], accessFlags := 1041 }

def heap : Heap := #[]
def classes : Array Class := #[k0, k1, k2, k3, k4, k5, k6, k7, k8, k9]
def interned : List (Array UInt16 × Addr) := []
def slotsUsed : Nat := 0
def theMethod : MethodId := ⟨1, 1⟩
def args0 : Array Value := #[.int 5, .int 7]
def aboutOver (below : List Frame) : State where
  vm := { classes := classes, interned := interned.toArray }
  heap := heap
  slotsUsed := slotsUsed
  threads := #[{ frames := .invoking theMethod args0 :: below }]
def below0 : List Frame := [.native { method := ⟨0, 0⟩, args := #[] }]
def about1 : State := aboutOver below0
def p0 : Program := .bare "" "" ""
def e0 : Env := launch0.env 0 0 0
theorem w_frames : about1.frames = Frame.invoking theMethod args0 :: below0 := rfl
set_option maxRecDepth 65536 in
theorem w_args : argsFit about1.vm theMethod args0 = true := by decide +kernel
set_option maxRecDepth 65536 in
theorem w_heap : heapFits about1 = true := by decide +kernel
set_option maxRecDepth 65536 in
theorem w_runnable : about1.curStatus? = some .runnable := by decide +kernel
set_option maxRecDepth 65536 in
theorem w_alone : about1.alone = true := by decide +kernel
set_option maxRecDepth 65536 in
theorem w_named : about1.methodNamed? x = some theMethod := by decide +kernel
set_option maxRecDepth 65536 in
theorem w_hears : about1.hears theMethod below0 = true := by decide +kernel
set_option maxRecDepth 65536 in
theorem w_ripe : about1.ripe theMethod args0 below0 = true := by decide +kernel
theorem w_running : about1.status = .running := rfl
set_option maxRecDepth 65536 in
theorem w_room : about1.hasRoom e0.platform room_1 = true :=
  launch0.hasRoom_least _ room_1 (by decide +kernel) (by decide +kernel) (by decide +kernel) (by decide +kernel) (by decide +kernel) (by decide +kernel)
theorem allAtoms_all (ts : List Jvm.Cond) (a : Array Jvm.Value) (st : Jvm.State) : (allAtoms ts).before a st = ts.all (fun c => c.before a st) := by
  induction ts with
  | nil => rfl
  | cons c t ih =>
    show (Jvm.Cond.and c (allAtoms t)).before a st = _
    rw [Jvm.Cond.before_and, ih, List.all_cons]
def words1 : List Jvm.Cond := Jvm.Cond.code x code maxLocals ret :: tables_1
/-- a 'code' word, met by the world's own term for the bytes: nothing is compared byte by byte -/
theorem code_word {y : MethodName} {bytes : ByteArray} {mx : Nat} {rt : Option FieldType} {a : Array Value} {s : State} {m : MethodId} {meth : Method} {c : Code} (h1 : s.methodNamed? y = some m) (h2 : s.vm.method? m = some meth) (h3 : meth.code = some c) (h4 : c.code = bytes)
    (h5 : (c.maxLocals == mx && c.exceptionTable.isEmpty && decide (c.maxStack ≤ mostOperands) && decide (meth.sig.returnType = rt) && !meth.locks && decide (parseMethodDescriptor y.desc = some meth.sig)) = true) : (Jvm.Cond.code y bytes mx rt).before a s = true := by
  simp only [Bool.and_eq_true, beq_iff_eq, Bool.not_eq_true', decide_eq_true_eq] at h5
  obtain ⟨⟨⟨⟨⟨g1, g2⟩, g3⟩, g4⟩, g5⟩, g6⟩ := h5
  simp [Cond.before, Cond.holds, Cond.value, h1, h2, h3, h4, g1, g2, g3, g4, g5, g6]
def isCode : Jvm.Cond → Bool
  | .code _ _ _ _ => true
  | _ => false
theorem all_split {L : List Jvm.Cond} {P : Jvm.Cond → Bool} (h1 : L.all (fun c => isCode c || P c) = true) (h2 : ∀ c ∈ L.filter isCode, P c = true) : L.all P = true := by
  refine List.all_eq_true.mpr fun c hc => ?_
  have h := List.all_eq_true.mp h1 c hc
  rcases Bool.eq_false_or_eq_true (isCode c) with hi | hi
  · exact h2 c (List.mem_filter.mpr ⟨hc, hi⟩)
  · simpa [hi] using h
set_option maxRecDepth 65536 in
theorem w_c0 : (Jvm.Cond.code x code maxLocals ret).before args0 about1 = true := code_word (m := ⟨1, 1⟩) (meth := k1m1) (c := k1c1) (by decide +kernel) rfl rfl rfl (by decide +kernel)
set_option maxRecDepth 65536 in
theorem w_c1 : (Jvm.Cond.code ({ cls := "com/example/dual_bounds/dualbounds/numerics/RewardLevelChain", name := "bytesNeeded", desc := "(II)J" } : Jvm.MethodName) prog_67_method_2_code (6 : Nat) (Option.some Jvm.ClassFile.FieldType.long)).before args0 about1 = true := code_word (m := ⟨3, 0⟩) (meth := k3m0) (c := k3c0) (by decide +kernel) rfl rfl rfl (by decide +kernel)
def codes1 : List Jvm.Cond := [Jvm.Cond.code x code maxLocals ret, Jvm.Cond.code ({ cls := "com/example/dual_bounds/dualbounds/numerics/RewardLevelChain", name := "bytesNeeded", desc := "(II)J" } : Jvm.MethodName) prog_67_method_2_code (6 : Nat) (Option.some Jvm.ClassFile.FieldType.long)]
set_option maxRecDepth 65536 in
theorem codes_eq : words1.filter isCode = codes1 := rfl
theorem w_codes : ∀ c ∈ words1.filter isCode, c.before args0 about1 = true := by
  rw [codes_eq]
  intro c hc
  simp only [codes1, List.mem_cons, List.not_mem_nil, or_false] at hc
  rcases hc with rfl | rfl
  · exact w_c0
  · exact w_c1
set_option maxRecDepth 65536 in
theorem w_t1 : words1.all (fun c => isCode c || c.before args0 about1) = true := by decide +kernel
theorem w_tables : (allAtoms (Jvm.Cond.code x code maxLocals ret :: tables_1)).before args0 about1 = true := by
  rw [allAtoms_all]
  show words1.all (fun c => c.before args0 about1) = true
  refine all_split ?_ w_codes
  rw [w_t1]
set_option maxRecDepth 65536 in
theorem w_case : (Jvm.Cond.and given_1 narrow_1).before args0 about1 = true := by decide +kernel
theorem w_applies : (headSpec (Jvm.Cond.code x code maxLocals ret :: tables_1) room_1).applies x e0.platform about1 = true :=
  (Spec.applies_iff w_frames).mpr ⟨w_running, w_runnable, w_alone, w_named, w_hears, w_ripe, w_room, w_tables⟩
theorem atStart : AtStart classFile x code maxLocals ret World_1 tables_1 room_1 Calls_1 rest_1 Pre_1 launch0 p0 e0 about1 theMethod args0 below0 :=
  ⟨lists_1, trivial, launch0.admits_env _ _ _, launch0.least_env, fairChoices_fair.cas, fairChoices_fair.clock, w_frames, w_args, w_heap, w_applies, trivial, trivial, w_case⟩
end start1
theorem witness_1 : WitnessClaimed_1 := ⟨start1.p0, start1.e0, start1.about1, start1.theMethod, start1.args0, start1.below0, start1.atStart⟩
end Jvm.Pilot.@@N@@

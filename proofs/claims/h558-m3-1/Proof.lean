import JvmDerived
import JvmDerived.Pilot.@@N@@Statement
import JvmDerived.Pilot.@@N@@Code
set_option linter.unusedVariables false
set_option linter.unusedSimpArgs false
namespace Jvm.Pilot.@@N@@
open Jvm Jvm.ClassFile Sem Op Lib Jvm.Free Jvm.Stand Jvm.LawKit Jvm.RoadKit Bundle Jvm.Pilot.@@N@@.Jvm.D
/-! the walk in continuation style: 'from U the run comes to an end of which P holds' -/
def OwnGoes (p : Program) (e : Env) (below : List Frame) (P : Outcome → State → Prop) (U : State) : Prop := ∃ s₂ o, Steps p.tables e below U s₂ ∧ s₂.status = .running ∧ Ended s₂ below o ∧ P o s₂
theorem own_pre {p : Program} {e : Env} {below : List Frame} {P : Outcome → State → Prop} {U U' : State} (h : ∀ t, Steps p.tables e below U' t → Steps p.tables e below U t) (k : OwnGoes p e below P U') : OwnGoes p e below P U := by
  obtain ⟨s₂, o, h1, h2⟩ := k
  exact ⟨s₂, o, h _ h1, h2⟩
theorem own_tr {p : Program} {e : Env} {below : List Frame} {P : Outcome → State → Prop} {U U' : State} (h : Steps p.tables e below U U') (k : OwnGoes p e below P U') : OwnGoes p e below P U := own_pre (fun _ q => h.trans q) k
theorem own_ret {p : Program} {l : Launch} {e : Env} {R : Room} {s : State} {m : MethodId} {args : Array Value} {below : List Frame} {meth : Method} {c : Code} {T : State} {locs : List Loc} {cells slots : Nat}
    (X : Stand p l e R s m args below meth c T locs cells slots) (hx : p.tables.exec = Jvm.exec) {pc : Nat} {Ls : Array Slot} {w : Value} {t : FieldType} {i : Instr} {rest : List Value} (hret : meth.sig.returnType = some t) (hn : narrow t w = w)
    (hi : (i = .ireturn ∧ (t = .int ∨ t = .boolean ∨ t = .byte ∨ t = .char ∨ t = .short) ∧ ∃ z, w = .int z) ∨ (i = .lreturn ∧ t = .long ∧ ∃ z, w = .long z) ∨ (i = .dreturn ∧ t = .double ∧ ∃ z, w = .double z) ∨ (i = .freturn ∧ t = .float ∧ ∃ z, w = .float z) ∨ (i = .areturn ∧ t.isReference = true ∧ w.isRef = true))
    (hlocks : meth.locks = false) (hd : decode c.code pc = .ok (i, 1)) {Qh : Option Value → Heap → List Loc → Prop} {rc rs : Nat} (hQ : Qh (some w) T.heap locs) (hc : cells ≤ rc) (hs : slots ≤ rs) :
    OwnGoes p e below (fun o U' => ∃ v L, o = .returned v ∧ Qh v U'.heap L ∧ FrameEnd s o U' L rc rs) (T.setTop (mkF m pc Ls (w :: rest))) := by
  obtain ⟨fs, hr, hrun, hended, hW, hsame⟩ := X.leave (v := some w) (fun h => by rw [hret] at h; cases h) hlocks
  exact ⟨_, _, retOut X hx hret hn hi hd hr, hrun, hended, _, _, rfl, hQ, ⟨_, rfl⟩, hW, hsame.mono hc hs⟩
theorem own_retV {p : Program} {l : Launch} {e : Env} {R : Room} {s : State} {m : MethodId} {args : Array Value} {below : List Frame} {meth : Method} {c : Code} {T : State} {locs : List Loc} {cells slots : Nat}
    (X : Stand p l e R s m args below meth c T locs cells slots) (hx : p.tables.exec = Jvm.exec) {pc : Nat} {Ls : Array Slot} (hret : meth.sig.returnType = none) (hlocks : meth.locks = false) (hd : decode c.code pc = .ok (.return_, 1)) {Qh : Option Value → Heap → List Loc → Prop} {rc rs : Nat} (hQ : Qh none T.heap locs) (hc : cells ≤ rc) (hs : slots ≤ rs) :
    OwnGoes p e below (fun o U' => ∃ v L, o = .returned v ∧ Qh v U'.heap L ∧ FrameEnd s o U' L rc rs) (T.setTop (mkF m pc Ls [])) := by
  obtain ⟨fs, hr, hrun, hended, hW, hsame⟩ := X.leave (v := none) (fun _ => rfl) hlocks
  exact ⟨_, _, X.returnOut hx hret hd hr, hrun, hended, _, _, rfl, hQ, ⟨_, rfl⟩, hW, hsame.mono hc hs⟩

theorem own_enum {args : Array Value} {s : State} {C f d : String} {k : Int32} (hx : (Jvm.Cond.exactly (Term.static C f d) C).value args s none s [] = some true)
    (ho : (Jvm.Cond.eq (Term.field (Term.static C f d) "java/lang/Enum" "ordinal" "I") (Term.int k)).value args s none s [] = some true)
    (hi : (Jvm.Cond.initialized C).before args s = true) (hl : (Jvm.Cond.laysStatic C f d).before args s = true) :
    ∃ a, Sta s s.heap C f d (.ref a) ∧ Exa s s.heap a C ∧ s.fieldOf? a "java/lang/Enum" "ordinal" "I" = some (.int k) := by
  obtain ⟨a, ev⟩ := exa_v hx
  refine ⟨a, Sta.start ev (Or.inr ⟨hi, hl⟩), Exa.start ev hx, ?_⟩
  have e := eqv_i (Term.int_eval k) ho
  rw [fld_at ev] at e
  exact e
theorem own_ne {s : State} {a b : Addr} {k k' : Int32} (h : s.fieldOf? a "java/lang/Enum" "ordinal" "I" = some (.int k)) (h' : s.fieldOf? b "java/lang/Enum" "ordinal" "I" = some (.int k')) (hk : ¬ k = k') : ¬ a = b := fun e => by
  subst e
  rw [h] at h'
  exact hk (by injection h' with q; injection q)


theorem own_mod (x : Int32) : (x &&& 2147483647) % (6 : Int32) = (0 : Int32) ∨ (x &&& 2147483647) % (6 : Int32) = (1 : Int32) ∨ (x &&& 2147483647) % (6 : Int32) = (2 : Int32) ∨ (x &&& 2147483647) % (6 : Int32) = (3 : Int32) ∨ (x &&& 2147483647) % (6 : Int32) = (4 : Int32) ∨ (x &&& 2147483647) % (6 : Int32) = (5 : Int32) := by
  have h1 := c_mask x 2147483647 31 (by decide) (by decide)
  have h2 := (c_irem (x &&& 2147483647) (6 : Int32) 6 (by decide)).1 (by rw [h1]; omega)
  have h3 : ((x &&& 2147483647) % (6 : Int32)).toInt = 0 ∨ ((x &&& 2147483647) % (6 : Int32)).toInt = 1 ∨ ((x &&& 2147483647) % (6 : Int32)).toInt = 2 ∨ ((x &&& 2147483647) % (6 : Int32)).toInt = 3 ∨ ((x &&& 2147483647) % (6 : Int32)).toInt = 4 ∨ ((x &&& 2147483647) % (6 : Int32)).toInt = 5 := by omega
  rcases h3 with h | h | h | h | h | h
  · exact Or.inl (Int32.toInt_inj.mp h)
  · exact Or.inr (Or.inl (Int32.toInt_inj.mp h))
  · exact Or.inr (Or.inr (Or.inl (Int32.toInt_inj.mp h)))
  · exact Or.inr (Or.inr (Or.inr (Or.inl (Int32.toInt_inj.mp h))))
  · exact Or.inr (Or.inr (Or.inr (Or.inr (Or.inl (Int32.toInt_inj.mp h)))))
  · exact Or.inr (Or.inr (Or.inr (Or.inr (Or.inr ((Int32.toInt_inj.mp h))))))

theorem d1_0 : decode prog_12_method_8_code 0 = .ok (.aload_n 0, 1) := by decide +kernel
theorem d1_1 : decode prog_12_method_8_code 1 = .ok (.getstatic 19, 3) := by decide +kernel
theorem d1_4 : decode prog_12_method_8_code 4 = .ok (.if_acmp .ne 7, 3) := by decide +kernel
theorem d1_7 : decode prog_12_method_8_code 7 = .ok (.iconst 1, 1) := by decide +kernel
theorem d1_8 : decode prog_12_method_8_code 8 = .ok (.goto 4, 3) := by decide +kernel
theorem d1_11 : decode prog_12_method_8_code 11 = .ok (.iconst 0, 1) := by decide +kernel
theorem d1_12 : decode prog_12_method_8_code 12 = .ok (.ireturn, 1) := by decide +kernel
def Q1 (r : Int32) (h0 : Heap) (n0 : Nat) (v : Option Value) (h : Heap) (L : List Loc) : Prop := v = some (.int r) ∧ Fr n0 L ∧ h = h0
def Q0  (h0 : Heap) (n0 : Nat) (v : Option Value) (h : Heap) (L : List Loc) : Prop := v = some (.int (1 : Int32)) ∧ Fr n0 L
set_option maxRecDepth 65536 in
set_option maxHeartbeats 40000000 in
theorem rm1 (l : Launch) (Z : State) (a0 : Array Value) (hw : ∀ d ∈ tables_1, d.before a0 Z = true) (ws : List Jvm.Cond) (b : Addr) (u5 : Addr) (r : Int32) (h0 : Heap) (n0 : Nat) (Z0 : n0 ≤ h0.size) (S5 : Sta Z h0 "com/example/haversack/haversack/BagItVersion" "V1_0" "Lcom/example/haversack/haversack/BagItVersion;" (.ref u5)) (hr : r = if b = u5 then (1 : Int32) else (0 : Int32)) :
    MetFree l (⟨"com/example/haversack/haversack/BagItVersion", "percentEncodesPaths", "()Z"⟩ : MethodName) (head1 (Jvm.Cond.code (⟨"com/example/haversack/haversack/BagItVersion", "percentEncodesPaths", "()Z"⟩ : MethodName) prog_12_method_8_code 1 (some .boolean) :: ws) ({ frames := 0, cells := 0, slots := 0, locals := 0 } : Room)) (fun a U => a = #[(.ref b)] ∧ Z.Warmed39 U.vm ∧ U.heap = h0) (fun _ _ _ _ _ => True) (fun _ U o U' => ∃ v L, o = .returned v ∧ Q1 r h0 n0 v U'.heap L ∧ FrameEnd U o U' L ({ frames := 0, cells := 0, slots := 0, locals := 0 } : Room).cells ({ frames := 0, cells := 0, slots := 0, locals := 0 } : Room).slots) := by
  refine MetFree.of_bodySF (plainFor_of_name (by first | (simp [plainName, overriddenIn]; done) | decide +kernel)) hisR ?_
  intro p e s m args below meth c s₁ Bd hml0 hP hK
  obtain ⟨rfl, hZ, hh⟩ := hP
  have hx := Bd.exec
  have hby := Bd.bytes
  have hml : c.maxLocals = 1 := hml0
  have hown : s.vm.findClass "com/example/haversack/haversack/BagItVersion" = some m.cls := findClass_of_methodNamed Bd.named
  have hnm := (name_of_methodNamed Bd.named Bd.method).1
  have X0 : Stand p l e ({ frames := 0, cells := 0, slots := 0, locals := 0 } : Room) s m #[(.ref b)] below meth c s₁ [] 0 0 := Stand.of_body Bd
  have e0 : s₁.heap = h0 := by rw [← hh, Bd.state]; rfl
  have N0 := Fr.nil n0
  have ef : entryFrame m #[(.ref b)] 1 = (mkF m 0 #[.val (.ref b)] []) := by first | (simp [entryFrame, mkF, argsToLocals, Value.category]; done) | rfl
  show OwnGoes p e below (fun o U' => ∃ v L, o = .returned v ∧ Q1 r h0 n0 v U'.heap L ∧ FrameEnd s o U' L ({ frames := 0, cells := 0, slots := 0, locals := 0 } : Room).cells ({ frames := 0, cells := 0, slots := 0, locals := 0 } : Room).slots) (s₁.setTop (entryFrame m #[(.ref b)] 1))
  refine own_pre (fun t k => castTop ef k) ?_
  show OwnGoes p e below _ (s₁.setTop (mkF m 0 #[.val (.ref b)] []))
  refine own_pre (fun _ kz_ => XS.aloadN X0.here hx rfl (hb hby d1_0) rfl rfl kz_) ?_
  show OwnGoes p e below _ (s₁.setTop (mkF m 1 #[.val (.ref b)] [(.ref b)]))
  obtain ⟨T1, X1, e1, st1⟩ := getS2 X0 hx hZ hown (host := "") (Or.inl (hw _ (List.mem_of_getElem? (i := 9) rfl))) Via.refl e0 S5 (g := (mkF m 1 #[.val (.ref b)] [(.ref b)])) rfl (hb hby d1_1)
  refine own_pre st1 ?_
  show OwnGoes p e below _ (T1.setTop (mkF m 4 #[.val (.ref b)] [(.ref u5), (.ref b)]))
  by_cases h4 : b = u5
  · refine own_pre (fun _ kz_ => Jvm.RoadKit.acmp (g := (mkF m 4 #[.val (.ref b)] [(.ref u5), (.ref b)])) X1 hx rfl rfl rfl (pc0 := 4) (pc' := 7) (same := true) rfl (hb hby d1_4) rfl (decide_eq_true (congrArg Value.ref h4)) (by decide) (by decide) kz_) ?_
    show OwnGoes p e below _ (T1.setTop (mkF m 7 #[.val (.ref b)] []))
    refine own_pre (fun _ kz_ => XS.iconst X1.here hx rfl (hb hby d1_7) kz_) ?_
    show OwnGoes p e below _ (T1.setTop (mkF m 8 #[.val (.ref b)] [(.int (1 : Int32))]))
    refine own_pre (fun _ kz_ => XS.goto X1.here hx rfl (pc0 := 8) (pc' := 12) rfl (hb hby d1_8) (by decide) (by decide) kz_) ?_
    show OwnGoes p e below _ (T1.setTop (mkF m 12 #[.val (.ref b)] [(.int (1 : Int32))]))
    exact own_ret X1 hx Bd.returns (rfl) (Or.inl ⟨rfl, by simp, _, rfl⟩) Bd.notSynchronized (hb hby d1_12) ⟨by rw [hr, if_pos h4], N0, e1⟩ (by decide) (by decide)
  · refine own_pre (fun _ kz_ => Jvm.RoadKit.acmp (g := (mkF m 4 #[.val (.ref b)] [(.ref u5), (.ref b)])) X1 hx rfl rfl rfl (pc0 := 4) (pc' := 11) (same := false) rfl (hb hby d1_4) rfl (decide_eq_false fun q => h4 (Value.ref.inj q)) (by decide) (by decide) kz_) ?_
    show OwnGoes p e below _ (T1.setTop (mkF m 11 #[.val (.ref b)] []))
    refine own_pre (fun _ kz_ => XS.iconst X1.here hx rfl (hb hby d1_11) kz_) ?_
    show OwnGoes p e below _ (T1.setTop (mkF m 12 #[.val (.ref b)] [(.int (0 : Int32))]))
    exact own_ret X1 hx Bd.returns (rfl) (Or.inl ⟨rfl, by simp, _, rfl⟩) Bd.notSynchronized (hb hby d1_12) ⟨by rw [hr, if_neg h4], N0, e1⟩ (by decide) (by decide)
set_option maxRecDepth 65536 in
set_option maxHeartbeats 40000000 in
theorem rm0 (l : Launch) (Z : State) (a0 : Array Value) (hw : ∀ d ∈ tables_1, d.before a0 Z = true) (ws : List Jvm.Cond) (p1 : Int32) (u0 u1 u2 u3 u4 u5 : Addr) (h0 : Heap) (n0 : Nat) (Z0 : n0 ≤ h0.size) (S0 : Sta Z h0 "com/example/haversack/haversack/BagItVersion" "V0_93" "Lcom/example/haversack/haversack/BagItVersion;" (.ref u0)) (S1 : Sta Z h0 "com/example/haversack/haversack/BagItVersion" "V0_94" "Lcom/example/haversack/haversack/BagItVersion;" (.ref u1)) (S2 : Sta Z h0 "com/example/haversack/haversack/BagItVersion" "V0_95" "Lcom/example/haversack/haversack/BagItVersion;" (.ref u2)) (S3 : Sta Z h0 "com/example/haversack/haversack/BagItVersion" "V0_96" "Lcom/example/haversack/haversack/BagItVersion;" (.ref u3)) (S4 : Sta Z h0 "com/example/haversack/haversack/BagItVersion" "V0_97" "Lcom/example/haversack/haversack/BagItVersion;" (.ref u4)) (S5 : Sta Z h0 "com/example/haversack/haversack/BagItVersion" "V1_0" "Lcom/example/haversack/haversack/BagItVersion;" (.ref u5)) (E0 : Exa Z h0 u0 "com/example/haversack/haversack/BagItVersion") (E1 : Exa Z h0 u1 "com/example/haversack/haversack/BagItVersion") (E2 : Exa Z h0 u2 "com/example/haversack/haversack/BagItVersion") (E3 : Exa Z h0 u3 "com/example/haversack/haversack/BagItVersion") (E4 : Exa Z h0 u4 "com/example/haversack/haversack/BagItVersion") (E5 : Exa Z h0 u5 "com/example/haversack/haversack/BagItVersion") (ne0 : ¬ u0 = u5) (ne1 : ¬ u1 = u5) (ne2 : ¬ u2 = u5) (ne3 : ¬ u3 = u5) (ne4 : ¬ u4 = u5) :
    MetFree l x (head1 (Jvm.Cond.code x code maxLocals ret :: ws) room_1) (fun a U => a = #[(.int p1)] ∧ Z.Warmed39 U.vm ∧ U.heap = h0) (fun _ _ _ _ _ => True) (fun _ U o U' => ∃ v L, o = .returned v ∧ Q0 h0 n0 v U'.heap L ∧ FrameEnd U o U' L room_1.cells room_1.slots) := by
  refine MetFree.of_bodySF (plainFor_of_name (by first | (simp [plainName, overriddenIn]; done) | decide +kernel)) hisR ?_
  intro p e s m args below meth c s₁ Bd hml0 hP hK
  obtain ⟨rfl, hZ, hh⟩ := hP
  have hx := Bd.exec
  have hby := Bd.bytes
  have hml : c.maxLocals = 4 := hml0
  have hown : s.vm.findClass "com/example/haversack/haversack/BagItVersionPercentEncodesPathsPinLaw" = some m.cls := findClass_of_methodNamed Bd.named
  have hnm := (name_of_methodNamed Bd.named Bd.method).1
  have X0 : Stand p l e room_1 s m #[(.int p1)] below meth c s₁ [] 0 0 := Stand.of_body Bd
  have e0 : s₁.heap = h0 := by rw [← hh, Bd.state]; rfl
  have N0 := Fr.nil n0
  have ef : entryFrame m #[(.int p1)] maxLocals = (mkF m 0 #[.val (.int p1), .unset, .unset, .unset] []) := by first | (simp [entryFrame, mkF, argsToLocals, Value.category, maxLocals]; done) | rfl
  show OwnGoes p e below (fun o U' => ∃ v L, o = .returned v ∧ Q0 h0 n0 v U'.heap L ∧ FrameEnd s o U' L room_1.cells room_1.slots) (s₁.setTop (entryFrame m #[(.int p1)] maxLocals))
  refine own_pre (fun t k => castTop ef k) ?_
  show OwnGoes p e below _ (s₁.setTop (mkF m 0 #[.val (.int p1), .unset, .unset, .unset] []))
  refine own_pre (fun _ kz_ => XS.iloadN X0.here hx rfl (hb hby at_0) rfl kz_) ?_
  show OwnGoes p e below _ (s₁.setTop (mkF m 1 #[.val (.int p1), .unset, .unset, .unset] [(.int p1)]))
  refine own_pre (fun _ kz_ => X0.ldcInt hx hown (mvT hZ (hw _ (List.mem_of_getElem? (i := 0) rfl))) (g := (mkF m 1 #[.val (.int p1), .unset, .unset, .unset] [(.int p1)])) rfl (hb hby at_1) _ kz_) ?_
  show OwnGoes p e below _ (s₁.setTop (mkF m 3 #[.val (.int p1), .unset, .unset, .unset] [(.int (2147483647 : Int32)), (.int p1)]))
  refine own_pre (fun _ kz_ => XS.iand X0.here hx rfl (hb hby at_3) rfl kz_) ?_
  show OwnGoes p e below _ (s₁.setTop (mkF m 4 #[.val (.int p1), .unset, .unset, .unset] [(.int (p1 &&& (2147483647 : Int32)))]))
  refine own_pre (fun _ kz_ => XS.bipush X0.here hx rfl (hb hby at_4) kz_) ?_
  show OwnGoes p e below _ (s₁.setTop (mkF m 6 #[.val (.int p1), .unset, .unset, .unset] [(.int (6 : Int32)), (.int (p1 &&& (2147483647 : Int32)))]))
  refine own_pre (fun _ kz_ => iremM X0 hx rfl (hb hby at_6) rfl (by decide) kz_) ?_
  show OwnGoes p e below _ (s₁.setTop (mkF m 7 #[.val (.int p1), .unset, .unset, .unset] [(.int ((p1 &&& (2147483647 : Int32)) % (6 : Int32)))]))
  rcases own_mod p1 with hk | hk | hk | hk | hk | hk
  · rw [hk]
    show OwnGoes p e below _ (s₁.setTop (mkF m 7 #[.val (.int p1), .unset, .unset, .unset] [(.int (0 : Int32))]))
    refine own_pre (fun _ kz_ => XS.istoreN X0.here hx rfl (hb hby at_7) rfl (l' := #[.val (.int p1), .val (.int (0 : Int32)), .unset, .unset]) rfl kz_) ?_
    show OwnGoes p e below _ (s₁.setTop (mkF m 8 #[.val (.int p1), .val (.int (0 : Int32)), .unset, .unset] []))
    refine own_pre (fun _ kz_ => XS.iloadN X0.here hx rfl (hb hby at_8) rfl kz_) ?_
    show OwnGoes p e below _ (s₁.setTop (mkF m 9 #[.val (.int p1), .val (.int (0 : Int32)), .unset, .unset] [(.int (0 : Int32))]))
    refine own_pre (fun _ kz_ => XS.ifNo X0.here hx rfl (hb hby at_9) rfl ((if0 _ _).trans (teq (by decide : (0 : Int32) = (0 : Int32))).2) kz_) ?_
    show OwnGoes p e below _ (s₁.setTop (mkF m 12 #[.val (.int p1), .val (.int (0 : Int32)), .unset, .unset] []))
    obtain ⟨T1, X1, e1, st1⟩ := getS2 X0 hx hZ hown (host := "") (Or.inl (hw _ (List.mem_of_getElem? (i := 1) rfl))) Via.refl e0 S0 (g := (mkF m 12 #[.val (.int p1), .val (.int (0 : Int32)), .unset, .unset] [])) rfl (hb hby at_12)
    refine own_pre st1 ?_
    show OwnGoes p e below _ (T1.setTop (mkF m 15 #[.val (.int p1), .val (.int (0 : Int32)), .unset, .unset] [(.ref u0)]))
    refine own_pre (fun _ kz_ => XS.astoreN X1.here hx rfl (hb hby at_15) rfl rfl (l' := #[.val (.int p1), .val (.int (0 : Int32)), .val (.ref u0), .unset]) rfl kz_) ?_
    show OwnGoes p e below _ (T1.setTop (mkF m 16 #[.val (.int p1), .val (.int (0 : Int32)), .val (.ref u0), .unset] []))
    refine own_pre (fun _ kz_ => XS.goto X1.here hx rfl (pc0 := 16) (pc' := 71) rfl (hb hby at_16) (by decide) (by decide) kz_) ?_
    show OwnGoes p e below _ (T1.setTop (mkF m 71 #[.val (.int p1), .val (.int (0 : Int32)), .val (.ref u0), .unset] []))
    refine own_pre (fun _ kz_ => XS.iloadN X1.here hx rfl (hb hby at_71) rfl kz_) ?_
    show OwnGoes p e below _ (T1.setTop (mkF m 72 #[.val (.int p1), .val (.int (0 : Int32)), .val (.ref u0), .unset] [(.int (0 : Int32))]))
    refine own_pre (fun _ kz_ => XS.iconst X1.here hx rfl (hb hby at_72) kz_) ?_
    show OwnGoes p e below _ (T1.setTop (mkF m 73 #[.val (.int p1), .val (.int (0 : Int32)), .val (.ref u0), .unset] [(.int (5 : Int32)), (.int (0 : Int32))]))
    refine own_pre (fun _ kz_ => XS.icmpYes X1.here hx rfl (pc0 := 73) (pc' := 80) rfl (hb hby at_73) rfl (feq (by decide : ¬ ((0 : Int32) = (5 : Int32)))).2 (by decide) (by decide) kz_) ?_
    show OwnGoes p e below _ (T1.setTop (mkF m 80 #[.val (.int p1), .val (.int (0 : Int32)), .val (.ref u0), .unset] []))
    refine own_pre (fun _ kz_ => XS.iconst X1.here hx rfl (hb hby at_80) kz_) ?_
    show OwnGoes p e below _ (T1.setTop (mkF m 81 #[.val (.int p1), .val (.int (0 : Int32)), .val (.ref u0), .unset] [(.int (0 : Int32))]))
    refine own_pre (fun _ kz_ => XS.istoreN X1.here hx rfl (hb hby at_81) rfl (l' := #[.val (.int p1), .val (.int (0 : Int32)), .val (.ref u0), .val (.int (0 : Int32))]) rfl kz_) ?_
    show OwnGoes p e below _ (T1.setTop (mkF m 82 #[.val (.int p1), .val (.int (0 : Int32)), .val (.ref u0), .val (.int (0 : Int32))] []))
    refine own_pre (fun _ kz_ => XS.aloadN X1.here hx rfl (hb hby at_82) rfl rfl kz_) ?_
    show OwnGoes p e below _ (T1.setTop (mkF m 83 #[.val (.int p1), .val (.int (0 : Int32)), .val (.ref u0), .val (.int (0 : Int32))] [(.ref u0)]))
    obtain ⟨cq2, kq2, q2a, q2b, q2c⟩ := isOf hZ e1 E0
    obtain ⟨_, _, ⟨T2, L2, k2, n2⟩, -, X2, ⟨Lc2, hQ2, l2, y2, z2⟩, st2⟩ := X1.virtualBack hx (y := (⟨"com/example/haversack/haversack/BagItVersion", "percentEncodesPaths", "()Z"⟩ : MethodName)) (z := (⟨"com/example/haversack/haversack/BagItVersion", "percentEncodesPaths", "()Z"⟩ : MethodName)) hown (mvT hZ (hw _ (List.mem_of_getElem? (i := 4) rfl))) (mvT hZ (hw _ (List.mem_of_getElem? (i := 5) rfl))) (notFace_of_selects (args := #[]) (mvT hZ (hw _ (List.mem_of_getElem? (i := 7) rfl)))) (mvT hZ (hw _ (List.mem_of_getElem? (i := 7) rfl))) (mvT hZ (hw _ (List.mem_of_getElem? (i := 6) rfl))) (by decide) (backOf (W := 0) (rm1 l Z a0 hw [] u0 u5 (0 : Int32) h0 n0 Z0 S5 (if_neg ne0).symm) hZ (hw _ (List.mem_of_getElem? (i := 8) rfl)) (hw _ (List.mem_of_getElem? (i := 2) rfl)) (by decide) (by decide)) q2a q2c (g := (mkF m 83 #[.val (.int p1), .val (.int (0 : Int32)), .val (.ref u0), .val (.int (0 : Int32))] [(.ref u0)])) rfl (by rw [hml]; rfl) (Steps.refl _) (argsL := []) (rest := []) (lenOf (d := "()Z") (ps := []) (r := some .boolean) (by decide +kernel) rfl) rfl (by show 2 * 0 + _ ≤ _; exact Nat.le_of_eq rfl) (hb hby at_83) (fun _ _ => ⟨rfl, e1, (by decide : 0 + 0 ≤ _), (by decide : 0 + 0 ≤ _)⟩)
    dsimp only [Pt.U, Pt.locs, Pt.cells, Pt.slots] at X2 l2 y2 z2 st2 hQ2
    subst l2 y2 z2
    obtain ⟨rfl, N2q, e2⟩ := hQ2
    have N2 := Fr.app N0 N2q
    refine own_tr st2 ?_
    show OwnGoes p e below _ (T2.setTop (mkF m 86 #[.val (.int p1), .val (.int (0 : Int32)), .val (.ref u0), .val (.int (0 : Int32))] [(.int (0 : Int32))]))
    refine own_pre (fun _ kz_ => XS.iloadN X2.here hx rfl (hb hby at_86) rfl kz_) ?_
    show OwnGoes p e below _ (T2.setTop (mkF m 87 #[.val (.int p1), .val (.int (0 : Int32)), .val (.ref u0), .val (.int (0 : Int32))] [(.int (0 : Int32)), (.int (0 : Int32))]))
    refine own_pre (fun _ kz_ => XS.icmpNo X2.here hx rfl (hb hby at_87) rfl (teq (by decide : (0 : Int32) = (0 : Int32))).2 kz_) ?_
    show OwnGoes p e below _ (T2.setTop (mkF m 90 #[.val (.int p1), .val (.int (0 : Int32)), .val (.ref u0), .val (.int (0 : Int32))] []))
    refine own_pre (fun _ kz_ => XS.iconst X2.here hx rfl (hb hby at_90) kz_) ?_
    show OwnGoes p e below _ (T2.setTop (mkF m 91 #[.val (.int p1), .val (.int (0 : Int32)), .val (.ref u0), .val (.int (0 : Int32))] [(.int (1 : Int32))]))
    refine own_pre (fun _ kz_ => XS.goto X2.here hx rfl (pc0 := 91) (pc' := 95) rfl (hb hby at_91) (by decide) (by decide) kz_) ?_
    show OwnGoes p e below _ (T2.setTop (mkF m 95 #[.val (.int p1), .val (.int (0 : Int32)), .val (.ref u0), .val (.int (0 : Int32))] [(.int (1 : Int32))]))
    exact own_ret X2 hx Bd.returns (rfl) (Or.inl ⟨rfl, by simp, _, rfl⟩) Bd.notSynchronized (hb hby at_95) ⟨rfl, N2⟩ (by decide) (by decide)
  · rw [hk]
    show OwnGoes p e below _ (s₁.setTop (mkF m 7 #[.val (.int p1), .unset, .unset, .unset] [(.int (1 : Int32))]))
    refine own_pre (fun _ kz_ => XS.istoreN X0.here hx rfl (hb hby at_7) rfl (l' := #[.val (.int p1), .val (.int (1 : Int32)), .unset, .unset]) rfl kz_) ?_
    show OwnGoes p e below _ (s₁.setTop (mkF m 8 #[.val (.int p1), .val (.int (1 : Int32)), .unset, .unset] []))
    refine own_pre (fun _ kz_ => XS.iloadN X0.here hx rfl (hb hby at_8) rfl kz_) ?_
    show OwnGoes p e below _ (s₁.setTop (mkF m 9 #[.val (.int p1), .val (.int (1 : Int32)), .unset, .unset] [(.int (1 : Int32))]))
    refine own_pre (fun _ kz_ => XS.ifYes X0.here hx rfl (pc0 := 9) (pc' := 19) rfl (hb hby at_9) rfl ((if0 _ _).trans (feq (by decide : ¬ ((1 : Int32) = (0 : Int32)))).2) (by decide) (by decide) kz_) ?_
    show OwnGoes p e below _ (s₁.setTop (mkF m 19 #[.val (.int p1), .val (.int (1 : Int32)), .unset, .unset] []))
    refine own_pre (fun _ kz_ => XS.iloadN X0.here hx rfl (hb hby at_19) rfl kz_) ?_
    show OwnGoes p e below _ (s₁.setTop (mkF m 20 #[.val (.int p1), .val (.int (1 : Int32)), .unset, .unset] [(.int (1 : Int32))]))
    refine own_pre (fun _ kz_ => XS.iconst X0.here hx rfl (hb hby at_20) kz_) ?_
    show OwnGoes p e below _ (s₁.setTop (mkF m 21 #[.val (.int p1), .val (.int (1 : Int32)), .unset, .unset] [(.int (1 : Int32)), (.int (1 : Int32))]))
    refine own_pre (fun _ kz_ => XS.icmpNo X0.here hx rfl (hb hby at_21) rfl (teq (by decide : (1 : Int32) = (1 : Int32))).2 kz_) ?_
    show OwnGoes p e below _ (s₁.setTop (mkF m 24 #[.val (.int p1), .val (.int (1 : Int32)), .unset, .unset] []))
    obtain ⟨T3, X3, e3, st3⟩ := getS2 X0 hx hZ hown (host := "") (Or.inl (hw _ (List.mem_of_getElem? (i := 15) rfl))) Via.refl e0 S1 (g := (mkF m 24 #[.val (.int p1), .val (.int (1 : Int32)), .unset, .unset] [])) rfl (hb hby at_24)
    refine own_pre st3 ?_
    show OwnGoes p e below _ (T3.setTop (mkF m 27 #[.val (.int p1), .val (.int (1 : Int32)), .unset, .unset] [(.ref u1)]))
    refine own_pre (fun _ kz_ => XS.astoreN X3.here hx rfl (hb hby at_27) rfl rfl (l' := #[.val (.int p1), .val (.int (1 : Int32)), .val (.ref u1), .unset]) rfl kz_) ?_
    show OwnGoes p e below _ (T3.setTop (mkF m 28 #[.val (.int p1), .val (.int (1 : Int32)), .val (.ref u1), .unset] []))
    refine own_pre (fun _ kz_ => XS.goto X3.here hx rfl (pc0 := 28) (pc' := 71) rfl (hb hby at_28) (by decide) (by decide) kz_) ?_
    show OwnGoes p e below _ (T3.setTop (mkF m 71 #[.val (.int p1), .val (.int (1 : Int32)), .val (.ref u1), .unset] []))
    refine own_pre (fun _ kz_ => XS.iloadN X3.here hx rfl (hb hby at_71) rfl kz_) ?_
    show OwnGoes p e below _ (T3.setTop (mkF m 72 #[.val (.int p1), .val (.int (1 : Int32)), .val (.ref u1), .unset] [(.int (1 : Int32))]))
    refine own_pre (fun _ kz_ => XS.iconst X3.here hx rfl (hb hby at_72) kz_) ?_
    show OwnGoes p e below _ (T3.setTop (mkF m 73 #[.val (.int p1), .val (.int (1 : Int32)), .val (.ref u1), .unset] [(.int (5 : Int32)), (.int (1 : Int32))]))
    refine own_pre (fun _ kz_ => XS.icmpYes X3.here hx rfl (pc0 := 73) (pc' := 80) rfl (hb hby at_73) rfl (feq (by decide : ¬ ((1 : Int32) = (5 : Int32)))).2 (by decide) (by decide) kz_) ?_
    show OwnGoes p e below _ (T3.setTop (mkF m 80 #[.val (.int p1), .val (.int (1 : Int32)), .val (.ref u1), .unset] []))
    refine own_pre (fun _ kz_ => XS.iconst X3.here hx rfl (hb hby at_80) kz_) ?_
    show OwnGoes p e below _ (T3.setTop (mkF m 81 #[.val (.int p1), .val (.int (1 : Int32)), .val (.ref u1), .unset] [(.int (0 : Int32))]))
    refine own_pre (fun _ kz_ => XS.istoreN X3.here hx rfl (hb hby at_81) rfl (l' := #[.val (.int p1), .val (.int (1 : Int32)), .val (.ref u1), .val (.int (0 : Int32))]) rfl kz_) ?_
    show OwnGoes p e below _ (T3.setTop (mkF m 82 #[.val (.int p1), .val (.int (1 : Int32)), .val (.ref u1), .val (.int (0 : Int32))] []))
    refine own_pre (fun _ kz_ => XS.aloadN X3.here hx rfl (hb hby at_82) rfl rfl kz_) ?_
    show OwnGoes p e below _ (T3.setTop (mkF m 83 #[.val (.int p1), .val (.int (1 : Int32)), .val (.ref u1), .val (.int (0 : Int32))] [(.ref u1)]))
    obtain ⟨cq4, kq4, q4a, q4b, q4c⟩ := isOf hZ e3 E1
    obtain ⟨_, _, ⟨T4, L4, k4, n4⟩, -, X4, ⟨Lc4, hQ4, l4, y4, z4⟩, st4⟩ := X3.virtualBack hx (y := (⟨"com/example/haversack/haversack/BagItVersion", "percentEncodesPaths", "()Z"⟩ : MethodName)) (z := (⟨"com/example/haversack/haversack/BagItVersion", "percentEncodesPaths", "()Z"⟩ : MethodName)) hown (mvT hZ (hw _ (List.mem_of_getElem? (i := 4) rfl))) (mvT hZ (hw _ (List.mem_of_getElem? (i := 5) rfl))) (notFace_of_selects (args := #[]) (mvT hZ (hw _ (List.mem_of_getElem? (i := 7) rfl)))) (mvT hZ (hw _ (List.mem_of_getElem? (i := 7) rfl))) (mvT hZ (hw _ (List.mem_of_getElem? (i := 6) rfl))) (by decide) (backOf (W := 0) (rm1 l Z a0 hw [] u1 u5 (0 : Int32) h0 n0 Z0 S5 (if_neg ne1).symm) hZ (hw _ (List.mem_of_getElem? (i := 8) rfl)) (hw _ (List.mem_of_getElem? (i := 2) rfl)) (by decide) (by decide)) q4a q4c (g := (mkF m 83 #[.val (.int p1), .val (.int (1 : Int32)), .val (.ref u1), .val (.int (0 : Int32))] [(.ref u1)])) rfl (by rw [hml]; rfl) (Steps.refl _) (argsL := []) (rest := []) (lenOf (d := "()Z") (ps := []) (r := some .boolean) (by decide +kernel) rfl) rfl (by show 2 * 0 + _ ≤ _; exact Nat.le_of_eq rfl) (hb hby at_83) (fun _ _ => ⟨rfl, e3, (by decide : 0 + 0 ≤ _), (by decide : 0 + 0 ≤ _)⟩)
    dsimp only [Pt.U, Pt.locs, Pt.cells, Pt.slots] at X4 l4 y4 z4 st4 hQ4
    subst l4 y4 z4
    obtain ⟨rfl, N4q, e4⟩ := hQ4
    have N4 := Fr.app N0 N4q
    refine own_tr st4 ?_
    show OwnGoes p e below _ (T4.setTop (mkF m 86 #[.val (.int p1), .val (.int (1 : Int32)), .val (.ref u1), .val (.int (0 : Int32))] [(.int (0 : Int32))]))
    refine own_pre (fun _ kz_ => XS.iloadN X4.here hx rfl (hb hby at_86) rfl kz_) ?_
    show OwnGoes p e below _ (T4.setTop (mkF m 87 #[.val (.int p1), .val (.int (1 : Int32)), .val (.ref u1), .val (.int (0 : Int32))] [(.int (0 : Int32)), (.int (0 : Int32))]))
    refine own_pre (fun _ kz_ => XS.icmpNo X4.here hx rfl (hb hby at_87) rfl (teq (by decide : (0 : Int32) = (0 : Int32))).2 kz_) ?_
    show OwnGoes p e below _ (T4.setTop (mkF m 90 #[.val (.int p1), .val (.int (1 : Int32)), .val (.ref u1), .val (.int (0 : Int32))] []))
    refine own_pre (fun _ kz_ => XS.iconst X4.here hx rfl (hb hby at_90) kz_) ?_
    show OwnGoes p e below _ (T4.setTop (mkF m 91 #[.val (.int p1), .val (.int (1 : Int32)), .val (.ref u1), .val (.int (0 : Int32))] [(.int (1 : Int32))]))
    refine own_pre (fun _ kz_ => XS.goto X4.here hx rfl (pc0 := 91) (pc' := 95) rfl (hb hby at_91) (by decide) (by decide) kz_) ?_
    show OwnGoes p e below _ (T4.setTop (mkF m 95 #[.val (.int p1), .val (.int (1 : Int32)), .val (.ref u1), .val (.int (0 : Int32))] [(.int (1 : Int32))]))
    exact own_ret X4 hx Bd.returns (rfl) (Or.inl ⟨rfl, by simp, _, rfl⟩) Bd.notSynchronized (hb hby at_95) ⟨rfl, N4⟩ (by decide) (by decide)
  · rw [hk]
    show OwnGoes p e below _ (s₁.setTop (mkF m 7 #[.val (.int p1), .unset, .unset, .unset] [(.int (2 : Int32))]))
    refine own_pre (fun _ kz_ => XS.istoreN X0.here hx rfl (hb hby at_7) rfl (l' := #[.val (.int p1), .val (.int (2 : Int32)), .unset, .unset]) rfl kz_) ?_
    show OwnGoes p e below _ (s₁.setTop (mkF m 8 #[.val (.int p1), .val (.int (2 : Int32)), .unset, .unset] []))
    refine own_pre (fun _ kz_ => XS.iloadN X0.here hx rfl (hb hby at_8) rfl kz_) ?_
    show OwnGoes p e below _ (s₁.setTop (mkF m 9 #[.val (.int p1), .val (.int (2 : Int32)), .unset, .unset] [(.int (2 : Int32))]))
    refine own_pre (fun _ kz_ => XS.ifYes X0.here hx rfl (pc0 := 9) (pc' := 19) rfl (hb hby at_9) rfl ((if0 _ _).trans (feq (by decide : ¬ ((2 : Int32) = (0 : Int32)))).2) (by decide) (by decide) kz_) ?_
    show OwnGoes p e below _ (s₁.setTop (mkF m 19 #[.val (.int p1), .val (.int (2 : Int32)), .unset, .unset] []))
    refine own_pre (fun _ kz_ => XS.iloadN X0.here hx rfl (hb hby at_19) rfl kz_) ?_
    show OwnGoes p e below _ (s₁.setTop (mkF m 20 #[.val (.int p1), .val (.int (2 : Int32)), .unset, .unset] [(.int (2 : Int32))]))
    refine own_pre (fun _ kz_ => XS.iconst X0.here hx rfl (hb hby at_20) kz_) ?_
    show OwnGoes p e below _ (s₁.setTop (mkF m 21 #[.val (.int p1), .val (.int (2 : Int32)), .unset, .unset] [(.int (1 : Int32)), (.int (2 : Int32))]))
    refine own_pre (fun _ kz_ => XS.icmpYes X0.here hx rfl (pc0 := 21) (pc' := 31) rfl (hb hby at_21) rfl (feq (by decide : ¬ ((2 : Int32) = (1 : Int32)))).2 (by decide) (by decide) kz_) ?_
    show OwnGoes p e below _ (s₁.setTop (mkF m 31 #[.val (.int p1), .val (.int (2 : Int32)), .unset, .unset] []))
    refine own_pre (fun _ kz_ => XS.iloadN X0.here hx rfl (hb hby at_31) rfl kz_) ?_
    show OwnGoes p e below _ (s₁.setTop (mkF m 32 #[.val (.int p1), .val (.int (2 : Int32)), .unset, .unset] [(.int (2 : Int32))]))
    refine own_pre (fun _ kz_ => XS.iconst X0.here hx rfl (hb hby at_32) kz_) ?_
    show OwnGoes p e below _ (s₁.setTop (mkF m 33 #[.val (.int p1), .val (.int (2 : Int32)), .unset, .unset] [(.int (2 : Int32)), (.int (2 : Int32))]))
    refine own_pre (fun _ kz_ => XS.icmpNo X0.here hx rfl (hb hby at_33) rfl (teq (by decide : (2 : Int32) = (2 : Int32))).2 kz_) ?_
    show OwnGoes p e below _ (s₁.setTop (mkF m 36 #[.val (.int p1), .val (.int (2 : Int32)), .unset, .unset] []))
    obtain ⟨T5, X5, e5, st5⟩ := getS2 X0 hx hZ hown (host := "") (Or.inl (hw _ (List.mem_of_getElem? (i := 13) rfl))) Via.refl e0 S2 (g := (mkF m 36 #[.val (.int p1), .val (.int (2 : Int32)), .unset, .unset] [])) rfl (hb hby at_36)
    refine own_pre st5 ?_
    show OwnGoes p e below _ (T5.setTop (mkF m 39 #[.val (.int p1), .val (.int (2 : Int32)), .unset, .unset] [(.ref u2)]))
    refine own_pre (fun _ kz_ => XS.astoreN X5.here hx rfl (hb hby at_39) rfl rfl (l' := #[.val (.int p1), .val (.int (2 : Int32)), .val (.ref u2), .unset]) rfl kz_) ?_
    show OwnGoes p e below _ (T5.setTop (mkF m 40 #[.val (.int p1), .val (.int (2 : Int32)), .val (.ref u2), .unset] []))
    refine own_pre (fun _ kz_ => XS.goto X5.here hx rfl (pc0 := 40) (pc' := 71) rfl (hb hby at_40) (by decide) (by decide) kz_) ?_
    show OwnGoes p e below _ (T5.setTop (mkF m 71 #[.val (.int p1), .val (.int (2 : Int32)), .val (.ref u2), .unset] []))
    refine own_pre (fun _ kz_ => XS.iloadN X5.here hx rfl (hb hby at_71) rfl kz_) ?_
    show OwnGoes p e below _ (T5.setTop (mkF m 72 #[.val (.int p1), .val (.int (2 : Int32)), .val (.ref u2), .unset] [(.int (2 : Int32))]))
    refine own_pre (fun _ kz_ => XS.iconst X5.here hx rfl (hb hby at_72) kz_) ?_
    show OwnGoes p e below _ (T5.setTop (mkF m 73 #[.val (.int p1), .val (.int (2 : Int32)), .val (.ref u2), .unset] [(.int (5 : Int32)), (.int (2 : Int32))]))
    refine own_pre (fun _ kz_ => XS.icmpYes X5.here hx rfl (pc0 := 73) (pc' := 80) rfl (hb hby at_73) rfl (feq (by decide : ¬ ((2 : Int32) = (5 : Int32)))).2 (by decide) (by decide) kz_) ?_
    show OwnGoes p e below _ (T5.setTop (mkF m 80 #[.val (.int p1), .val (.int (2 : Int32)), .val (.ref u2), .unset] []))
    refine own_pre (fun _ kz_ => XS.iconst X5.here hx rfl (hb hby at_80) kz_) ?_
    show OwnGoes p e below _ (T5.setTop (mkF m 81 #[.val (.int p1), .val (.int (2 : Int32)), .val (.ref u2), .unset] [(.int (0 : Int32))]))
    refine own_pre (fun _ kz_ => XS.istoreN X5.here hx rfl (hb hby at_81) rfl (l' := #[.val (.int p1), .val (.int (2 : Int32)), .val (.ref u2), .val (.int (0 : Int32))]) rfl kz_) ?_
    show OwnGoes p e below _ (T5.setTop (mkF m 82 #[.val (.int p1), .val (.int (2 : Int32)), .val (.ref u2), .val (.int (0 : Int32))] []))
    refine own_pre (fun _ kz_ => XS.aloadN X5.here hx rfl (hb hby at_82) rfl rfl kz_) ?_
    show OwnGoes p e below _ (T5.setTop (mkF m 83 #[.val (.int p1), .val (.int (2 : Int32)), .val (.ref u2), .val (.int (0 : Int32))] [(.ref u2)]))
    obtain ⟨cq6, kq6, q6a, q6b, q6c⟩ := isOf hZ e5 E2
    obtain ⟨_, _, ⟨T6, L6, k6, n6⟩, -, X6, ⟨Lc6, hQ6, l6, y6, z6⟩, st6⟩ := X5.virtualBack hx (y := (⟨"com/example/haversack/haversack/BagItVersion", "percentEncodesPaths", "()Z"⟩ : MethodName)) (z := (⟨"com/example/haversack/haversack/BagItVersion", "percentEncodesPaths", "()Z"⟩ : MethodName)) hown (mvT hZ (hw _ (List.mem_of_getElem? (i := 4) rfl))) (mvT hZ (hw _ (List.mem_of_getElem? (i := 5) rfl))) (notFace_of_selects (args := #[]) (mvT hZ (hw _ (List.mem_of_getElem? (i := 7) rfl)))) (mvT hZ (hw _ (List.mem_of_getElem? (i := 7) rfl))) (mvT hZ (hw _ (List.mem_of_getElem? (i := 6) rfl))) (by decide) (backOf (W := 0) (rm1 l Z a0 hw [] u2 u5 (0 : Int32) h0 n0 Z0 S5 (if_neg ne2).symm) hZ (hw _ (List.mem_of_getElem? (i := 8) rfl)) (hw _ (List.mem_of_getElem? (i := 2) rfl)) (by decide) (by decide)) q6a q6c (g := (mkF m 83 #[.val (.int p1), .val (.int (2 : Int32)), .val (.ref u2), .val (.int (0 : Int32))] [(.ref u2)])) rfl (by rw [hml]; rfl) (Steps.refl _) (argsL := []) (rest := []) (lenOf (d := "()Z") (ps := []) (r := some .boolean) (by decide +kernel) rfl) rfl (by show 2 * 0 + _ ≤ _; exact Nat.le_of_eq rfl) (hb hby at_83) (fun _ _ => ⟨rfl, e5, (by decide : 0 + 0 ≤ _), (by decide : 0 + 0 ≤ _)⟩)
    dsimp only [Pt.U, Pt.locs, Pt.cells, Pt.slots] at X6 l6 y6 z6 st6 hQ6
    subst l6 y6 z6
    obtain ⟨rfl, N6q, e6⟩ := hQ6
    have N6 := Fr.app N0 N6q
    refine own_tr st6 ?_
    show OwnGoes p e below _ (T6.setTop (mkF m 86 #[.val (.int p1), .val (.int (2 : Int32)), .val (.ref u2), .val (.int (0 : Int32))] [(.int (0 : Int32))]))
    refine own_pre (fun _ kz_ => XS.iloadN X6.here hx rfl (hb hby at_86) rfl kz_) ?_
    show OwnGoes p e below _ (T6.setTop (mkF m 87 #[.val (.int p1), .val (.int (2 : Int32)), .val (.ref u2), .val (.int (0 : Int32))] [(.int (0 : Int32)), (.int (0 : Int32))]))
    refine own_pre (fun _ kz_ => XS.icmpNo X6.here hx rfl (hb hby at_87) rfl (teq (by decide : (0 : Int32) = (0 : Int32))).2 kz_) ?_
    show OwnGoes p e below _ (T6.setTop (mkF m 90 #[.val (.int p1), .val (.int (2 : Int32)), .val (.ref u2), .val (.int (0 : Int32))] []))
    refine own_pre (fun _ kz_ => XS.iconst X6.here hx rfl (hb hby at_90) kz_) ?_
    show OwnGoes p e below _ (T6.setTop (mkF m 91 #[.val (.int p1), .val (.int (2 : Int32)), .val (.ref u2), .val (.int (0 : Int32))] [(.int (1 : Int32))]))
    refine own_pre (fun _ kz_ => XS.goto X6.here hx rfl (pc0 := 91) (pc' := 95) rfl (hb hby at_91) (by decide) (by decide) kz_) ?_
    show OwnGoes p e below _ (T6.setTop (mkF m 95 #[.val (.int p1), .val (.int (2 : Int32)), .val (.ref u2), .val (.int (0 : Int32))] [(.int (1 : Int32))]))
    exact own_ret X6 hx Bd.returns (rfl) (Or.inl ⟨rfl, by simp, _, rfl⟩) Bd.notSynchronized (hb hby at_95) ⟨rfl, N6⟩ (by decide) (by decide)
  · rw [hk]
    show OwnGoes p e below _ (s₁.setTop (mkF m 7 #[.val (.int p1), .unset, .unset, .unset] [(.int (3 : Int32))]))
    refine own_pre (fun _ kz_ => XS.istoreN X0.here hx rfl (hb hby at_7) rfl (l' := #[.val (.int p1), .val (.int (3 : Int32)), .unset, .unset]) rfl kz_) ?_
    show OwnGoes p e below _ (s₁.setTop (mkF m 8 #[.val (.int p1), .val (.int (3 : Int32)), .unset, .unset] []))
    refine own_pre (fun _ kz_ => XS.iloadN X0.here hx rfl (hb hby at_8) rfl kz_) ?_
    show OwnGoes p e below _ (s₁.setTop (mkF m 9 #[.val (.int p1), .val (.int (3 : Int32)), .unset, .unset] [(.int (3 : Int32))]))
    refine own_pre (fun _ kz_ => XS.ifYes X0.here hx rfl (pc0 := 9) (pc' := 19) rfl (hb hby at_9) rfl ((if0 _ _).trans (feq (by decide : ¬ ((3 : Int32) = (0 : Int32)))).2) (by decide) (by decide) kz_) ?_
    show OwnGoes p e below _ (s₁.setTop (mkF m 19 #[.val (.int p1), .val (.int (3 : Int32)), .unset, .unset] []))
    refine own_pre (fun _ kz_ => XS.iloadN X0.here hx rfl (hb hby at_19) rfl kz_) ?_
    show OwnGoes p e below _ (s₁.setTop (mkF m 20 #[.val (.int p1), .val (.int (3 : Int32)), .unset, .unset] [(.int (3 : Int32))]))
    refine own_pre (fun _ kz_ => XS.iconst X0.here hx rfl (hb hby at_20) kz_) ?_
    show OwnGoes p e below _ (s₁.setTop (mkF m 21 #[.val (.int p1), .val (.int (3 : Int32)), .unset, .unset] [(.int (1 : Int32)), (.int (3 : Int32))]))
    refine own_pre (fun _ kz_ => XS.icmpYes X0.here hx rfl (pc0 := 21) (pc' := 31) rfl (hb hby at_21) rfl (feq (by decide : ¬ ((3 : Int32) = (1 : Int32)))).2 (by decide) (by decide) kz_) ?_
    show OwnGoes p e below _ (s₁.setTop (mkF m 31 #[.val (.int p1), .val (.int (3 : Int32)), .unset, .unset] []))
    refine own_pre (fun _ kz_ => XS.iloadN X0.here hx rfl (hb hby at_31) rfl kz_) ?_
    show OwnGoes p e below _ (s₁.setTop (mkF m 32 #[.val (.int p1), .val (.int (3 : Int32)), .unset, .unset] [(.int (3 : Int32))]))
    refine own_pre (fun _ kz_ => XS.iconst X0.here hx rfl (hb hby at_32) kz_) ?_
    show OwnGoes p e below _ (s₁.setTop (mkF m 33 #[.val (.int p1), .val (.int (3 : Int32)), .unset, .unset] [(.int (2 : Int32)), (.int (3 : Int32))]))
    refine own_pre (fun _ kz_ => XS.icmpYes X0.here hx rfl (pc0 := 33) (pc' := 43) rfl (hb hby at_33) rfl (feq (by decide : ¬ ((3 : Int32) = (2 : Int32)))).2 (by decide) (by decide) kz_) ?_
    show OwnGoes p e below _ (s₁.setTop (mkF m 43 #[.val (.int p1), .val (.int (3 : Int32)), .unset, .unset] []))
    refine own_pre (fun _ kz_ => XS.iloadN X0.here hx rfl (hb hby at_43) rfl kz_) ?_
    show OwnGoes p e below _ (s₁.setTop (mkF m 44 #[.val (.int p1), .val (.int (3 : Int32)), .unset, .unset] [(.int (3 : Int32))]))
    refine own_pre (fun _ kz_ => XS.iconst X0.here hx rfl (hb hby at_44) kz_) ?_
    show OwnGoes p e below _ (s₁.setTop (mkF m 45 #[.val (.int p1), .val (.int (3 : Int32)), .unset, .unset] [(.int (3 : Int32)), (.int (3 : Int32))]))
    refine own_pre (fun _ kz_ => XS.icmpNo X0.here hx rfl (hb hby at_45) rfl (teq (by decide : (3 : Int32) = (3 : Int32))).2 kz_) ?_
    show OwnGoes p e below _ (s₁.setTop (mkF m 48 #[.val (.int p1), .val (.int (3 : Int32)), .unset, .unset] []))
    obtain ⟨T7, X7, e7, st7⟩ := getS2 X0 hx hZ hown (host := "") (Or.inl (hw _ (List.mem_of_getElem? (i := 11) rfl))) Via.refl e0 S3 (g := (mkF m 48 #[.val (.int p1), .val (.int (3 : Int32)), .unset, .unset] [])) rfl (hb hby at_48)
    refine own_pre st7 ?_
    show OwnGoes p e below _ (T7.setTop (mkF m 51 #[.val (.int p1), .val (.int (3 : Int32)), .unset, .unset] [(.ref u3)]))
    refine own_pre (fun _ kz_ => XS.astoreN X7.here hx rfl (hb hby at_51) rfl rfl (l' := #[.val (.int p1), .val (.int (3 : Int32)), .val (.ref u3), .unset]) rfl kz_) ?_
    show OwnGoes p e below _ (T7.setTop (mkF m 52 #[.val (.int p1), .val (.int (3 : Int32)), .val (.ref u3), .unset] []))
    refine own_pre (fun _ kz_ => XS.goto X7.here hx rfl (pc0 := 52) (pc' := 71) rfl (hb hby at_52) (by decide) (by decide) kz_) ?_
    show OwnGoes p e below _ (T7.setTop (mkF m 71 #[.val (.int p1), .val (.int (3 : Int32)), .val (.ref u3), .unset] []))
    refine own_pre (fun _ kz_ => XS.iloadN X7.here hx rfl (hb hby at_71) rfl kz_) ?_
    show OwnGoes p e below _ (T7.setTop (mkF m 72 #[.val (.int p1), .val (.int (3 : Int32)), .val (.ref u3), .unset] [(.int (3 : Int32))]))
    refine own_pre (fun _ kz_ => XS.iconst X7.here hx rfl (hb hby at_72) kz_) ?_
    show OwnGoes p e below _ (T7.setTop (mkF m 73 #[.val (.int p1), .val (.int (3 : Int32)), .val (.ref u3), .unset] [(.int (5 : Int32)), (.int (3 : Int32))]))
    refine own_pre (fun _ kz_ => XS.icmpYes X7.here hx rfl (pc0 := 73) (pc' := 80) rfl (hb hby at_73) rfl (feq (by decide : ¬ ((3 : Int32) = (5 : Int32)))).2 (by decide) (by decide) kz_) ?_
    show OwnGoes p e below _ (T7.setTop (mkF m 80 #[.val (.int p1), .val (.int (3 : Int32)), .val (.ref u3), .unset] []))
    refine own_pre (fun _ kz_ => XS.iconst X7.here hx rfl (hb hby at_80) kz_) ?_
    show OwnGoes p e below _ (T7.setTop (mkF m 81 #[.val (.int p1), .val (.int (3 : Int32)), .val (.ref u3), .unset] [(.int (0 : Int32))]))
    refine own_pre (fun _ kz_ => XS.istoreN X7.here hx rfl (hb hby at_81) rfl (l' := #[.val (.int p1), .val (.int (3 : Int32)), .val (.ref u3), .val (.int (0 : Int32))]) rfl kz_) ?_
    show OwnGoes p e below _ (T7.setTop (mkF m 82 #[.val (.int p1), .val (.int (3 : Int32)), .val (.ref u3), .val (.int (0 : Int32))] []))
    refine own_pre (fun _ kz_ => XS.aloadN X7.here hx rfl (hb hby at_82) rfl rfl kz_) ?_
    show OwnGoes p e below _ (T7.setTop (mkF m 83 #[.val (.int p1), .val (.int (3 : Int32)), .val (.ref u3), .val (.int (0 : Int32))] [(.ref u3)]))
    obtain ⟨cq8, kq8, q8a, q8b, q8c⟩ := isOf hZ e7 E3
    obtain ⟨_, _, ⟨T8, L8, k8, n8⟩, -, X8, ⟨Lc8, hQ8, l8, y8, z8⟩, st8⟩ := X7.virtualBack hx (y := (⟨"com/example/haversack/haversack/BagItVersion", "percentEncodesPaths", "()Z"⟩ : MethodName)) (z := (⟨"com/example/haversack/haversack/BagItVersion", "percentEncodesPaths", "()Z"⟩ : MethodName)) hown (mvT hZ (hw _ (List.mem_of_getElem? (i := 4) rfl))) (mvT hZ (hw _ (List.mem_of_getElem? (i := 5) rfl))) (notFace_of_selects (args := #[]) (mvT hZ (hw _ (List.mem_of_getElem? (i := 7) rfl)))) (mvT hZ (hw _ (List.mem_of_getElem? (i := 7) rfl))) (mvT hZ (hw _ (List.mem_of_getElem? (i := 6) rfl))) (by decide) (backOf (W := 0) (rm1 l Z a0 hw [] u3 u5 (0 : Int32) h0 n0 Z0 S5 (if_neg ne3).symm) hZ (hw _ (List.mem_of_getElem? (i := 8) rfl)) (hw _ (List.mem_of_getElem? (i := 2) rfl)) (by decide) (by decide)) q8a q8c (g := (mkF m 83 #[.val (.int p1), .val (.int (3 : Int32)), .val (.ref u3), .val (.int (0 : Int32))] [(.ref u3)])) rfl (by rw [hml]; rfl) (Steps.refl _) (argsL := []) (rest := []) (lenOf (d := "()Z") (ps := []) (r := some .boolean) (by decide +kernel) rfl) rfl (by show 2 * 0 + _ ≤ _; exact Nat.le_of_eq rfl) (hb hby at_83) (fun _ _ => ⟨rfl, e7, (by decide : 0 + 0 ≤ _), (by decide : 0 + 0 ≤ _)⟩)
    dsimp only [Pt.U, Pt.locs, Pt.cells, Pt.slots] at X8 l8 y8 z8 st8 hQ8
    subst l8 y8 z8
    obtain ⟨rfl, N8q, e8⟩ := hQ8
    have N8 := Fr.app N0 N8q
    refine own_tr st8 ?_
    show OwnGoes p e below _ (T8.setTop (mkF m 86 #[.val (.int p1), .val (.int (3 : Int32)), .val (.ref u3), .val (.int (0 : Int32))] [(.int (0 : Int32))]))
    refine own_pre (fun _ kz_ => XS.iloadN X8.here hx rfl (hb hby at_86) rfl kz_) ?_
    show OwnGoes p e below _ (T8.setTop (mkF m 87 #[.val (.int p1), .val (.int (3 : Int32)), .val (.ref u3), .val (.int (0 : Int32))] [(.int (0 : Int32)), (.int (0 : Int32))]))
    refine own_pre (fun _ kz_ => XS.icmpNo X8.here hx rfl (hb hby at_87) rfl (teq (by decide : (0 : Int32) = (0 : Int32))).2 kz_) ?_
    show OwnGoes p e below _ (T8.setTop (mkF m 90 #[.val (.int p1), .val (.int (3 : Int32)), .val (.ref u3), .val (.int (0 : Int32))] []))
    refine own_pre (fun _ kz_ => XS.iconst X8.here hx rfl (hb hby at_90) kz_) ?_
    show OwnGoes p e below _ (T8.setTop (mkF m 91 #[.val (.int p1), .val (.int (3 : Int32)), .val (.ref u3), .val (.int (0 : Int32))] [(.int (1 : Int32))]))
    refine own_pre (fun _ kz_ => XS.goto X8.here hx rfl (pc0 := 91) (pc' := 95) rfl (hb hby at_91) (by decide) (by decide) kz_) ?_
    show OwnGoes p e below _ (T8.setTop (mkF m 95 #[.val (.int p1), .val (.int (3 : Int32)), .val (.ref u3), .val (.int (0 : Int32))] [(.int (1 : Int32))]))
    exact own_ret X8 hx Bd.returns (rfl) (Or.inl ⟨rfl, by simp, _, rfl⟩) Bd.notSynchronized (hb hby at_95) ⟨rfl, N8⟩ (by decide) (by decide)
  · rw [hk]
    show OwnGoes p e below _ (s₁.setTop (mkF m 7 #[.val (.int p1), .unset, .unset, .unset] [(.int (4 : Int32))]))
    refine own_pre (fun _ kz_ => XS.istoreN X0.here hx rfl (hb hby at_7) rfl (l' := #[.val (.int p1), .val (.int (4 : Int32)), .unset, .unset]) rfl kz_) ?_
    show OwnGoes p e below _ (s₁.setTop (mkF m 8 #[.val (.int p1), .val (.int (4 : Int32)), .unset, .unset] []))
    refine own_pre (fun _ kz_ => XS.iloadN X0.here hx rfl (hb hby at_8) rfl kz_) ?_
    show OwnGoes p e below _ (s₁.setTop (mkF m 9 #[.val (.int p1), .val (.int (4 : Int32)), .unset, .unset] [(.int (4 : Int32))]))
    refine own_pre (fun _ kz_ => XS.ifYes X0.here hx rfl (pc0 := 9) (pc' := 19) rfl (hb hby at_9) rfl ((if0 _ _).trans (feq (by decide : ¬ ((4 : Int32) = (0 : Int32)))).2) (by decide) (by decide) kz_) ?_
    show OwnGoes p e below _ (s₁.setTop (mkF m 19 #[.val (.int p1), .val (.int (4 : Int32)), .unset, .unset] []))
    refine own_pre (fun _ kz_ => XS.iloadN X0.here hx rfl (hb hby at_19) rfl kz_) ?_
    show OwnGoes p e below _ (s₁.setTop (mkF m 20 #[.val (.int p1), .val (.int (4 : Int32)), .unset, .unset] [(.int (4 : Int32))]))
    refine own_pre (fun _ kz_ => XS.iconst X0.here hx rfl (hb hby at_20) kz_) ?_
    show OwnGoes p e below _ (s₁.setTop (mkF m 21 #[.val (.int p1), .val (.int (4 : Int32)), .unset, .unset] [(.int (1 : Int32)), (.int (4 : Int32))]))
    refine own_pre (fun _ kz_ => XS.icmpYes X0.here hx rfl (pc0 := 21) (pc' := 31) rfl (hb hby at_21) rfl (feq (by decide : ¬ ((4 : Int32) = (1 : Int32)))).2 (by decide) (by decide) kz_) ?_
    show OwnGoes p e below _ (s₁.setTop (mkF m 31 #[.val (.int p1), .val (.int (4 : Int32)), .unset, .unset] []))
    refine own_pre (fun _ kz_ => XS.iloadN X0.here hx rfl (hb hby at_31) rfl kz_) ?_
    show OwnGoes p e below _ (s₁.setTop (mkF m 32 #[.val (.int p1), .val (.int (4 : Int32)), .unset, .unset] [(.int (4 : Int32))]))
    refine own_pre (fun _ kz_ => XS.iconst X0.here hx rfl (hb hby at_32) kz_) ?_
    show OwnGoes p e below _ (s₁.setTop (mkF m 33 #[.val (.int p1), .val (.int (4 : Int32)), .unset, .unset] [(.int (2 : Int32)), (.int (4 : Int32))]))
    refine own_pre (fun _ kz_ => XS.icmpYes X0.here hx rfl (pc0 := 33) (pc' := 43) rfl (hb hby at_33) rfl (feq (by decide : ¬ ((4 : Int32) = (2 : Int32)))).2 (by decide) (by decide) kz_) ?_
    show OwnGoes p e below _ (s₁.setTop (mkF m 43 #[.val (.int p1), .val (.int (4 : Int32)), .unset, .unset] []))
    refine own_pre (fun _ kz_ => XS.iloadN X0.here hx rfl (hb hby at_43) rfl kz_) ?_
    show OwnGoes p e below _ (s₁.setTop (mkF m 44 #[.val (.int p1), .val (.int (4 : Int32)), .unset, .unset] [(.int (4 : Int32))]))
    refine own_pre (fun _ kz_ => XS.iconst X0.here hx rfl (hb hby at_44) kz_) ?_
    show OwnGoes p e below _ (s₁.setTop (mkF m 45 #[.val (.int p1), .val (.int (4 : Int32)), .unset, .unset] [(.int (3 : Int32)), (.int (4 : Int32))]))
    refine own_pre (fun _ kz_ => XS.icmpYes X0.here hx rfl (pc0 := 45) (pc' := 55) rfl (hb hby at_45) rfl (feq (by decide : ¬ ((4 : Int32) = (3 : Int32)))).2 (by decide) (by decide) kz_) ?_
    show OwnGoes p e below _ (s₁.setTop (mkF m 55 #[.val (.int p1), .val (.int (4 : Int32)), .unset, .unset] []))
    refine own_pre (fun _ kz_ => XS.iloadN X0.here hx rfl (hb hby at_55) rfl kz_) ?_
    show OwnGoes p e below _ (s₁.setTop (mkF m 56 #[.val (.int p1), .val (.int (4 : Int32)), .unset, .unset] [(.int (4 : Int32))]))
    refine own_pre (fun _ kz_ => XS.iconst X0.here hx rfl (hb hby at_56) kz_) ?_
    show OwnGoes p e below _ (s₁.setTop (mkF m 57 #[.val (.int p1), .val (.int (4 : Int32)), .unset, .unset] [(.int (4 : Int32)), (.int (4 : Int32))]))
    refine own_pre (fun _ kz_ => XS.icmpNo X0.here hx rfl (hb hby at_57) rfl (teq (by decide : (4 : Int32) = (4 : Int32))).2 kz_) ?_
    show OwnGoes p e below _ (s₁.setTop (mkF m 60 #[.val (.int p1), .val (.int (4 : Int32)), .unset, .unset] []))
    obtain ⟨T9, X9, e9, st9⟩ := getS2 X0 hx hZ hown (host := "") (Or.inl (hw _ (List.mem_of_getElem? (i := 18) rfl))) Via.refl e0 S4 (g := (mkF m 60 #[.val (.int p1), .val (.int (4 : Int32)), .unset, .unset] [])) rfl (hb hby at_60)
    refine own_pre st9 ?_
    show OwnGoes p e below _ (T9.setTop (mkF m 63 #[.val (.int p1), .val (.int (4 : Int32)), .unset, .unset] [(.ref u4)]))
    refine own_pre (fun _ kz_ => XS.astoreN X9.here hx rfl (hb hby at_63) rfl rfl (l' := #[.val (.int p1), .val (.int (4 : Int32)), .val (.ref u4), .unset]) rfl kz_) ?_
    show OwnGoes p e below _ (T9.setTop (mkF m 64 #[.val (.int p1), .val (.int (4 : Int32)), .val (.ref u4), .unset] []))
    refine own_pre (fun _ kz_ => XS.goto X9.here hx rfl (pc0 := 64) (pc' := 71) rfl (hb hby at_64) (by decide) (by decide) kz_) ?_
    show OwnGoes p e below _ (T9.setTop (mkF m 71 #[.val (.int p1), .val (.int (4 : Int32)), .val (.ref u4), .unset] []))
    refine own_pre (fun _ kz_ => XS.iloadN X9.here hx rfl (hb hby at_71) rfl kz_) ?_
    show OwnGoes p e below _ (T9.setTop (mkF m 72 #[.val (.int p1), .val (.int (4 : Int32)), .val (.ref u4), .unset] [(.int (4 : Int32))]))
    refine own_pre (fun _ kz_ => XS.iconst X9.here hx rfl (hb hby at_72) kz_) ?_
    show OwnGoes p e below _ (T9.setTop (mkF m 73 #[.val (.int p1), .val (.int (4 : Int32)), .val (.ref u4), .unset] [(.int (5 : Int32)), (.int (4 : Int32))]))
    refine own_pre (fun _ kz_ => XS.icmpYes X9.here hx rfl (pc0 := 73) (pc' := 80) rfl (hb hby at_73) rfl (feq (by decide : ¬ ((4 : Int32) = (5 : Int32)))).2 (by decide) (by decide) kz_) ?_
    show OwnGoes p e below _ (T9.setTop (mkF m 80 #[.val (.int p1), .val (.int (4 : Int32)), .val (.ref u4), .unset] []))
    refine own_pre (fun _ kz_ => XS.iconst X9.here hx rfl (hb hby at_80) kz_) ?_
    show OwnGoes p e below _ (T9.setTop (mkF m 81 #[.val (.int p1), .val (.int (4 : Int32)), .val (.ref u4), .unset] [(.int (0 : Int32))]))
    refine own_pre (fun _ kz_ => XS.istoreN X9.here hx rfl (hb hby at_81) rfl (l' := #[.val (.int p1), .val (.int (4 : Int32)), .val (.ref u4), .val (.int (0 : Int32))]) rfl kz_) ?_
    show OwnGoes p e below _ (T9.setTop (mkF m 82 #[.val (.int p1), .val (.int (4 : Int32)), .val (.ref u4), .val (.int (0 : Int32))] []))
    refine own_pre (fun _ kz_ => XS.aloadN X9.here hx rfl (hb hby at_82) rfl rfl kz_) ?_
    show OwnGoes p e below _ (T9.setTop (mkF m 83 #[.val (.int p1), .val (.int (4 : Int32)), .val (.ref u4), .val (.int (0 : Int32))] [(.ref u4)]))
    obtain ⟨cq10, kq10, q10a, q10b, q10c⟩ := isOf hZ e9 E4
    obtain ⟨_, _, ⟨T10, L10, k10, n10⟩, -, X10, ⟨Lc10, hQ10, l10, y10, z10⟩, st10⟩ := X9.virtualBack hx (y := (⟨"com/example/haversack/haversack/BagItVersion", "percentEncodesPaths", "()Z"⟩ : MethodName)) (z := (⟨"com/example/haversack/haversack/BagItVersion", "percentEncodesPaths", "()Z"⟩ : MethodName)) hown (mvT hZ (hw _ (List.mem_of_getElem? (i := 4) rfl))) (mvT hZ (hw _ (List.mem_of_getElem? (i := 5) rfl))) (notFace_of_selects (args := #[]) (mvT hZ (hw _ (List.mem_of_getElem? (i := 7) rfl)))) (mvT hZ (hw _ (List.mem_of_getElem? (i := 7) rfl))) (mvT hZ (hw _ (List.mem_of_getElem? (i := 6) rfl))) (by decide) (backOf (W := 0) (rm1 l Z a0 hw [] u4 u5 (0 : Int32) h0 n0 Z0 S5 (if_neg ne4).symm) hZ (hw _ (List.mem_of_getElem? (i := 8) rfl)) (hw _ (List.mem_of_getElem? (i := 2) rfl)) (by decide) (by decide)) q10a q10c (g := (mkF m 83 #[.val (.int p1), .val (.int (4 : Int32)), .val (.ref u4), .val (.int (0 : Int32))] [(.ref u4)])) rfl (by rw [hml]; rfl) (Steps.refl _) (argsL := []) (rest := []) (lenOf (d := "()Z") (ps := []) (r := some .boolean) (by decide +kernel) rfl) rfl (by show 2 * 0 + _ ≤ _; exact Nat.le_of_eq rfl) (hb hby at_83) (fun _ _ => ⟨rfl, e9, (by decide : 0 + 0 ≤ _), (by decide : 0 + 0 ≤ _)⟩)
    dsimp only [Pt.U, Pt.locs, Pt.cells, Pt.slots] at X10 l10 y10 z10 st10 hQ10
    subst l10 y10 z10
    obtain ⟨rfl, N10q, e10⟩ := hQ10
    have N10 := Fr.app N0 N10q
    refine own_tr st10 ?_
    show OwnGoes p e below _ (T10.setTop (mkF m 86 #[.val (.int p1), .val (.int (4 : Int32)), .val (.ref u4), .val (.int (0 : Int32))] [(.int (0 : Int32))]))
    refine own_pre (fun _ kz_ => XS.iloadN X10.here hx rfl (hb hby at_86) rfl kz_) ?_
    show OwnGoes p e below _ (T10.setTop (mkF m 87 #[.val (.int p1), .val (.int (4 : Int32)), .val (.ref u4), .val (.int (0 : Int32))] [(.int (0 : Int32)), (.int (0 : Int32))]))
    refine own_pre (fun _ kz_ => XS.icmpNo X10.here hx rfl (hb hby at_87) rfl (teq (by decide : (0 : Int32) = (0 : Int32))).2 kz_) ?_
    show OwnGoes p e below _ (T10.setTop (mkF m 90 #[.val (.int p1), .val (.int (4 : Int32)), .val (.ref u4), .val (.int (0 : Int32))] []))
    refine own_pre (fun _ kz_ => XS.iconst X10.here hx rfl (hb hby at_90) kz_) ?_
    show OwnGoes p e below _ (T10.setTop (mkF m 91 #[.val (.int p1), .val (.int (4 : Int32)), .val (.ref u4), .val (.int (0 : Int32))] [(.int (1 : Int32))]))
    refine own_pre (fun _ kz_ => XS.goto X10.here hx rfl (pc0 := 91) (pc' := 95) rfl (hb hby at_91) (by decide) (by decide) kz_) ?_
    show OwnGoes p e below _ (T10.setTop (mkF m 95 #[.val (.int p1), .val (.int (4 : Int32)), .val (.ref u4), .val (.int (0 : Int32))] [(.int (1 : Int32))]))
    exact own_ret X10 hx Bd.returns (rfl) (Or.inl ⟨rfl, by simp, _, rfl⟩) Bd.notSynchronized (hb hby at_95) ⟨rfl, N10⟩ (by decide) (by decide)
  · rw [hk]
    show OwnGoes p e below _ (s₁.setTop (mkF m 7 #[.val (.int p1), .unset, .unset, .unset] [(.int (5 : Int32))]))
    refine own_pre (fun _ kz_ => XS.istoreN X0.here hx rfl (hb hby at_7) rfl (l' := #[.val (.int p1), .val (.int (5 : Int32)), .unset, .unset]) rfl kz_) ?_
    show OwnGoes p e below _ (s₁.setTop (mkF m 8 #[.val (.int p1), .val (.int (5 : Int32)), .unset, .unset] []))
    refine own_pre (fun _ kz_ => XS.iloadN X0.here hx rfl (hb hby at_8) rfl kz_) ?_
    show OwnGoes p e below _ (s₁.setTop (mkF m 9 #[.val (.int p1), .val (.int (5 : Int32)), .unset, .unset] [(.int (5 : Int32))]))
    refine own_pre (fun _ kz_ => XS.ifYes X0.here hx rfl (pc0 := 9) (pc' := 19) rfl (hb hby at_9) rfl ((if0 _ _).trans (feq (by decide : ¬ ((5 : Int32) = (0 : Int32)))).2) (by decide) (by decide) kz_) ?_
    show OwnGoes p e below _ (s₁.setTop (mkF m 19 #[.val (.int p1), .val (.int (5 : Int32)), .unset, .unset] []))
    refine own_pre (fun _ kz_ => XS.iloadN X0.here hx rfl (hb hby at_19) rfl kz_) ?_
    show OwnGoes p e below _ (s₁.setTop (mkF m 20 #[.val (.int p1), .val (.int (5 : Int32)), .unset, .unset] [(.int (5 : Int32))]))
    refine own_pre (fun _ kz_ => XS.iconst X0.here hx rfl (hb hby at_20) kz_) ?_
    show OwnGoes p e below _ (s₁.setTop (mkF m 21 #[.val (.int p1), .val (.int (5 : Int32)), .unset, .unset] [(.int (1 : Int32)), (.int (5 : Int32))]))
    refine own_pre (fun _ kz_ => XS.icmpYes X0.here hx rfl (pc0 := 21) (pc' := 31) rfl (hb hby at_21) rfl (feq (by decide : ¬ ((5 : Int32) = (1 : Int32)))).2 (by decide) (by decide) kz_) ?_
    show OwnGoes p e below _ (s₁.setTop (mkF m 31 #[.val (.int p1), .val (.int (5 : Int32)), .unset, .unset] []))
    refine own_pre (fun _ kz_ => XS.iloadN X0.here hx rfl (hb hby at_31) rfl kz_) ?_
    show OwnGoes p e below _ (s₁.setTop (mkF m 32 #[.val (.int p1), .val (.int (5 : Int32)), .unset, .unset] [(.int (5 : Int32))]))
    refine own_pre (fun _ kz_ => XS.iconst X0.here hx rfl (hb hby at_32) kz_) ?_
    show OwnGoes p e below _ (s₁.setTop (mkF m 33 #[.val (.int p1), .val (.int (5 : Int32)), .unset, .unset] [(.int (2 : Int32)), (.int (5 : Int32))]))
    refine own_pre (fun _ kz_ => XS.icmpYes X0.here hx rfl (pc0 := 33) (pc' := 43) rfl (hb hby at_33) rfl (feq (by decide : ¬ ((5 : Int32) = (2 : Int32)))).2 (by decide) (by decide) kz_) ?_
    show OwnGoes p e below _ (s₁.setTop (mkF m 43 #[.val (.int p1), .val (.int (5 : Int32)), .unset, .unset] []))
    refine own_pre (fun _ kz_ => XS.iloadN X0.here hx rfl (hb hby at_43) rfl kz_) ?_
    show OwnGoes p e below _ (s₁.setTop (mkF m 44 #[.val (.int p1), .val (.int (5 : Int32)), .unset, .unset] [(.int (5 : Int32))]))
    refine own_pre (fun _ kz_ => XS.iconst X0.here hx rfl (hb hby at_44) kz_) ?_
    show OwnGoes p e below _ (s₁.setTop (mkF m 45 #[.val (.int p1), .val (.int (5 : Int32)), .unset, .unset] [(.int (3 : Int32)), (.int (5 : Int32))]))
    refine own_pre (fun _ kz_ => XS.icmpYes X0.here hx rfl (pc0 := 45) (pc' := 55) rfl (hb hby at_45) rfl (feq (by decide : ¬ ((5 : Int32) = (3 : Int32)))).2 (by decide) (by decide) kz_) ?_
    show OwnGoes p e below _ (s₁.setTop (mkF m 55 #[.val (.int p1), .val (.int (5 : Int32)), .unset, .unset] []))
    refine own_pre (fun _ kz_ => XS.iloadN X0.here hx rfl (hb hby at_55) rfl kz_) ?_
    show OwnGoes p e below _ (s₁.setTop (mkF m 56 #[.val (.int p1), .val (.int (5 : Int32)), .unset, .unset] [(.int (5 : Int32))]))
    refine own_pre (fun _ kz_ => XS.iconst X0.here hx rfl (hb hby at_56) kz_) ?_
    show OwnGoes p e below _ (s₁.setTop (mkF m 57 #[.val (.int p1), .val (.int (5 : Int32)), .unset, .unset] [(.int (4 : Int32)), (.int (5 : Int32))]))
    refine own_pre (fun _ kz_ => XS.icmpYes X0.here hx rfl (pc0 := 57) (pc' := 67) rfl (hb hby at_57) rfl (feq (by decide : ¬ ((5 : Int32) = (4 : Int32)))).2 (by decide) (by decide) kz_) ?_
    show OwnGoes p e below _ (s₁.setTop (mkF m 67 #[.val (.int p1), .val (.int (5 : Int32)), .unset, .unset] []))
    obtain ⟨T11, X11, e11, st11⟩ := getS2 X0 hx hZ hown (host := "") (Or.inl (hw _ (List.mem_of_getElem? (i := 17) rfl))) Via.refl e0 S5 (g := (mkF m 67 #[.val (.int p1), .val (.int (5 : Int32)), .unset, .unset] [])) rfl (hb hby at_67)
    refine own_pre st11 ?_
    show OwnGoes p e below _ (T11.setTop (mkF m 70 #[.val (.int p1), .val (.int (5 : Int32)), .unset, .unset] [(.ref u5)]))
    refine own_pre (fun _ kz_ => XS.astoreN X11.here hx rfl (hb hby at_70) rfl rfl (l' := #[.val (.int p1), .val (.int (5 : Int32)), .val (.ref u5), .unset]) rfl kz_) ?_
    show OwnGoes p e below _ (T11.setTop (mkF m 71 #[.val (.int p1), .val (.int (5 : Int32)), .val (.ref u5), .unset] []))
    refine own_pre (fun _ kz_ => XS.iloadN X11.here hx rfl (hb hby at_71) rfl kz_) ?_
    show OwnGoes p e below _ (T11.setTop (mkF m 72 #[.val (.int p1), .val (.int (5 : Int32)), .val (.ref u5), .unset] [(.int (5 : Int32))]))
    refine own_pre (fun _ kz_ => XS.iconst X11.here hx rfl (hb hby at_72) kz_) ?_
    show OwnGoes p e below _ (T11.setTop (mkF m 73 #[.val (.int p1), .val (.int (5 : Int32)), .val (.ref u5), .unset] [(.int (5 : Int32)), (.int (5 : Int32))]))
    refine own_pre (fun _ kz_ => XS.icmpNo X11.here hx rfl (hb hby at_73) rfl (teq (by decide : (5 : Int32) = (5 : Int32))).2 kz_) ?_
    show OwnGoes p e below _ (T11.setTop (mkF m 76 #[.val (.int p1), .val (.int (5 : Int32)), .val (.ref u5), .unset] []))
    refine own_pre (fun _ kz_ => XS.iconst X11.here hx rfl (hb hby at_76) kz_) ?_
    show OwnGoes p e below _ (T11.setTop (mkF m 77 #[.val (.int p1), .val (.int (5 : Int32)), .val (.ref u5), .unset] [(.int (1 : Int32))]))
    refine own_pre (fun _ kz_ => XS.goto X11.here hx rfl (pc0 := 77) (pc' := 81) rfl (hb hby at_77) (by decide) (by decide) kz_) ?_
    show OwnGoes p e below _ (T11.setTop (mkF m 81 #[.val (.int p1), .val (.int (5 : Int32)), .val (.ref u5), .unset] [(.int (1 : Int32))]))
    refine own_pre (fun _ kz_ => XS.istoreN X11.here hx rfl (hb hby at_81) rfl (l' := #[.val (.int p1), .val (.int (5 : Int32)), .val (.ref u5), .val (.int (1 : Int32))]) rfl kz_) ?_
    show OwnGoes p e below _ (T11.setTop (mkF m 82 #[.val (.int p1), .val (.int (5 : Int32)), .val (.ref u5), .val (.int (1 : Int32))] []))
    refine own_pre (fun _ kz_ => XS.aloadN X11.here hx rfl (hb hby at_82) rfl rfl kz_) ?_
    show OwnGoes p e below _ (T11.setTop (mkF m 83 #[.val (.int p1), .val (.int (5 : Int32)), .val (.ref u5), .val (.int (1 : Int32))] [(.ref u5)]))
    obtain ⟨cq12, kq12, q12a, q12b, q12c⟩ := isOf hZ e11 E5
    obtain ⟨_, _, ⟨T12, L12, k12, n12⟩, -, X12, ⟨Lc12, hQ12, l12, y12, z12⟩, st12⟩ := X11.virtualBack hx (y := (⟨"com/example/haversack/haversack/BagItVersion", "percentEncodesPaths", "()Z"⟩ : MethodName)) (z := (⟨"com/example/haversack/haversack/BagItVersion", "percentEncodesPaths", "()Z"⟩ : MethodName)) hown (mvT hZ (hw _ (List.mem_of_getElem? (i := 4) rfl))) (mvT hZ (hw _ (List.mem_of_getElem? (i := 5) rfl))) (notFace_of_selects (args := #[]) (mvT hZ (hw _ (List.mem_of_getElem? (i := 7) rfl)))) (mvT hZ (hw _ (List.mem_of_getElem? (i := 7) rfl))) (mvT hZ (hw _ (List.mem_of_getElem? (i := 6) rfl))) (by decide) (backOf (W := 0) (rm1 l Z a0 hw [] u5 u5 (1 : Int32) h0 n0 Z0 S5 (if_pos rfl).symm) hZ (hw _ (List.mem_of_getElem? (i := 8) rfl)) (hw _ (List.mem_of_getElem? (i := 2) rfl)) (by decide) (by decide)) q12a q12c (g := (mkF m 83 #[.val (.int p1), .val (.int (5 : Int32)), .val (.ref u5), .val (.int (1 : Int32))] [(.ref u5)])) rfl (by rw [hml]; rfl) (Steps.refl _) (argsL := []) (rest := []) (lenOf (d := "()Z") (ps := []) (r := some .boolean) (by decide +kernel) rfl) rfl (by show 2 * 0 + _ ≤ _; exact Nat.le_of_eq rfl) (hb hby at_83) (fun _ _ => ⟨rfl, e11, (by decide : 0 + 0 ≤ _), (by decide : 0 + 0 ≤ _)⟩)
    dsimp only [Pt.U, Pt.locs, Pt.cells, Pt.slots] at X12 l12 y12 z12 st12 hQ12
    subst l12 y12 z12
    obtain ⟨rfl, N12q, e12⟩ := hQ12
    have N12 := Fr.app N0 N12q
    refine own_tr st12 ?_
    show OwnGoes p e below _ (T12.setTop (mkF m 86 #[.val (.int p1), .val (.int (5 : Int32)), .val (.ref u5), .val (.int (1 : Int32))] [(.int (1 : Int32))]))
    refine own_pre (fun _ kz_ => XS.iloadN X12.here hx rfl (hb hby at_86) rfl kz_) ?_
    show OwnGoes p e below _ (T12.setTop (mkF m 87 #[.val (.int p1), .val (.int (5 : Int32)), .val (.ref u5), .val (.int (1 : Int32))] [(.int (1 : Int32)), (.int (1 : Int32))]))
    refine own_pre (fun _ kz_ => XS.icmpNo X12.here hx rfl (hb hby at_87) rfl (teq (by decide : (1 : Int32) = (1 : Int32))).2 kz_) ?_
    show OwnGoes p e below _ (T12.setTop (mkF m 90 #[.val (.int p1), .val (.int (5 : Int32)), .val (.ref u5), .val (.int (1 : Int32))] []))
    refine own_pre (fun _ kz_ => XS.iconst X12.here hx rfl (hb hby at_90) kz_) ?_
    show OwnGoes p e below _ (T12.setTop (mkF m 91 #[.val (.int p1), .val (.int (5 : Int32)), .val (.ref u5), .val (.int (1 : Int32))] [(.int (1 : Int32))]))
    refine own_pre (fun _ kz_ => XS.goto X12.here hx rfl (pc0 := 91) (pc' := 95) rfl (hb hby at_91) (by decide) (by decide) kz_) ?_
    show OwnGoes p e below _ (T12.setTop (mkF m 95 #[.val (.int p1), .val (.int (5 : Int32)), .val (.ref u5), .val (.int (1 : Int32))] [(.int (1 : Int32))]))
    exact own_ret X12 hx Bd.returns (rfl) (Or.inl ⟨rfl, by simp, _, rfl⟩) Bd.notSynchronized (hb hby at_95) ⟨rfl, N12⟩ (by decide) (by decide)
set_option maxRecDepth 65536 in
set_option maxHeartbeats 40000000 in
theorem comes_1 {Post : Tables → Env → Array Value → State → Outcome → State → Prop} (hpost : ∀ tb e args s v u, (limb_1_1.after args s (.returned v) u = true ∧ limb_1_2.after args s (.returned v) u = true ∧ True) → FrameEnd s (.returned v) u (Jvm.fieldLocs frame_1_writes args s ++ Jvm.arrayLocs frame_1_arrays args s ++ Jvm.staticLocs frame_1_statics s) 0 0 → Post tb e args s (.returned v) u) :
    ArmFor flags0 classFile x code maxLocals ret World_1 tables_1 room_1 Calls_1 rest_1 Pre_1 Post := by
  intro l hfl _ _ p e ha hc hk s m args below hf hA hF happ hP
  obtain ⟨hcalls, hrest, hpre⟩ := hP
  obtain ⟨-, -, -, hnamed, -, -, -, hat⟩ := (Spec.applies_iff hf).mp happ
  obtain ⟨hg, hn⟩ := and_e (Cond.before_iff.mp (show (Jvm.Cond.and given_1 narrow_1).before args s = true from hpre))
  obtain ⟨hcount, hgs⟩ := and_e hg
  have ha0 := hgs
  obtain ⟨w0, rfl⟩ : ∃ w0 : Value, args = #[w0] := by
    have hs : args.size = 1 := by simpa [Cond.value, given_1] using hcount
    obtain ⟨L⟩ := args
    match L, hs with
    | [w0], _ => exact ⟨w0, rfl⟩
  have hw := fun d (hd : d ∈ tables_1) => atoms_spec (ws := Jvm.Cond.code x code maxLocals ret :: tables_1) hat d (List.mem_cons_of_mem _ hd)
  have hfit : Fit s := fun {y c} hc i hi => by
    obtain ⟨ha, rfl⟩ := Array.getElem?_eq_some_iff.mp hc
    have q := List.all_eq_true.mp ((Array.all_eq_true_iff_forall_mem.mp hF) _ (Array.getElem_mem ha)) i (List.mem_range.mpr hi)
    simpa [Array.getElem?_eq_getElem hi] using q
  obtain ⟨i0, ei0⟩ := is_v ha0
  obtain rfl : w0 = (.int i0) := Option.some.inj ei0
  obtain ⟨m0, hn0⟩ := and_e hn
  obtain ⟨m1, hn1⟩ := and_e hn0
  obtain ⟨m2, hn2⟩ := and_e hn1
  obtain ⟨m3, hn3⟩ := and_e hn2
  obtain ⟨m4, hn4⟩ := and_e hn3
  obtain ⟨m5, hn5⟩ := and_e hn4
  obtain ⟨m6, hn6⟩ := and_e hn5
  obtain ⟨m7, hn7⟩ := and_e hn6
  obtain ⟨m8, hn8⟩ := and_e hn7
  obtain ⟨m9, hn9⟩ := and_e hn8
  obtain ⟨m10, hn10⟩ := and_e hn9
  have m11 := hn10
  obtain ⟨u0, S0, E0, o0⟩ := own_enum m0 m2 (hw _ (List.mem_of_getElem? (i := 2) rfl)) (hw _ (List.mem_of_getElem? (i := 3) rfl))
  obtain ⟨u1, S1, E1, o1⟩ := own_enum m8 m9 (hw _ (List.mem_of_getElem? (i := 2) rfl)) (hw _ (List.mem_of_getElem? (i := 16) rfl))
  obtain ⟨u2, S2, E2, o2⟩ := own_enum m6 m7 (hw _ (List.mem_of_getElem? (i := 2) rfl)) (hw _ (List.mem_of_getElem? (i := 14) rfl))
  obtain ⟨u3, S3, E3, o3⟩ := own_enum m4 m5 (hw _ (List.mem_of_getElem? (i := 2) rfl)) (hw _ (List.mem_of_getElem? (i := 12) rfl))
  obtain ⟨u4, S4, E4, o4⟩ := own_enum m10 m11 (hw _ (List.mem_of_getElem? (i := 2) rfl)) (hw _ (List.mem_of_getElem? (i := 19) rfl))
  obtain ⟨u5, S5, E5, o5⟩ := own_enum m1 m3 (hw _ (List.mem_of_getElem? (i := 2) rfl)) (hw _ (List.mem_of_getElem? (i := 10) rfl))
  obtain ⟨n, o, h1, h2, h3, _, L, rfl, ⟨rfl, N⟩, hq⟩ := rm0 l s _ hw tables_1 i0 u0 u1 u2 u3 u4 u5 s.heap s.heap.size (Nat.le_refl _) S0 S1 S2 S3 S4 S5 E0 E1 E2 E3 E4 E5 (own_ne o0 o5 (by decide)) (own_ne o1 o5 (by decide)) (own_ne o2 o5 (by decide)) (own_ne o3 o5 (by decide)) (own_ne o4 o5 (by decide)) p e ha hc hk s m _ below hf ((Spec.applies_iff_loose hf).mp happ).1 ⟨rfl, State.Warmed39.refl s, rfl⟩ trivial
  refine ⟨n, _, h1, h2, h3, hpost _ _ _ _ _ _ ⟨Cond.after_iff.mpr rfl, Cond.after_iff.mpr (eq_i res_at (Term.int_eval (1)) rfl), trivial⟩ ⟨hq.1, hq.2.1, (hq.2.2.sift fun y hy => Or.inr (N y hy)).mono (by decide) (by decide)⟩⟩
theorem main_1_1 : Claimed_1_1 := comes_1 fun _ _ _ _ _ _ h hF => ⟨h.1, hF⟩
theorem main_1_2 : Claimed_1_2 := comes_1 fun _ _ _ _ _ _ h hF => ⟨h.2.1, hF⟩
end Jvm.Pilot.@@N@@
namespace Jvm.Pilot.@@N@@
open Jvm Jvm.ClassFile Sem Op Lib Jvm.Free Jvm.Stand Jvm.Pilot.@@N@@.Jvm.D
/-! MADE BY PROGRAM (witnessworld.py) out of the Statement's table words and the real class files: 12 classes; the members and pool entries that the words name. The judged class is class 1, her method 1. -/
namespace start1
open Jvm.ClassFile
def u (s : String) : CpInfo := .utf8 (stringToUtf16 s)
/-- a pool by its gaps: so many unusable entries, then the entry; so many at the end -/
def gap : Nat → List CpInfo → List CpInfo
  | 0, r => r
  | n + 1, r => .unusable :: gap n r
def poolList (es : List (Nat × CpInfo)) (last : Nat) : List CpInfo := es.foldr (fun e r => gap e.1 (e.2 :: r)) (gap last [])
def pool (es : List (Nat × CpInfo)) (last : Nat) : Array CpInfo := ⟨poolList es last⟩
def fileOf (pool : Array CpInfo) (this : Nat) (attrs : Array Attribute := #[]) (ms : Array MethodInfo := #[]) (fl : Nat := 33) (sup : Nat := 0) (ifs : Array Nat := #[]) (fds : Array FieldInfo := #[]) : ClassFile where
  minorVersion := 0
  majorVersion := 65
  constantPool := pool
  accessFlags := fl
  thisClass := this
  superClass := sup
  interfaces := ifs
  fields := fds
  methods := ms
  attributes := attrs
def plain (name : String) (sup : Option ClassId) : Class where
  name := name
  kind := .ordinary
  loader := none
  accessFlags := 33
  super := sup
  interfaces := #[]
  cf := none
  fields := #[]
  methods := #[]
  instanceTypes := #[]
  staticTypes := #[]
  resolved := #[]
  callSites := []
  init := .initialized
  statics := none
  mirror := none

def pool0 : Array CpInfo := pool [(5, u "<init>"), (0, u "()V"), (1, .class_ 10), (1, u "java/lang/Object")] 113

def k0m0 : Method := { name := "<init>", desc := "()V", sig := { parameters := [], returnType := none }, accessFlags := 1, code := none }
/-- java/lang/Object -/
def k0 : Class := { plain "java/lang/Object" none with
  accessFlags := 33
  interfaces := #[]
  cf := some (fileOf pool0 8 #[] #[{ accessFlags := 1, nameIndex := 5, descriptorIndex := 6, attributes := #[] }] 33 0 #[] #[])
  fields := #[]
  methods := #[k0m0]
  instanceTypes := #[]
  staticTypes := #[]
  resolved := Array.replicate 124 none
  statics := none }

def pool1 : Array CpInfo := pool [(2, .class_ 4), (1, u "java/lang/Object"), (0, u "<init>"), (0, u "()V"), (0, .integer 2147483647), (0, .fieldref 9 10), (0, .class_ 11), (0, .nameAndType 12 13), (0, u "com/example/haversack/haversack/BagItVersion"), (0, u "V0_93"), (0, u "Lcom/example/haversack/haversack/BagItVersion;"), (0, .fieldref 9 15), (0, .nameAndType 16 13), (0, u "V0_94"), (0, .fieldref 9 18), (0, .nameAndType 19 13), (0, u "V0_95"), (0, .fieldref 9 21), (0, .nameAndType 22 13), (0, u "V0_96"), (0, .fieldref 9 24), (0, .nameAndType 25 13), (0, u "V0_97"), (0, .fieldref 9 27), (0, .nameAndType 28 13), (0, u "V1_0"), (0, .methodref 9 30), (0, .nameAndType 31 32), (0, u "percentEncodesPaths"), (0, u "()Z"), (0, .class_ 34), (0, u "com/example/haversack/haversack/BagItVersionPercentEncodesPathsPinLaw"), (2, u "law"), (0, u "(I)Z")] 3

def k1m0 : Method := { name := "<init>", desc := "()V", sig := { parameters := [], returnType := none }, accessFlags := 2, code := none }
def k1c1 : Code := { maxStack := 2, maxLocals := 4, code := code, exceptionTable := #[], attributes := #[] }
def k1m1 : Method := { name := "law", desc := "(I)Z", sig := { parameters := [.int], returnType := some .boolean }, accessFlags := 9, code := some k1c1 }
/-- com/example/haversack/haversack/BagItVersionPercentEncodesPathsPinLaw -/
def k1 : Class := { plain "com/example/haversack/haversack/BagItVersionPercentEncodesPathsPinLaw" (some 0) with
  accessFlags := 49
  interfaces := #[]
  cf := some (fileOf pool1 33 #[] #[{ accessFlags := 2, nameIndex := 5, descriptorIndex := 6, attributes := #[] }, { accessFlags := 9, nameIndex := 37, descriptorIndex := 38, attributes := #[] }] 49 2 #[] #[])
  fields := #[]
  methods := #[k1m0, k1m1]
  instanceTypes := #[]
  staticTypes := #[]
  resolved := Array.replicate 42 none
  statics := none }

def pool2 : Array CpInfo := pool [(1, .class_ 2), (0, u "java/lang/constant/Constable"), (0, .class_ 4), (0, u "java/lang/Object")] 6

/-- java/lang/constant/Constable -/
def k2 : Class := { plain "java/lang/constant/Constable" (some 0) with
  accessFlags := 1537
  interfaces := #[]
  cf := some (fileOf pool2 1 #[] #[] 1537 3 #[] #[])
  fields := #[]
  methods := #[]
  instanceTypes := #[]
  staticTypes := #[]
  resolved := Array.replicate 11 none
  statics := none }

def pool3 : Array CpInfo := pool [(1, .class_ 2), (0, u "java/lang/Comparable"), (0, .class_ 4), (0, u "java/lang/Object")] 7

/-- java/lang/Comparable -/
def k3 : Class := { plain "java/lang/Comparable" (some 0) with
  accessFlags := 1537
  interfaces := #[]
  cf := some (fileOf pool3 1 #[] #[] 1537 3 #[] #[])
  fields := #[]
  methods := #[]
  instanceTypes := #[]
  staticTypes := #[]
  resolved := Array.replicate 12 none
  statics := none }

def pool4 : Array CpInfo := pool [(1, .class_ 2), (0, u "java/io/Serializable"), (0, .class_ 4), (0, u "java/lang/Object")] 2

/-- java/io/Serializable -/
def k4 : Class := { plain "java/io/Serializable" (some 0) with
  accessFlags := 1537
  interfaces := #[]
  cf := some (fileOf pool4 1 #[] #[] 1537 3 #[] #[])
  fields := #[]
  methods := #[]
  instanceTypes := #[]
  staticTypes := #[]
  resolved := Array.replicate 7 none
  statics := none }

def pool5 : Array CpInfo := pool [(2, .class_ 4), (1, u "java/lang/Enum"), (0, u "name"), (0, u "Ljava/lang/String;"), (2, u "ordinal"), (0, u "I"), (1, .class_ 14), (1, u "java/lang/Object"), (4, u "hash"), (86, .class_ 108), (1, u "java/lang/Enum$EnumDesc"), (2, .class_ 112), (0, u "java/lang/constant/Constable"), (0, .class_ 114), (0, u "java/lang/Comparable"), (0, .class_ 116), (0, u "java/io/Serializable")] 87

/-- java/lang/Enum -/
def k5 : Class := { plain "java/lang/Enum" (some 0) with
  accessFlags := 1057
  interfaces := #[2, 3, 4]
  cf := some (fileOf pool5 2 #[.nestMembers #[106]] #[] 1057 12 #[111, 113, 115] #[{ accessFlags := 18, nameIndex := 5, descriptorIndex := 6, attributes := #[] }, { accessFlags := 18, nameIndex := 9, descriptorIndex := 10, attributes := #[] }, { accessFlags := 2, nameIndex := 19, descriptorIndex := 10, attributes := #[] }])
  fields := #[{ name := "name", type := (.object "java/lang/String"), accessFlags := 18, slot := 0, constantValue := 0 }, { name := "ordinal", type := .int, accessFlags := 18, slot := 1, constantValue := 0 }, { name := "hash", type := .int, accessFlags := 2, slot := 2, constantValue := 0 }]
  methods := #[]
  instanceTypes := #[(.object "java/lang/String"), .int, .int]
  staticTypes := #[]
  resolved := Array.replicate 204 none
  statics := none }

def pool6 : Array CpInfo := pool [(1, .class_ 2), (0, u "com/example/haversack/haversack/BagItVersion"), (2, u "V0_93"), (0, u "Lcom/example/haversack/haversack/BagItVersion;"), (2, u "V0_94"), (2, u "V0_95"), (2, u "V0_96"), (2, u "V0_97"), (0, .fieldref 1 20), (0, .nameAndType 21 6), (0, u "V1_0"), (2, u "$VALUES"), (0, u "[Lcom/example/haversack/haversack/BagItVersion;"), (6, .class_ 34), (1, u "java/lang/Enum"), (8, u "number"), (0, u "Ljava/lang/String;"), (70, u "NEWEST"), (13, u "percentEncodesPaths"), (0, u "()Z")] 7

def k6c0 : Code := { maxStack := 2, maxLocals := 1, code := prog_12_method_8_code, exceptionTable := #[], attributes := #[] }
def k6m0 : Method := { name := "percentEncodesPaths", desc := "()Z", sig := { parameters := [], returnType := some .boolean }, accessFlags := 0, code := some k6c0 }
/-- com/example/haversack/haversack/BagItVersion -/
def k6 : Class := { plain "com/example/haversack/haversack/BagItVersion" (some 5) with
  accessFlags := 16432
  interfaces := #[]
  cf := some (fileOf pool6 1 #[] #[{ accessFlags := 0, nameIndex := 129, descriptorIndex := 130, attributes := #[] }] 16432 32 #[] #[{ accessFlags := 16409, nameIndex := 5, descriptorIndex := 6, attributes := #[] }, { accessFlags := 16409, nameIndex := 9, descriptorIndex := 6, attributes := #[] }, { accessFlags := 16409, nameIndex := 12, descriptorIndex := 6, attributes := #[] }, { accessFlags := 16409, nameIndex := 15, descriptorIndex := 6, attributes := #[] }, { accessFlags := 16409, nameIndex := 18, descriptorIndex := 6, attributes := #[] }, { accessFlags := 16409, nameIndex := 21, descriptorIndex := 6, attributes := #[] }, { accessFlags := 24, nameIndex := 115, descriptorIndex := 6, attributes := #[] }, { accessFlags := 18, nameIndex := 43, descriptorIndex := 44, attributes := #[] }, { accessFlags := 4122, nameIndex := 24, descriptorIndex := 25, attributes := #[] }])
  fields := #[{ name := "V0_93", type := (.object "com/example/haversack/haversack/BagItVersion"), accessFlags := 16409, slot := 0, constantValue := 0 }, { name := "V0_94", type := (.object "com/example/haversack/haversack/BagItVersion"), accessFlags := 16409, slot := 1, constantValue := 0 }, { name := "V0_95", type := (.object "com/example/haversack/haversack/BagItVersion"), accessFlags := 16409, slot := 2, constantValue := 0 }, { name := "V0_96", type := (.object "com/example/haversack/haversack/BagItVersion"), accessFlags := 16409, slot := 3, constantValue := 0 }, { name := "V0_97", type := (.object "com/example/haversack/haversack/BagItVersion"), accessFlags := 16409, slot := 4, constantValue := 0 }, { name := "V1_0", type := (.object "com/example/haversack/haversack/BagItVersion"), accessFlags := 16409, slot := 5, constantValue := 0 }, { name := "NEWEST", type := (.object "com/example/haversack/haversack/BagItVersion"), accessFlags := 24, slot := 6, constantValue := 0 }, { name := "number", type := (.object "java/lang/String"), accessFlags := 18, slot := 3, constantValue := 0 }, { name := "$VALUES", type := (.array (.object "com/example/haversack/haversack/BagItVersion")), accessFlags := 4122, slot := 7, constantValue := 0 }]
  methods := #[k6m0]
  instanceTypes := #[(.object "java/lang/String"), .int, .int, (.object "java/lang/String")]
  staticTypes := #[(.object "com/example/haversack/haversack/BagItVersion"), (.object "com/example/haversack/haversack/BagItVersion"), (.object "com/example/haversack/haversack/BagItVersion"), (.object "com/example/haversack/haversack/BagItVersion"), (.object "com/example/haversack/haversack/BagItVersion"), (.object "com/example/haversack/haversack/BagItVersion"), (.object "com/example/haversack/haversack/BagItVersion"), (.array (.object "com/example/haversack/haversack/BagItVersion"))]
  resolved := Array.replicate 138 none
  statics := some 0 }

def pool7 : Array CpInfo := pool [(1, u "java/lang/Cloneable"), (0, .class_ 1), (0, u "java/lang/Object"), (0, .class_ 3)] 3

/-- java/lang/Cloneable -/
def k7 : Class := { plain "java/lang/Cloneable" (some 0) with
  accessFlags := 1537
  interfaces := #[]
  cf := some (fileOf pool7 2 #[] #[] 1537 4 #[] #[])
  fields := #[]
  methods := #[]
  instanceTypes := #[]
  staticTypes := #[]
  resolved := Array.replicate 8 none
  statics := none }

/-- the primitive byte -/
def k8 : Class := { plain "byte" none with kind := .primitive 'B', accessFlags := 0x411 }
/-- [B -/
def k9 : Class := { plain "[B" (some 0) with kind := .array 8 .byte, interfaces := #[7, 4], accessFlags := 1041 }

/-- the primitive int -/
def k10 : Class := { plain "int" none with kind := .primitive 'I', accessFlags := 0x411 }
/-- [I -/
def k11 : Class := { plain "[I" (some 0) with kind := .array 10 .int, interfaces := #[7, 4], accessFlags := 1041 }

def heap : Heap := #[{ cls := 6, slots := #[.ref 1, .ref 2, .ref 3, .ref 4, .ref 5, .ref 6, .null, .null], vm := .statics 6 },
  { cls := 6, slots := #[.null, .int 0, .int 0, .null], vm := .none },
  { cls := 6, slots := #[.null, .int 1, .int 0, .null], vm := .none },
  { cls := 6, slots := #[.null, .int 2, .int 0, .null], vm := .none },
  { cls := 6, slots := #[.null, .int 3, .int 0, .null], vm := .none },
  { cls := 6, slots := #[.null, .int 4, .int 0, .null], vm := .none },
  { cls := 6, slots := #[.null, .int 5, .int 0, .null], vm := .none }]
def classes : Array Class := #[k0, k1, k2, k3, k4, k5, k6, k7, k8, k9, k10, k11]
def interned : List (Array UInt16 × Addr) := []
def slotsUsed : Nat := 32
def theMethod : MethodId := ⟨1, 1⟩
def args0 : Array Value := #[.int 5]
def aboutOver (below : List Frame) : State where
  vm := { classes := classes, interned := interned.toArray }
  heap := heap
  slotsUsed := slotsUsed
  threads := #[{ frames := .invoking theMethod args0 :: below }]
def below0 : List Frame := [.native { method := ⟨0, 0⟩, args := #[] }]
def about1 : State := aboutOver below0
def p0 : Program := .bare "" "" ""
def e0 : Env := launch0.env 0 0 0
theorem w_frames : about1.frames = Frame.invoking theMethod args0 :: below0 := rfl
set_option maxRecDepth 65536 in
theorem w_args : argsFit about1.vm theMethod args0 = true := by decide +kernel
set_option maxRecDepth 65536 in
theorem w_heap : heapFits about1 = true := by decide +kernel
set_option maxRecDepth 65536 in
theorem w_runnable : about1.curStatus? = some .runnable := by decide +kernel
set_option maxRecDepth 65536 in
theorem w_alone : about1.alone = true := by decide +kernel
set_option maxRecDepth 65536 in
theorem w_named : about1.methodNamed? x = some theMethod := by decide +kernel
set_option maxRecDepth 65536 in
theorem w_hears : about1.hears theMethod below0 = true := by decide +kernel
set_option maxRecDepth 65536 in
theorem w_ripe : about1.ripe theMethod args0 below0 = true := by decide +kernel
theorem w_running : about1.status = .running := rfl
set_option maxRecDepth 65536 in
theorem w_room : about1.hasRoom e0.platform room_1 = true :=
  launch0.hasRoom_least _ room_1 (by decide +kernel) (by decide +kernel) (by decide +kernel) (by decide +kernel) (by decide +kernel) (by decide +kernel)
theorem allAtoms_all (ts : List Jvm.Cond) (a : Array Jvm.Value) (st : Jvm.State) : (allAtoms ts).before a st = ts.all (fun c => c.before a st) := by
  induction ts with
  | nil => rfl
  | cons c t ih =>
    show (Jvm.Cond.and c (allAtoms t)).before a st = _
    rw [Jvm.Cond.before_and, ih, List.all_cons]
def words1 : List Jvm.Cond := Jvm.Cond.code x code maxLocals ret :: tables_1
/-- a 'code' word, met by the world's own term for the bytes: nothing is compared byte by byte -/
theorem code_word {y : MethodName} {bytes : ByteArray} {mx : Nat} {rt : Option FieldType} {a : Array Value} {s : State} {m : MethodId} {meth : Method} {c : Code} (h1 : s.methodNamed? y = some m) (h2 : s.vm.method? m = some meth) (h3 : meth.code = some c) (h4 : c.code = bytes)
    (h5 : (c.maxLocals == mx && c.exceptionTable.isEmpty && decide (c.maxStack ≤ mostOperands) && decide (meth.sig.returnType = rt) && !meth.locks && decide (parseMethodDescriptor y.desc = some meth.sig)) = true) : (Jvm.Cond.code y bytes mx rt).before a s = true := by
  simp only [Bool.and_eq_true, beq_iff_eq, Bool.not_eq_true', decide_eq_true_eq] at h5
  obtain ⟨⟨⟨⟨⟨g1, g2⟩, g3⟩, g4⟩, g5⟩, g6⟩ := h5
  simp [Cond.before, Cond.holds, Cond.value, h1, h2, h3, h4, g1, g2, g3, g4, g5, g6]
def isCode : Jvm.Cond → Bool
  | .code _ _ _ _ => true
  | _ => false
theorem all_split {L : List Jvm.Cond} {P : Jvm.Cond → Bool} (h1 : L.all (fun c => isCode c || P c) = true) (h2 : ∀ c ∈ L.filter isCode, P c = true) : L.all P = true := by
  refine List.all_eq_true.mpr fun c hc => ?_
  have h := List.all_eq_true.mp h1 c hc
  rcases Bool.eq_false_or_eq_true (isCode c) with hi | hi
  · exact h2 c (List.mem_filter.mpr ⟨hc, hi⟩)
  · simpa [hi] using h
set_option maxRecDepth 65536 in
theorem w_c0 : (Jvm.Cond.code x code maxLocals ret).before args0 about1 = true := code_word (m := ⟨1, 1⟩) (meth := k1m1) (c := k1c1) (by decide +kernel) rfl rfl rfl (by decide +kernel)
set_option maxRecDepth 65536 in
theorem w_c1 : (Jvm.Cond.code ({ cls := "com/example/haversack/haversack/BagItVersion", name := "percentEncodesPaths", desc := "()Z" } : Jvm.MethodName) prog_12_method_8_code (1 : Nat) (Option.some Jvm.ClassFile.FieldType.boolean)).before args0 about1 = true := code_word (m := ⟨6, 0⟩) (meth := k6m0) (c := k6c0) (by decide +kernel) rfl rfl rfl (by decide +kernel)
def codes1 : List Jvm.Cond := [Jvm.Cond.code x code maxLocals ret, Jvm.Cond.code ({ cls := "com/example/haversack/haversack/BagItVersion", name := "percentEncodesPaths", desc := "()Z" } : Jvm.MethodName) prog_12_method_8_code (1 : Nat) (Option.some Jvm.ClassFile.FieldType.boolean)]
set_option maxRecDepth 65536 in
theorem codes_eq : words1.filter isCode = codes1 := rfl
theorem w_codes : ∀ c ∈ words1.filter isCode, c.before args0 about1 = true := by
  rw [codes_eq]
  intro c hc
  simp only [codes1, List.mem_cons, List.not_mem_nil, or_false] at hc
  rcases hc with rfl | rfl
  · exact w_c0
  · exact w_c1
set_option maxRecDepth 65536 in
theorem w_t1 : words1.all (fun c => isCode c || c.before args0 about1) = true := by decide +kernel
theorem w_tables : (allAtoms (Jvm.Cond.code x code maxLocals ret :: tables_1)).before args0 about1 = true := by
  rw [allAtoms_all]
  show words1.all (fun c => c.before args0 about1) = true
  refine all_split ?_ w_codes
  rw [w_t1]
set_option maxRecDepth 65536 in
theorem w_case : (Jvm.Cond.and given_1 narrow_1).before args0 about1 = true := by decide +kernel
theorem w_applies : (headSpec (Jvm.Cond.code x code maxLocals ret :: tables_1) room_1).applies x e0.platform about1 = true :=
  (Spec.applies_iff w_frames).mpr ⟨w_running, w_runnable, w_alone, w_named, w_hears, w_ripe, w_room, w_tables⟩
theorem atStart : AtStart classFile x code maxLocals ret World_1 tables_1 room_1 Calls_1 rest_1 Pre_1 launch0 p0 e0 about1 theMethod args0 below0 :=
  ⟨lists_1, trivial, launch0.admits_env _ _ _, launch0.least_env, fairChoices_fair.cas, fairChoices_fair.clock, w_frames, w_args, w_heap, w_applies, trivial, trivial, w_case⟩
end start1
theorem witness_1 : WitnessClaimed_1 := ⟨start1.p0, start1.e0, start1.about1, start1.theMethod, start1.args0, start1.below0, start1.atStart⟩
end Jvm.Pilot.@@N@@

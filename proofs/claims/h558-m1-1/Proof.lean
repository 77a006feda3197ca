import JvmDerived
import JvmDerived.Pilot.@@N@@Statement
import JvmDerived.Pilot.@@N@@Code
set_option linter.unusedVariables false
set_option linter.unusedSimpArgs false
namespace Jvm.Pilot.@@N@@
open Jvm Jvm.ClassFile Sem Op Lib Jvm.Free Jvm.Stand Jvm.LawKit Jvm.RoadKit Bundle Jvm.Pilot.@@N@@.Jvm.D
/-! the walk in continuation style: 'from U the run comes to an end of which P holds' -/
def OwnGoes (p : Program) (e : Env) (below : List Frame) (P : Outcome → State → Prop) (U : State) : Prop := ∃ s₂ o, Steps p.tables e below U s₂ ∧ s₂.status = .running ∧ Ended s₂ below o ∧ P o s₂
theorem own_pre {p : Program} {e : Env} {below : List Frame} {P : Outcome → State → Prop} {U U' : State} (h : ∀ t, Steps p.tables e below U' t → Steps p.tables e below U t) (k : OwnGoes p e below P U') : OwnGoes p e below P U := by
  obtain ⟨s₂, o, h1, h2⟩ := k
  exact ⟨s₂, o, h _ h1, h2⟩
theorem own_tr {p : Program} {e : Env} {below : List Frame} {P : Outcome → State → Prop} {U U' : State} (h : Steps p.tables e below U U') (k : OwnGoes p e below P U') : OwnGoes p e below P U := own_pre (fun _ q => h.trans q) k
theorem own_ret {p : Program} {l : Launch} {e : Env} {R : Room} {s : State} {m : MethodId} {args : Array Value} {below : List Frame} {meth : Method} {c : Code} {T : State} {locs : List Loc} {cells slots : Nat}
    (X : Stand p l e R s m args below meth c T locs cells slots) (hx : p.tables.exec = Jvm.exec) {pc : Nat} {Ls : Array Slot} {w : Value} {t : FieldType} {i : Instr} {rest : List Value} (hret : meth.sig.returnType = some t) (hn : narrow t w = w)
    (hi : (i = .ireturn ∧ (t = .int ∨ t = .boolean ∨ t = .byte ∨ t = .char ∨ t = .short) ∧ ∃ z, w = .int z) ∨ (i = .lreturn ∧ t = .long ∧ ∃ z, w = .long z) ∨ (i = .dreturn ∧ t = .double ∧ ∃ z, w = .double z) ∨ (i = .freturn ∧ t = .float ∧ ∃ z, w = .float z) ∨ (i = .areturn ∧ t.isReference = true ∧ w.isRef = true))
    (hlocks : meth.locks = false) (hd : decode c.code pc = .ok (i, 1)) {Qh : Option Value → Heap → List Loc → Prop} {rc rs : Nat} (hQ : Qh (some w) T.heap locs) (hc : cells ≤ rc) (hs : slots ≤ rs) :
    OwnGoes p e below (fun o U' => ∃ v L, o = .returned v ∧ Qh v U'.heap L ∧ FrameEnd s o U' L rc rs) (T.setTop (mkF m pc Ls (w :: rest))) := by
  obtain ⟨fs, hr, hrun, hended, hW, hsame⟩ := X.leave (v := some w) (fun h => by rw [hret] at h; cases h) hlocks
  exact ⟨_, _, retOut X hx hret hn hi hd hr, hrun, hended, _, _, rfl, hQ, ⟨_, rfl⟩, hW, hsame.mono hc hs⟩
theorem own_retV {p : Program} {l : Launch} {e : Env} {R : Room} {s : State} {m : MethodId} {args : Array Value} {below : List Frame} {meth : Method} {c : Code} {T : State} {locs : List Loc} {cells slots : Nat}
    (X : Stand p l e R s m args below meth c T locs cells slots) (hx : p.tables.exec = Jvm.exec) {pc : Nat} {Ls : Array Slot} (hret : meth.sig.returnType = none) (hlocks : meth.locks = false) (hd : decode c.code pc = .ok (.return_, 1)) {Qh : Option Value → Heap → List Loc → Prop} {rc rs : Nat} (hQ : Qh none T.heap locs) (hc : cells ≤ rc) (hs : slots ≤ rs) :
    OwnGoes p e below (fun o U' => ∃ v L, o = .returned v ∧ Qh v U'.heap L ∧ FrameEnd s o U' L rc rs) (T.setTop (mkF m pc Ls [])) := by
  obtain ⟨fs, hr, hrun, hended, hW, hsame⟩ := X.leave (v := none) (fun _ => rfl) hlocks
  exact ⟨_, _, X.returnOut hx hret hd hr, hrun, hended, _, _, rfl, hQ, ⟨_, rfl⟩, hW, hsame.mono hc hs⟩

theorem own_enum {args : Array Value} {s : State} {C f d : String} {k : Int32} (hx : (Jvm.Cond.exactly (Term.static C f d) C).value args s none s [] = some true)
    (ho : (Jvm.Cond.eq (Term.field (Term.static C f d) "java/lang/Enum" "ordinal" "I") (Term.int k)).value args s none s [] = some true)
    (hi : (Jvm.Cond.initialized C).before args s = true) (hl : (Jvm.Cond.laysStatic C f d).before args s = true) :
    ∃ a, Sta s s.heap C f d (.ref a) ∧ Exa s s.heap a C ∧ s.fieldOf? a "java/lang/Enum" "ordinal" "I" = some (.int k) := by
  obtain ⟨a, ev⟩ := exa_v hx
  refine ⟨a, Sta.start ev (Or.inr ⟨hi, hl⟩), Exa.start ev hx, ?_⟩
  have e := eqv_i (Term.int_eval k) ho
  rw [fld_at ev] at e
  exact e
theorem own_ne {s : State} {a b : Addr} {k k' : Int32} (h : s.fieldOf? a "java/lang/Enum" "ordinal" "I" = some (.int k)) (h' : s.fieldOf? b "java/lang/Enum" "ordinal" "I" = some (.int k')) (hk : ¬ k = k') : ¬ a = b := fun e => by
  subst e
  rw [h] at h'
  exact hk (by injection h' with q; injection q)


theorem own_mod (x : Int32) : (x &&& 2147483647) % (6 : Int32) = (0 : Int32) ∨ (x &&& 2147483647) % (6 : Int32) = (1 : Int32) ∨ (x &&& 2147483647) % (6 : Int32) = (2 : Int32) ∨ (x &&& 2147483647) % (6 : Int32) = (3 : Int32) ∨ (x &&& 2147483647) % (6 : Int32) = (4 : Int32) ∨ (x &&& 2147483647) % (6 : Int32) = (5 : Int32) := by
  have h1 := c_mask x 2147483647 31 (by decide) (by decide)
  have h2 := (c_irem (x &&& 2147483647) (6 : Int32) 6 (by decide)).1 (by rw [h1]; omega)
  have h3 : ((x &&& 2147483647) % (6 : Int32)).toInt = 0 ∨ ((x &&& 2147483647) % (6 : Int32)).toInt = 1 ∨ ((x &&& 2147483647) % (6 : Int32)).toInt = 2 ∨ ((x &&& 2147483647) % (6 : Int32)).toInt = 3 ∨ ((x &&& 2147483647) % (6 : Int32)).toInt = 4 ∨ ((x &&& 2147483647) % (6 : Int32)).toInt = 5 := by omega
  rcases h3 with h | h | h | h | h | h
  · exact Or.inl (Int32.toInt_inj.mp h)
  · exact Or.inr (Or.inl (Int32.toInt_inj.mp h))
  · exact Or.inr (Or.inr (Or.inl (Int32.toInt_inj.mp h)))
  · exact Or.inr (Or.inr (Or.inr (Or.inl (Int32.toInt_inj.mp h))))
  · exact Or.inr (Or.inr (Or.inr (Or.inr (Or.inl (Int32.toInt_inj.mp h)))))
  · exact Or.inr (Or.inr (Or.inr (Or.inr (Or.inr ((Int32.toInt_inj.mp h))))))

theorem d1_0 : decode method_2_code 0 = .ok (.iload_n 0, 1) := by decide +kernel
theorem d1_1 : decode method_2_code 1 = .ok (.ifCond .ne 7, 3) := by decide +kernel
theorem d1_4 : decode method_2_code 4 = .ok (.getstatic 7, 3) := by decide +kernel
theorem d1_7 : decode method_2_code 7 = .ok (.areturn, 1) := by decide +kernel
theorem d1_8 : decode method_2_code 8 = .ok (.iload_n 0, 1) := by decide +kernel
theorem d1_9 : decode method_2_code 9 = .ok (.iconst 1, 1) := by decide +kernel
theorem d1_10 : decode method_2_code 10 = .ok (.if_icmp .ne 7, 3) := by decide +kernel
theorem d1_13 : decode method_2_code 13 = .ok (.getstatic 13, 3) := by decide +kernel
theorem d1_16 : decode method_2_code 16 = .ok (.areturn, 1) := by decide +kernel
theorem d1_17 : decode method_2_code 17 = .ok (.iload_n 0, 1) := by decide +kernel
theorem d1_18 : decode method_2_code 18 = .ok (.iconst 2, 1) := by decide +kernel
theorem d1_19 : decode method_2_code 19 = .ok (.if_icmp .ne 7, 3) := by decide +kernel
theorem d1_22 : decode method_2_code 22 = .ok (.getstatic 16, 3) := by decide +kernel
theorem d1_25 : decode method_2_code 25 = .ok (.areturn, 1) := by decide +kernel
theorem d1_26 : decode method_2_code 26 = .ok (.iload_n 0, 1) := by decide +kernel
theorem d1_27 : decode method_2_code 27 = .ok (.iconst 3, 1) := by decide +kernel
theorem d1_28 : decode method_2_code 28 = .ok (.if_icmp .ne 7, 3) := by decide +kernel
theorem d1_31 : decode method_2_code 31 = .ok (.getstatic 19, 3) := by decide +kernel
theorem d1_34 : decode method_2_code 34 = .ok (.areturn, 1) := by decide +kernel
theorem d1_35 : decode method_2_code 35 = .ok (.iload_n 0, 1) := by decide +kernel
theorem d1_36 : decode method_2_code 36 = .ok (.iconst 4, 1) := by decide +kernel
theorem d1_37 : decode method_2_code 37 = .ok (.if_icmp .ne 7, 3) := by decide +kernel
theorem d1_40 : decode method_2_code 40 = .ok (.getstatic 22, 3) := by decide +kernel
theorem d1_43 : decode method_2_code 43 = .ok (.areturn, 1) := by decide +kernel
theorem d1_44 : decode method_2_code 44 = .ok (.getstatic 25, 3) := by decide +kernel
theorem d1_47 : decode method_2_code 47 = .ok (.areturn, 1) := by decide +kernel
theorem d2_0 : decode prog_12_method_10_code 0 = .ok (.aload_n 0, 1) := by decide +kernel
theorem d2_1 : decode prog_12_method_10_code 1 = .ok (.getstatic 19, 3) := by decide +kernel
theorem d2_4 : decode prog_12_method_10_code 4 = .ok (.if_acmp .eq 7, 3) := by decide +kernel
theorem d2_7 : decode prog_12_method_10_code 7 = .ok (.iconst 1, 1) := by decide +kernel
theorem d2_8 : decode prog_12_method_10_code 8 = .ok (.goto 4, 3) := by decide +kernel
theorem d2_11 : decode prog_12_method_10_code 11 = .ok (.iconst 0, 1) := by decide +kernel
theorem d2_12 : decode prog_12_method_10_code 12 = .ok (.ireturn, 1) := by decide +kernel
def QP (r : Addr) (h0 : Heap) (n0 : Nat) (v : Option Value) (h : Heap) (L : List Loc) : Prop := v = some (.ref r) ∧ Fr n0 L ∧ h = h0
def Q1 (r : Int32) (h0 : Heap) (n0 : Nat) (v : Option Value) (h : Heap) (L : List Loc) : Prop := v = some (.int r) ∧ Fr n0 L ∧ h = h0
def Q0  (h0 : Heap) (n0 : Nat) (v : Option Value) (h : Heap) (L : List Loc) : Prop := v = some (.int (1 : Int32)) ∧ Fr n0 L
set_option maxRecDepth 65536 in
set_option maxHeartbeats 40000000 in
theorem rmP (l : Launch) (Z : State) (a0 : Array Value) (hw : ∀ d ∈ tables_1, d.before a0 Z = true) (ws : List Jvm.Cond) (k : Int32) (u0 u1 u2 u3 u4 u5 : Addr) (r : Addr) (h0 : Heap) (n0 : Nat) (Z0 : n0 ≤ h0.size) (S0 : Sta Z h0 "com/example/haversack/haversack/BagItVersion" "V0_93" "Lcom/example/haversack/haversack/BagItVersion;" (.ref u0)) (S1 : Sta Z h0 "com/example/haversack/haversack/BagItVersion" "V0_94" "Lcom/example/haversack/haversack/BagItVersion;" (.ref u1)) (S2 : Sta Z h0 "com/example/haversack/haversack/BagItVersion" "V0_95" "Lcom/example/haversack/haversack/BagItVersion;" (.ref u2)) (S3 : Sta Z h0 "com/example/haversack/haversack/BagItVersion" "V0_96" "Lcom/example/haversack/haversack/BagItVersion;" (.ref u3)) (S4 : Sta Z h0 "com/example/haversack/haversack/BagItVersion" "V0_97" "Lcom/example/haversack/haversack/BagItVersion;" (.ref u4)) (S5 : Sta Z h0 "com/example/haversack/haversack/BagItVersion" "V1_0" "Lcom/example/haversack/haversack/BagItVersion;" (.ref u5)) (hr : r = if k = 0 then u0 else if k = 1 then u1 else if k = 2 then u2 else if k = 3 then u3 else if k = 4 then u4 else u5) :
    MetFree l (⟨"com/example/haversack/haversack/BagItVersionAllowsSpaceAroundColonPinLaw", "pick", "(I)Lcom/example/haversack/haversack/BagItVersion;"⟩ : MethodName) (head1 (Jvm.Cond.code (⟨"com/example/haversack/haversack/BagItVersionAllowsSpaceAroundColonPinLaw", "pick", "(I)Lcom/example/haversack/haversack/BagItVersion;"⟩ : MethodName) method_2_code 1 (some (.object "com/example/haversack/haversack/BagItVersion")) :: ws) ({ frames := 0, cells := 0, slots := 0, locals := 0 } : Room)) (fun a U => a = #[(.int k)] ∧ Z.Warmed39 U.vm ∧ U.heap = h0) (fun _ _ _ _ _ => True) (fun _ U o U' => ∃ v L, o = .returned v ∧ QP r h0 n0 v U'.heap L ∧ FrameEnd U o U' L ({ frames := 0, cells := 0, slots := 0, locals := 0 } : Room).cells ({ frames := 0, cells := 0, slots := 0, locals := 0 } : Room).slots) := by
  refine MetFree.of_bodySF (plainFor_of_name (by first | (simp [plainName, overriddenIn]; done) | decide +kernel)) hisR ?_
  intro p e s m args below meth c s₁ Bd hml0 hP hK
  obtain ⟨rfl, hZ, hh⟩ := hP
  have hx := Bd.exec
  have hby := Bd.bytes
  have hml : c.maxLocals = 1 := hml0
  have hown : s.vm.findClass "com/example/haversack/haversack/BagItVersionAllowsSpaceAroundColonPinLaw" = some m.cls := findClass_of_methodNamed Bd.named
  have hnm := (name_of_methodNamed Bd.named Bd.method).1
  have X0 : Stand p l e ({ frames := 0, cells := 0, slots := 0, locals := 0 } : Room) s m #[(.int k)] below meth c s₁ [] 0 0 := Stand.of_body Bd
  have e0 : s₁.heap = h0 := by rw [← hh, Bd.state]; rfl
  have N0 := Fr.nil n0
  have ef : entryFrame m #[(.int k)] 1 = (mkF m 0 #[.val (.int k)] []) := by first | (simp [entryFrame, mkF, argsToLocals, Value.category]; done) | rfl
  show OwnGoes p e below (fun o U' => ∃ v L, o = .returned v ∧ QP r h0 n0 v U'.heap L ∧ FrameEnd s o U' L ({ frames := 0, cells := 0, slots := 0, locals := 0 } : Room).cells ({ frames := 0, cells := 0, slots := 0, locals := 0 } : Room).slots) (s₁.setTop (entryFrame m #[(.int k)] 1))
  refine own_pre (fun t k => castTop ef k) ?_
  show OwnGoes p e below _ (s₁.setTop (mkF m 0 #[.val (.int k)] []))
  refine own_pre (fun _ kz_ => XS.iloadN X0.here hx rfl (hb hby d1_0) rfl kz_) ?_
  show OwnGoes p e below _ (s₁.setTop (mkF m 1 #[.val (.int k)] [(.int k)]))
  by_cases h1 : k = (0 : Int32)
  · refine own_pre (fun _ kz_ => XS.ifNo X0.here hx rfl (hb hby d1_1) rfl ((if0 _ _).trans (teq h1).2) kz_) ?_
    show OwnGoes p e below _ (s₁.setTop (mkF m 4 #[.val (.int k)] []))
    obtain ⟨T1, X1, e1, st1⟩ := getS2 X0 hx hZ hown (host := "") (Or.inl (hw _ (List.mem_of_getElem? (i := 5) rfl))) Via.refl e0 S0 (g := (mkF m 4 #[.val (.int k)] [])) rfl (hb hby d1_4)
    refine own_pre st1 ?_
    show OwnGoes p e below _ (T1.setTop (mkF m 7 #[.val (.int k)] [(.ref u0)]))
    exact own_ret X1 hx Bd.returns (rfl) (Or.inr (Or.inr (Or.inr (Or.inr ⟨rfl, rfl, rfl⟩)))) Bd.notSynchronized (hb hby d1_7) ⟨by rw [hr]; simp [*], N0, e1⟩ (by decide) (by decide)
  · refine own_pre (fun _ kz_ => XS.ifYes X0.here hx rfl (pc0 := 1) (pc' := 8) rfl (hb hby d1_1) rfl ((if0 _ _).trans (feq h1).2) (by decide) (by decide) kz_) ?_
    show OwnGoes p e below _ (s₁.setTop (mkF m 8 #[.val (.int k)] []))
    refine own_pre (fun _ kz_ => XS.iloadN X0.here hx rfl (hb hby d1_8) rfl kz_) ?_
    show OwnGoes p e below _ (s₁.setTop (mkF m 9 #[.val (.int k)] [(.int k)]))
    refine own_pre (fun _ kz_ => XS.iconst X0.here hx rfl (hb hby d1_9) kz_) ?_
    show OwnGoes p e below _ (s₁.setTop (mkF m 10 #[.val (.int k)] [(.int (1 : Int32)), (.int k)]))
    by_cases h10 : k = (1 : Int32)
    · refine own_pre (fun _ kz_ => XS.icmpNo X0.here hx rfl (hb hby d1_10) rfl (teq h10).2 kz_) ?_
      show OwnGoes p e below _ (s₁.setTop (mkF m 13 #[.val (.int k)] []))
      obtain ⟨T2, X2, e2, st2⟩ := getS2 X0 hx hZ hown (host := "") (Or.inl (hw _ (List.mem_of_getElem? (i := 19) rfl))) Via.refl e0 S1 (g := (mkF m 13 #[.val (.int k)] [])) rfl (hb hby d1_13)
      refine own_pre st2 ?_
      show OwnGoes p e below _ (T2.setTop (mkF m 16 #[.val (.int k)] [(.ref u1)]))
      exact own_ret X2 hx Bd.returns (rfl) (Or.inr (Or.inr (Or.inr (Or.inr ⟨rfl, rfl, rfl⟩)))) Bd.notSynchronized (hb hby d1_16) ⟨by rw [hr]; simp [*], N0, e2⟩ (by decide) (by decide)
    · refine own_pre (fun _ kz_ => XS.icmpYes X0.here hx rfl (pc0 := 10) (pc' := 17) rfl (hb hby d1_10) rfl (feq h10).2 (by decide) (by decide) kz_) ?_
      show OwnGoes p e below _ (s₁.setTop (mkF m 17 #[.val (.int k)] []))
      refine own_pre (fun _ kz_ => XS.iloadN X0.here hx rfl (hb hby d1_17) rfl kz_) ?_
      show OwnGoes p e below _ (s₁.setTop (mkF m 18 #[.val (.int k)] [(.int k)]))
      refine own_pre (fun _ kz_ => XS.iconst X0.here hx rfl (hb hby d1_18) kz_) ?_
      show OwnGoes p e below _ (s₁.setTop (mkF m 19 #[.val (.int k)] [(.int (2 : Int32)), (.int k)]))
      by_cases h19 : k = (2 : Int32)
      · refine own_pre (fun _ kz_ => XS.icmpNo X0.here hx rfl (hb hby d1_19) rfl (teq h19).2 kz_) ?_
        show OwnGoes p e below _ (s₁.setTop (mkF m 22 #[.val (.int k)] []))
        obtain ⟨T3, X3, e3, st3⟩ := getS2 X0 hx hZ hown (host := "") (Or.inl (hw _ (List.mem_of_getElem? (i := 17) rfl))) Via.refl e0 S2 (g := (mkF m 22 #[.val (.int k)] [])) rfl (hb hby d1_22)
        refine own_pre st3 ?_
        show OwnGoes p e below _ (T3.setTop (mkF m 25 #[.val (.int k)] [(.ref u2)]))
        exact own_ret X3 hx Bd.returns (rfl) (Or.inr (Or.inr (Or.inr (Or.inr ⟨rfl, rfl, rfl⟩)))) Bd.notSynchronized (hb hby d1_25) ⟨by rw [hr]; simp [*], N0, e3⟩ (by decide) (by decide)
      · refine own_pre (fun _ kz_ => XS.icmpYes X0.here hx rfl (pc0 := 19) (pc' := 26) rfl (hb hby d1_19) rfl (feq h19).2 (by decide) (by decide) kz_) ?_
        show OwnGoes p e below _ (s₁.setTop (mkF m 26 #[.val (.int k)] []))
        refine own_pre (fun _ kz_ => XS.iloadN X0.here hx rfl (hb hby d1_26) rfl kz_) ?_
        show OwnGoes p e below _ (s₁.setTop (mkF m 27 #[.val (.int k)] [(.int k)]))
        refine own_pre (fun _ kz_ => XS.iconst X0.here hx rfl (hb hby d1_27) kz_) ?_
        show OwnGoes p e below _ (s₁.setTop (mkF m 28 #[.val (.int k)] [(.int (3 : Int32)), (.int k)]))
        by_cases h28 : k = (3 : Int32)
        · refine own_pre (fun _ kz_ => XS.icmpNo X0.here hx rfl (hb hby d1_28) rfl (teq h28).2 kz_) ?_
          show OwnGoes p e below _ (s₁.setTop (mkF m 31 #[.val (.int k)] []))
          obtain ⟨T4, X4, e4, st4⟩ := getS2 X0 hx hZ hown (host := "") (Or.inl (hw _ (List.mem_of_getElem? (i := 15) rfl))) Via.refl e0 S3 (g := (mkF m 31 #[.val (.int k)] [])) rfl (hb hby d1_31)
          refine own_pre st4 ?_
          show OwnGoes p e below _ (T4.setTop (mkF m 34 #[.val (.int k)] [(.ref u3)]))
          exact own_ret X4 hx Bd.returns (rfl) (Or.inr (Or.inr (Or.inr (Or.inr ⟨rfl, rfl, rfl⟩)))) Bd.notSynchronized (hb hby d1_34) ⟨by rw [hr]; simp [*], N0, e4⟩ (by decide) (by decide)
        · refine own_pre (fun _ kz_ => XS.icmpYes X0.here hx rfl (pc0 := 28) (pc' := 35) rfl (hb hby d1_28) rfl (feq h28).2 (by decide) (by decide) kz_) ?_
          show OwnGoes p e below _ (s₁.setTop (mkF m 35 #[.val (.int k)] []))
          refine own_pre (fun _ kz_ => XS.iloadN X0.here hx rfl (hb hby d1_35) rfl kz_) ?_
          show OwnGoes p e below _ (s₁.setTop (mkF m 36 #[.val (.int k)] [(.int k)]))
          refine own_pre (fun _ kz_ => XS.iconst X0.here hx rfl (hb hby d1_36) kz_) ?_
          show OwnGoes p e below _ (s₁.setTop (mkF m 37 #[.val (.int k)] [(.int (4 : Int32)), (.int k)]))
          by_cases h37 : k = (4 : Int32)
          · refine own_pre (fun _ kz_ => XS.icmpNo X0.here hx rfl (hb hby d1_37) rfl (teq h37).2 kz_) ?_
            show OwnGoes p e below _ (s₁.setTop (mkF m 40 #[.val (.int k)] []))
            obtain ⟨T5, X5, e5, st5⟩ := getS2 X0 hx hZ hown (host := "") (Or.inl (hw _ (List.mem_of_getElem? (i := 22) rfl))) Via.refl e0 S4 (g := (mkF m 40 #[.val (.int k)] [])) rfl (hb hby d1_40)
            refine own_pre st5 ?_
            show OwnGoes p e below _ (T5.setTop (mkF m 43 #[.val (.int k)] [(.ref u4)]))
            exact own_ret X5 hx Bd.returns (rfl) (Or.inr (Or.inr (Or.inr (Or.inr ⟨rfl, rfl, rfl⟩)))) Bd.notSynchronized (hb hby d1_43) ⟨by rw [hr]; simp [*], N0, e5⟩ (by decide) (by decide)
          · refine own_pre (fun _ kz_ => XS.icmpYes X0.here hx rfl (pc0 := 37) (pc' := 44) rfl (hb hby d1_37) rfl (feq h37).2 (by decide) (by decide) kz_) ?_
            show OwnGoes p e below _ (s₁.setTop (mkF m 44 #[.val (.int k)] []))
            obtain ⟨T6, X6, e6, st6⟩ := getS2 X0 hx hZ hown (host := "") (Or.inl (hw _ (List.mem_of_getElem? (i := 21) rfl))) Via.refl e0 S5 (g := (mkF m 44 #[.val (.int k)] [])) rfl (hb hby d1_44)
            refine own_pre st6 ?_
            show OwnGoes p e below _ (T6.setTop (mkF m 47 #[.val (.int k)] [(.ref u5)]))
            exact own_ret X6 hx Bd.returns (rfl) (Or.inr (Or.inr (Or.inr (Or.inr ⟨rfl, rfl, rfl⟩)))) Bd.notSynchronized (hb hby d1_47) ⟨by rw [hr]; simp [*], N0, e6⟩ (by decide) (by decide)
set_option maxRecDepth 65536 in
set_option maxHeartbeats 40000000 in
theorem rm1 (l : Launch) (Z : State) (a0 : Array Value) (hw : ∀ d ∈ tables_1, d.before a0 Z = true) (ws : List Jvm.Cond) (b : Addr) (u5 : Addr) (r : Int32) (h0 : Heap) (n0 : Nat) (Z0 : n0 ≤ h0.size) (S5 : Sta Z h0 "com/example/haversack/haversack/BagItVersion" "V1_0" "Lcom/example/haversack/haversack/BagItVersion;" (.ref u5)) (hr : r = if b = u5 then (0 : Int32) else (1 : Int32)) :
    MetFree l (⟨"com/example/haversack/haversack/BagItVersion", "allowsSpaceAroundColon", "()Z"⟩ : MethodName) (head1 (Jvm.Cond.code (⟨"com/example/haversack/haversack/BagItVersion", "allowsSpaceAroundColon", "()Z"⟩ : MethodName) prog_12_method_10_code 1 (some .boolean) :: ws) ({ frames := 0, cells := 0, slots := 0, locals := 0 } : Room)) (fun a U => a = #[(.ref b)] ∧ Z.Warmed39 U.vm ∧ U.heap = h0) (fun _ _ _ _ _ => True) (fun _ U o U' => ∃ v L, o = .returned v ∧ Q1 r h0 n0 v U'.heap L ∧ FrameEnd U o U' L ({ frames := 0, cells := 0, slots := 0, locals := 0 } : Room).cells ({ frames := 0, cells := 0, slots := 0, locals := 0 } : Room).slots) := by
  refine MetFree.of_bodySF (plainFor_of_name (by first | (simp [plainName, overriddenIn]; done) | decide +kernel)) hisR ?_
  intro p e s m args below meth c s₁ Bd hml0 hP hK
  obtain ⟨rfl, hZ, hh⟩ := hP
  have hx := Bd.exec
  have hby := Bd.bytes
  have hml : c.maxLocals = 1 := hml0
  have hown : s.vm.findClass "com/example/haversack/haversack/BagItVersion" = some m.cls := findClass_of_methodNamed Bd.named
  have hnm := (name_of_methodNamed Bd.named Bd.method).1
  have X0 : Stand p l e ({ frames := 0, cells := 0, slots := 0, locals := 0 } : Room) s m #[(.ref b)] below meth c s₁ [] 0 0 := Stand.of_body Bd
  have e0 : s₁.heap = h0 := by rw [← hh, Bd.state]; rfl
  have N0 := Fr.nil n0
  have ef : entryFrame m #[(.ref b)] 1 = (mkF m 0 #[.val (.ref b)] []) := by first | (simp [entryFrame, mkF, argsToLocals, Value.category]; done) | rfl
  show OwnGoes p e below (fun o U' => ∃ v L, o = .returned v ∧ Q1 r h0 n0 v U'.heap L ∧ FrameEnd s o U' L ({ frames := 0, cells := 0, slots := 0, locals := 0 } : Room).cells ({ frames := 0, cells := 0, slots := 0, locals := 0 } : Room).slots) (s₁.setTop (entryFrame m #[(.ref b)] 1))
  refine own_pre (fun t k => castTop ef k) ?_
  show OwnGoes p e below _ (s₁.setTop (mkF m 0 #[.val (.ref b)] []))
  refine own_pre (fun _ kz_ => XS.aloadN X0.here hx rfl (hb hby d2_0) rfl rfl kz_) ?_
  show OwnGoes p e below _ (s₁.setTop (mkF m 1 #[.val (.ref b)] [(.ref b)]))
  obtain ⟨T1, X1, e1, st1⟩ := getS2 X0 hx hZ hown (host := "") (Or.inl (hw _ (List.mem_of_getElem? (i := 13) rfl))) Via.refl e0 S5 (g := (mkF m 1 #[.val (.ref b)] [(.ref b)])) rfl (hb hby d2_1)
  refine own_pre st1 ?_
  show OwnGoes p e below _ (T1.setTop (mkF m 4 #[.val (.ref b)] [(.ref u5), (.ref b)]))
  by_cases h4 : b = u5
  · refine own_pre (fun _ kz_ => Jvm.RoadKit.acmp (g := (mkF m 4 #[.val (.ref b)] [(.ref u5), (.ref b)])) X1 hx rfl rfl rfl (pc0 := 4) (pc' := 11) (same := true) rfl (hb hby d2_4) rfl (decide_eq_true (congrArg Value.ref h4)) (by decide) (by decide) kz_) ?_
    show OwnGoes p e below _ (T1.setTop (mkF m 11 #[.val (.ref b)] []))
    refine own_pre (fun _ kz_ => XS.iconst X1.here hx rfl (hb hby d2_11) kz_) ?_
    show OwnGoes p e below _ (T1.setTop (mkF m 12 #[.val (.ref b)] [(.int (0 : Int32))]))
    exact own_ret X1 hx Bd.returns (rfl) (Or.inl ⟨rfl, by simp, _, rfl⟩) Bd.notSynchronized (hb hby d2_12) ⟨by rw [hr, if_pos h4], N0, e1⟩ (by decide) (by decide)
  · refine own_pre (fun _ kz_ => Jvm.RoadKit.acmp (g := (mkF m 4 #[.val (.ref b)] [(.ref u5), (.ref b)])) X1 hx rfl rfl rfl (pc0 := 4) (pc' := 7) (same := false) rfl (hb hby d2_4) rfl (decide_eq_false fun q => h4 (Value.ref.inj q)) (by decide) (by decide) kz_) ?_
    show OwnGoes p e below _ (T1.setTop (mkF m 7 #[.val (.ref b)] []))
    refine own_pre (fun _ kz_ => XS.iconst X1.here hx rfl (hb hby d2_7) kz_) ?_
    show OwnGoes p e below _ (T1.setTop (mkF m 8 #[.val (.ref b)] [(.int (1 : Int32))]))
    refine own_pre (fun _ kz_ => XS.goto X1.here hx rfl (pc0 := 8) (pc' := 12) rfl (hb hby d2_8) (by decide) (by decide) kz_) ?_
    show OwnGoes p e below _ (T1.setTop (mkF m 12 #[.val (.ref b)] [(.int (1 : Int32))]))
    exact own_ret X1 hx Bd.returns (rfl) (Or.inl ⟨rfl, by simp, _, rfl⟩) Bd.notSynchronized (hb hby d2_12) ⟨by rw [hr, if_neg h4], N0, e1⟩ (by decide) (by decide)
set_option maxRecDepth 65536 in
set_option maxHeartbeats 40000000 in
theorem rm0 (l : Launch) (Z : State) (a0 : Array Value) (hw : ∀ d ∈ tables_1, d.before a0 Z = true) (ws : List Jvm.Cond) (p1 : Int32) (u0 u1 u2 u3 u4 u5 : Addr) (h0 : Heap) (n0 : Nat) (Z0 : n0 ≤ h0.size) (S0 : Sta Z h0 "com/example/haversack/haversack/BagItVersion" "V0_93" "Lcom/example/haversack/haversack/BagItVersion;" (.ref u0)) (S1 : Sta Z h0 "com/example/haversack/haversack/BagItVersion" "V0_94" "Lcom/example/haversack/haversack/BagItVersion;" (.ref u1)) (S2 : Sta Z h0 "com/example/haversack/haversack/BagItVersion" "V0_95" "Lcom/example/haversack/haversack/BagItVersion;" (.ref u2)) (S3 : Sta Z h0 "com/example/haversack/haversack/BagItVersion" "V0_96" "Lcom/example/haversack/haversack/BagItVersion;" (.ref u3)) (S4 : Sta Z h0 "com/example/haversack/haversack/BagItVersion" "V0_97" "Lcom/example/haversack/haversack/BagItVersion;" (.ref u4)) (S5 : Sta Z h0 "com/example/haversack/haversack/BagItVersion" "V1_0" "Lcom/example/haversack/haversack/BagItVersion;" (.ref u5)) (E0 : Exa Z h0 u0 "com/example/haversack/haversack/BagItVersion") (E1 : Exa Z h0 u1 "com/example/haversack/haversack/BagItVersion") (E2 : Exa Z h0 u2 "com/example/haversack/haversack/BagItVersion") (E3 : Exa Z h0 u3 "com/example/haversack/haversack/BagItVersion") (E4 : Exa Z h0 u4 "com/example/haversack/haversack/BagItVersion") (E5 : Exa Z h0 u5 "com/example/haversack/haversack/BagItVersion") (ne0 : ¬ u0 = u5) (ne1 : ¬ u1 = u5) (ne2 : ¬ u2 = u5) (ne3 : ¬ u3 = u5) (ne4 : ¬ u4 = u5) :
    MetFree l x (head1 (Jvm.Cond.code x code maxLocals ret :: ws) room_1) (fun a U => a = #[(.int p1)] ∧ Z.Warmed39 U.vm ∧ U.heap = h0) (fun _ _ _ _ _ => True) (fun _ U o U' => ∃ v L, o = .returned v ∧ Q0 h0 n0 v U'.heap L ∧ FrameEnd U o U' L room_1.cells room_1.slots) := by
  refine MetFree.of_bodySF (plainFor_of_name (by first | (simp [plainName, overriddenIn]; done) | decide +kernel)) hisR ?_
  intro p e s m args below meth c s₁ Bd hml0 hP hK
  obtain ⟨rfl, hZ, hh⟩ := hP
  have hx := Bd.exec
  have hby := Bd.bytes
  have hml : c.maxLocals = 4 := hml0
  have hown : s.vm.findClass "com/example/haversack/haversack/BagItVersionAllowsSpaceAroundColonPinLaw" = some m.cls := findClass_of_methodNamed Bd.named
  have hnm := (name_of_methodNamed Bd.named Bd.method).1
  have X0 : Stand p l e room_1 s m #[(.int p1)] below meth c s₁ [] 0 0 := Stand.of_body Bd
  have e0 : s₁.heap = h0 := by rw [← hh, Bd.state]; rfl
  have N0 := Fr.nil n0
  have ef : entryFrame m #[(.int p1)] maxLocals = (mkF m 0 #[.val (.int p1), .unset, .unset, .unset] []) := by first | (simp [entryFrame, mkF, argsToLocals, Value.category, maxLocals]; done) | rfl
  show OwnGoes p e below (fun o U' => ∃ v L, o = .returned v ∧ Q0 h0 n0 v U'.heap L ∧ FrameEnd s o U' L room_1.cells room_1.slots) (s₁.setTop (entryFrame m #[(.int p1)] maxLocals))
  refine own_pre (fun t k => castTop ef k) ?_
  show OwnGoes p e below _ (s₁.setTop (mkF m 0 #[.val (.int p1), .unset, .unset, .unset] []))
  refine own_pre (fun _ kz_ => XS.iloadN X0.here hx rfl (hb hby at_0) rfl kz_) ?_
  show OwnGoes p e below _ (s₁.setTop (mkF m 1 #[.val (.int p1), .unset, .unset, .unset] [(.int p1)]))
  refine own_pre (fun _ kz_ => X0.ldcInt hx hown (mvT hZ (hw _ (List.mem_of_getElem? (i := 0) rfl))) (g := (mkF m 1 #[.val (.int p1), .unset, .unset, .unset] [(.int p1)])) rfl (hb hby at_1) _ kz_) ?_
  show OwnGoes p e below _ (s₁.setTop (mkF m 3 #[.val (.int p1), .unset, .unset, .unset] [(.int (2147483647 : Int32)), (.int p1)]))
  refine own_pre (fun _ kz_ => XS.iand X0.here hx rfl (hb hby at_3) rfl kz_) ?_
  show OwnGoes p e below _ (s₁.setTop (mkF m 4 #[.val (.int p1), .unset, .unset, .unset] [(.int (p1 &&& (2147483647 : Int32)))]))
  refine own_pre (fun _ kz_ => XS.bipush X0.here hx rfl (hb hby at_4) kz_) ?_
  show OwnGoes p e below _ (s₁.setTop (mkF m 6 #[.val (.int p1), .unset, .unset, .unset] [(.int (6 : Int32)), (.int (p1 &&& (2147483647 : Int32)))]))
  refine own_pre (fun _ kz_ => iremM X0 hx rfl (hb hby at_6) rfl (by decide) kz_) ?_
  show OwnGoes p e below _ (s₁.setTop (mkF m 7 #[.val (.int p1), .unset, .unset, .unset] [(.int ((p1 &&& (2147483647 : Int32)) % (6 : Int32)))]))
  rcases own_mod p1 with hk | hk | hk | hk | hk | hk
  · rw [hk]
    show OwnGoes p e below _ (s₁.setTop (mkF m 7 #[.val (.int p1), .unset, .unset, .unset] [(.int (0 : Int32))]))
    refine own_pre (fun _ kz_ => XS.istoreN X0.here hx rfl (hb hby at_7) rfl (l' := #[.val (.int p1), .val (.int (0 : Int32)), .unset, .unset]) rfl kz_) ?_
    show OwnGoes p e below _ (s₁.setTop (mkF m 8 #[.val (.int p1), .val (.int (0 : Int32)), .unset, .unset] []))
    refine own_pre (fun _ kz_ => XS.iloadN X0.here hx rfl (hb hby at_8) rfl kz_) ?_
    show OwnGoes p e below _ (s₁.setTop (mkF m 9 #[.val (.int p1), .val (.int (0 : Int32)), .unset, .unset] [(.int (0 : Int32))]))
    obtain ⟨_, _, ⟨T1, L1, k1, n1⟩, -, X1, ⟨Lc1, hQ1, l1, y1, z1⟩, st1⟩ := Jvm.LawKit.callS X0 hx (y := (⟨"com/example/haversack/haversack/BagItVersionAllowsSpaceAroundColonPinLaw", "pick", "(I)Lcom/example/haversack/haversack/BagItVersion;"⟩ : MethodName)) hown (mvT hZ (hw _ (List.mem_of_getElem? (i := 1) rfl))) (mvT hZ (hw _ (List.mem_of_getElem? (i := 2) rfl))) (mvT hZ (hw _ (List.mem_of_getElem? (i := 3) rfl))) (mvT hZ (hw _ (List.mem_of_getElem? (i := 4) rfl))) (by decide) (backOf (W := 0) (rmP l Z a0 hw [] (0 : Int32) u0 u1 u2 u3 u4 u5 u0 h0 n0 Z0 S0 S1 S2 S3 S4 S5 (by simp)) hZ (hw _ (List.mem_of_getElem? (i := 4) rfl)) (hw _ (List.mem_of_getElem? (i := 3) rfl)) (by decide) (by decide)) (g := (mkF m 9 #[.val (.int p1), .val (.int (0 : Int32)), .unset, .unset] [(.int (0 : Int32))])) rfl (by rw [hml]; rfl) (argsL := [(.int (0 : Int32))]) (rest := []) (lenOf (d := "(I)Lcom/example/haversack/haversack/BagItVersion;") (ps := [.int]) (r := some (.object "com/example/haversack/haversack/BagItVersion")) (by decide +kernel) rfl) rfl (by show 2 * 0 + _ ≤ _; exact Nat.le_of_eq rfl) (hb hby at_9) (fun _ _ => ⟨rfl, e0, (by decide : 0 + 0 ≤ _), (by decide : 0 + 0 ≤ _)⟩)
    dsimp only [Pt.U, Pt.locs, Pt.cells, Pt.slots] at X1 l1 y1 z1 st1 hQ1
    subst l1 y1 z1
    obtain ⟨rfl, N1q, e1⟩ := hQ1
    have N1 := Fr.app N0 N1q
    refine own_pre st1 ?_
    show OwnGoes p e below _ (T1.setTop (mkF m 12 #[.val (.int p1), .val (.int (0 : Int32)), .unset, .unset] [(.ref u0)]))
    refine own_pre (fun _ kz_ => XS.astoreN X1.here hx rfl (hb hby at_12) rfl rfl (l' := #[.val (.int p1), .val (.int (0 : Int32)), .val (.ref u0), .unset]) rfl kz_) ?_
    show OwnGoes p e below _ (T1.setTop (mkF m 13 #[.val (.int p1), .val (.int (0 : Int32)), .val (.ref u0), .unset] []))
    refine own_pre (fun _ kz_ => XS.iloadN X1.here hx rfl (hb hby at_13) rfl kz_) ?_
    show OwnGoes p e below _ (T1.setTop (mkF m 14 #[.val (.int p1), .val (.int (0 : Int32)), .val (.ref u0), .unset] [(.int (0 : Int32))]))
    refine own_pre (fun _ kz_ => XS.iconst X1.here hx rfl (hb hby at_14) kz_) ?_
    show OwnGoes p e below _ (T1.setTop (mkF m 15 #[.val (.int p1), .val (.int (0 : Int32)), .val (.ref u0), .unset] [(.int (5 : Int32)), (.int (0 : Int32))]))
    refine own_pre (fun _ kz_ => XS.icmpNo X1.here hx rfl (hb hby at_15) rfl (feq (by decide : ¬ ((0 : Int32) = (5 : Int32)))).1 kz_) ?_
    show OwnGoes p e below _ (T1.setTop (mkF m 18 #[.val (.int p1), .val (.int (0 : Int32)), .val (.ref u0), .unset] []))
    refine own_pre (fun _ kz_ => XS.iconst X1.here hx rfl (hb hby at_18) kz_) ?_
    show OwnGoes p e below _ (T1.setTop (mkF m 19 #[.val (.int p1), .val (.int (0 : Int32)), .val (.ref u0), .unset] [(.int (1 : Int32))]))
    refine own_pre (fun _ kz_ => XS.goto X1.here hx rfl (pc0 := 19) (pc' := 23) rfl (hb hby at_19) (by decide) (by decide) kz_) ?_
    show OwnGoes p e below _ (T1.setTop (mkF m 23 #[.val (.int p1), .val (.int (0 : Int32)), .val (.ref u0), .unset] [(.int (1 : Int32))]))
    refine own_pre (fun _ kz_ => XS.istoreN X1.here hx rfl (hb hby at_23) rfl (l' := #[.val (.int p1), .val (.int (0 : Int32)), .val (.ref u0), .val (.int (1 : Int32))]) rfl kz_) ?_
    show OwnGoes p e below _ (T1.setTop (mkF m 24 #[.val (.int p1), .val (.int (0 : Int32)), .val (.ref u0), .val (.int (1 : Int32))] []))
    refine own_pre (fun _ kz_ => XS.aloadN X1.here hx rfl (hb hby at_24) rfl rfl kz_) ?_
    show OwnGoes p e below _ (T1.setTop (mkF m 25 #[.val (.int p1), .val (.int (0 : Int32)), .val (.ref u0), .val (.int (1 : Int32))] [(.ref u0)]))
    obtain ⟨cq2, kq2, q2a, q2b, q2c⟩ := isOf hZ e1 E0
    obtain ⟨_, _, ⟨T2, L2, k2, n2⟩, -, X2, ⟨Lc2, hQ2, l2, y2, z2⟩, st2⟩ := X1.virtualBack hx (y := (⟨"com/example/haversack/haversack/BagItVersion", "allowsSpaceAroundColon", "()Z"⟩ : MethodName)) (z := (⟨"com/example/haversack/haversack/BagItVersion", "allowsSpaceAroundColon", "()Z"⟩ : MethodName)) hown (mvT hZ (hw _ (List.mem_of_getElem? (i := 8) rfl))) (mvT hZ (hw _ (List.mem_of_getElem? (i := 9) rfl))) (notFace_of_selects (args := #[]) (mvT hZ (hw _ (List.mem_of_getElem? (i := 11) rfl)))) (mvT hZ (hw _ (List.mem_of_getElem? (i := 11) rfl))) (mvT hZ (hw _ (List.mem_of_getElem? (i := 10) rfl))) (by decide) (backOf (W := 0) (rm1 l Z a0 hw [] u0 u5 (1 : Int32) h0 n0 Z0 S5 (if_neg ne0).symm) hZ (hw _ (List.mem_of_getElem? (i := 12) rfl)) (hw _ (List.mem_of_getElem? (i := 6) rfl)) (by decide) (by decide)) q2a q2c (g := (mkF m 25 #[.val (.int p1), .val (.int (0 : Int32)), .val (.ref u0), .val (.int (1 : Int32))] [(.ref u0)])) rfl (by rw [hml]; rfl) (Steps.refl _) (argsL := []) (rest := []) (lenOf (d := "()Z") (ps := []) (r := some .boolean) (by decide +kernel) rfl) rfl (by show 2 * 0 + _ ≤ _; exact Nat.le_of_eq rfl) (hb hby at_25) (fun _ _ => ⟨rfl, e1, (by decide : 0 + 0 ≤ _), (by decide : 0 + 0 ≤ _)⟩)
    dsimp only [Pt.U, Pt.locs, Pt.cells, Pt.slots] at X2 l2 y2 z2 st2 hQ2
    subst l2 y2 z2
    obtain ⟨rfl, N2q, e2⟩ := hQ2
    have N2 := Fr.app N1 N2q
    refine own_tr st2 ?_
    show OwnGoes p e below _ (T2.setTop (mkF m 28 #[.val (.int p1), .val (.int (0 : Int32)), .val (.ref u0), .val (.int (1 : Int32))] [(.int (1 : Int32))]))
    refine own_pre (fun _ kz_ => XS.iloadN X2.here hx rfl (hb hby at_28) rfl kz_) ?_
    show OwnGoes p e below _ (T2.setTop (mkF m 29 #[.val (.int p1), .val (.int (0 : Int32)), .val (.ref u0), .val (.int (1 : Int32))] [(.int (1 : Int32)), (.int (1 : Int32))]))
    refine own_pre (fun _ kz_ => XS.icmpNo X2.here hx rfl (hb hby at_29) rfl (teq (by decide : (1 : Int32) = (1 : Int32))).2 kz_) ?_
    show OwnGoes p e below _ (T2.setTop (mkF m 32 #[.val (.int p1), .val (.int (0 : Int32)), .val (.ref u0), .val (.int (1 : Int32))] []))
    refine own_pre (fun _ kz_ => XS.iconst X2.here hx rfl (hb hby at_32) kz_) ?_
    show OwnGoes p e below _ (T2.setTop (mkF m 33 #[.val (.int p1), .val (.int (0 : Int32)), .val (.ref u0), .val (.int (1 : Int32))] [(.int (1 : Int32))]))
    refine own_pre (fun _ kz_ => XS.goto X2.here hx rfl (pc0 := 33) (pc' := 37) rfl (hb hby at_33) (by decide) (by decide) kz_) ?_
    show OwnGoes p e below _ (T2.setTop (mkF m 37 #[.val (.int p1), .val (.int (0 : Int32)), .val (.ref u0), .val (.int (1 : Int32))] [(.int (1 : Int32))]))
    exact own_ret X2 hx Bd.returns (rfl) (Or.inl ⟨rfl, by simp, _, rfl⟩) Bd.notSynchronized (hb hby at_37) ⟨rfl, N2⟩ (by decide) (by decide)
  · rw [hk]
    show OwnGoes p e below _ (s₁.setTop (mkF m 7 #[.val (.int p1), .unset, .unset, .unset] [(.int (1 : Int32))]))
    refine own_pre (fun _ kz_ => XS.istoreN X0.here hx rfl (hb hby at_7) rfl (l' := #[.val (.int p1), .val (.int (1 : Int32)), .unset, .unset]) rfl kz_) ?_
    show OwnGoes p e below _ (s₁.setTop (mkF m 8 #[.val (.int p1), .val (.int (1 : Int32)), .unset, .unset] []))
    refine own_pre (fun _ kz_ => XS.iloadN X0.here hx rfl (hb hby at_8) rfl kz_) ?_
    show OwnGoes p e below _ (s₁.setTop (mkF m 9 #[.val (.int p1), .val (.int (1 : Int32)), .unset, .unset] [(.int (1 : Int32))]))
    obtain ⟨_, _, ⟨T3, L3, k3, n3⟩, -, X3, ⟨Lc3, hQ3, l3, y3, z3⟩, st3⟩ := Jvm.LawKit.callS X0 hx (y := (⟨"com/example/haversack/haversack/BagItVersionAllowsSpaceAroundColonPinLaw", "pick", "(I)Lcom/example/haversack/haversack/BagItVersion;"⟩ : MethodName)) hown (mvT hZ (hw _ (List.mem_of_getElem? (i := 1) rfl))) (mvT hZ (hw _ (List.mem_of_getElem? (i := 2) rfl))) (mvT hZ (hw _ (List.mem_of_getElem? (i := 3) rfl))) (mvT hZ (hw _ (List.mem_of_getElem? (i := 4) rfl))) (by decide) (backOf (W := 0) (rmP l Z a0 hw [] (1 : Int32) u0 u1 u2 u3 u4 u5 u1 h0 n0 Z0 S0 S1 S2 S3 S4 S5 (by simp)) hZ (hw _ (List.mem_of_getElem? (i := 4) rfl)) (hw _ (List.mem_of_getElem? (i := 3) rfl)) (by decide) (by decide)) (g := (mkF m 9 #[.val (.int p1), .val (.int (1 : Int32)), .unset, .unset] [(.int (1 : Int32))])) rfl (by rw [hml]; rfl) (argsL := [(.int (1 : Int32))]) (rest := []) (lenOf (d := "(I)Lcom/example/haversack/haversack/BagItVersion;") (ps := [.int]) (r := some (.object "com/example/haversack/haversack/BagItVersion")) (by decide +kernel) rfl) rfl (by show 2 * 0 + _ ≤ _; exact Nat.le_of_eq rfl) (hb hby at_9) (fun _ _ => ⟨rfl, e0, (by decide : 0 + 0 ≤ _), (by decide : 0 + 0 ≤ _)⟩)
    dsimp only [Pt.U, Pt.locs, Pt.cells, Pt.slots] at X3 l3 y3 z3 st3 hQ3
    subst l3 y3 z3
    obtain ⟨rfl, N3q, e3⟩ := hQ3
    have N3 := Fr.app N0 N3q
    refine own_pre st3 ?_
    show OwnGoes p e below _ (T3.setTop (mkF m 12 #[.val (.int p1), .val (.int (1 : Int32)), .unset, .unset] [(.ref u1)]))
    refine own_pre (fun _ kz_ => XS.astoreN X3.here hx rfl (hb hby at_12) rfl rfl (l' := #[.val (.int p1), .val (.int (1 : Int32)), .val (.ref u1), .unset]) rfl kz_) ?_
    show OwnGoes p e below _ (T3.setTop (mkF m 13 #[.val (.int p1), .val (.int (1 : Int32)), .val (.ref u1), .unset] []))
    refine own_pre (fun _ kz_ => XS.iloadN X3.here hx rfl (hb hby at_13) rfl kz_) ?_
    show OwnGoes p e below _ (T3.setTop (mkF m 14 #[.val (.int p1), .val (.int (1 : Int32)), .val (.ref u1), .unset] [(.int (1 : Int32))]))
    refine own_pre (fun _ kz_ => XS.iconst X3.here hx rfl (hb hby at_14) kz_) ?_
    show OwnGoes p e below _ (T3.setTop (mkF m 15 #[.val (.int p1), .val (.int (1 : Int32)), .val (.ref u1), .unset] [(.int (5 : Int32)), (.int (1 : Int32))]))
    refine own_pre (fun _ kz_ => XS.icmpNo X3.here hx rfl (hb hby at_15) rfl (feq (by decide : ¬ ((1 : Int32) = (5 : Int32)))).1 kz_) ?_
    show OwnGoes p e below _ (T3.setTop (mkF m 18 #[.val (.int p1), .val (.int (1 : Int32)), .val (.ref u1), .unset] []))
    refine own_pre (fun _ kz_ => XS.iconst X3.here hx rfl (hb hby at_18) kz_) ?_
    show OwnGoes p e below _ (T3.setTop (mkF m 19 #[.val (.int p1), .val (.int (1 : Int32)), .val (.ref u1), .unset] [(.int (1 : Int32))]))
    refine own_pre (fun _ kz_ => XS.goto X3.here hx rfl (pc0 := 19) (pc' := 23) rfl (hb hby at_19) (by decide) (by decide) kz_) ?_
    show OwnGoes p e below _ (T3.setTop (mkF m 23 #[.val (.int p1), .val (.int (1 : Int32)), .val (.ref u1), .unset] [(.int (1 : Int32))]))
    refine own_pre (fun _ kz_ => XS.istoreN X3.here hx rfl (hb hby at_23) rfl (l' := #[.val (.int p1), .val (.int (1 : Int32)), .val (.ref u1), .val (.int (1 : Int32))]) rfl kz_) ?_
    show OwnGoes p e below _ (T3.setTop (mkF m 24 #[.val (.int p1), .val (.int (1 : Int32)), .val (.ref u1), .val (.int (1 : Int32))] []))
    refine own_pre (fun _ kz_ => XS.aloadN X3.here hx rfl (hb hby at_24) rfl rfl kz_) ?_
    show OwnGoes p e below _ (T3.setTop (mkF m 25 #[.val (.int p1), .val (.int (1 : Int32)), .val (.ref u1), .val (.int (1 : Int32))] [(.ref u1)]))
    obtain ⟨cq4, kq4, q4a, q4b, q4c⟩ := isOf hZ e3 E1
    obtain ⟨_, _, ⟨T4, L4, k4, n4⟩, -, X4, ⟨Lc4, hQ4, l4, y4, z4⟩, st4⟩ := X3.virtualBack hx (y := (⟨"com/example/haversack/haversack/BagItVersion", "allowsSpaceAroundColon", "()Z"⟩ : MethodName)) (z := (⟨"com/example/haversack/haversack/BagItVersion", "allowsSpaceAroundColon", "()Z"⟩ : MethodName)) hown (mvT hZ (hw _ (List.mem_of_getElem? (i := 8) rfl))) (mvT hZ (hw _ (List.mem_of_getElem? (i := 9) rfl))) (notFace_of_selects (args := #[]) (mvT hZ (hw _ (List.mem_of_getElem? (i := 11) rfl)))) (mvT hZ (hw _ (List.mem_of_getElem? (i := 11) rfl))) (mvT hZ (hw _ (List.mem_of_getElem? (i := 10) rfl))) (by decide) (backOf (W := 0) (rm1 l Z a0 hw [] u1 u5 (1 : Int32) h0 n0 Z0 S5 (if_neg ne1).symm) hZ (hw _ (List.mem_of_getElem? (i := 12) rfl)) (hw _ (List.mem_of_getElem? (i := 6) rfl)) (by decide) (by decide)) q4a q4c (g := (mkF m 25 #[.val (.int p1), .val (.int (1 : Int32)), .val (.ref u1), .val (.int (1 : Int32))] [(.ref u1)])) rfl (by rw [hml]; rfl) (Steps.refl _) (argsL := []) (rest := []) (lenOf (d := "()Z") (ps := []) (r := some .boolean) (by decide +kernel) rfl) rfl (by show 2 * 0 + _ ≤ _; exact Nat.le_of_eq rfl) (hb hby at_25) (fun _ _ => ⟨rfl, e3, (by decide : 0 + 0 ≤ _), (by decide : 0 + 0 ≤ _)⟩)
    dsimp only [Pt.U, Pt.locs, Pt.cells, Pt.slots] at X4 l4 y4 z4 st4 hQ4
    subst l4 y4 z4
    obtain ⟨rfl, N4q, e4⟩ := hQ4
    have N4 := Fr.app N3 N4q
    refine own_tr st4 ?_
    show OwnGoes p e below _ (T4.setTop (mkF m 28 #[.val (.int p1), .val (.int (1 : Int32)), .val (.ref u1), .val (.int (1 : Int32))] [(.int (1 : Int32))]))
    refine own_pre (fun _ kz_ => XS.iloadN X4.here hx rfl (hb hby at_28) rfl kz_) ?_
    show OwnGoes p e below _ (T4.setTop (mkF m 29 #[.val (.int p1), .val (.int (1 : Int32)), .val (.ref u1), .val (.int (1 : Int32))] [(.int (1 : Int32)), (.int (1 : Int32))]))
    refine own_pre (fun _ kz_ => XS.icmpNo X4.here hx rfl (hb hby at_29) rfl (teq (by decide : (1 : Int32) = (1 : Int32))).2 kz_) ?_
    show OwnGoes p e below _ (T4.setTop (mkF m 32 #[.val (.int p1), .val (.int (1 : Int32)), .val (.ref u1), .val (.int (1 : Int32))] []))
    refine own_pre (fun _ kz_ => XS.iconst X4.here hx rfl (hb hby at_32) kz_) ?_
    show OwnGoes p e below _ (T4.setTop (mkF m 33 #[.val (.int p1), .val (.int (1 : Int32)), .val (.ref u1), .val (.int (1 : Int32))] [(.int (1 : Int32))]))
    refine own_pre (fun _ kz_ => XS.goto X4.here hx rfl (pc0 := 33) (pc' := 37) rfl (hb hby at_33) (by decide) (by decide) kz_) ?_
    show OwnGoes p e below _ (T4.setTop (mkF m 37 #[.val (.int p1), .val (.int (1 : Int32)), .val (.ref u1), .val (.int (1 : Int32))] [(.int (1 : Int32))]))
    exact own_ret X4 hx Bd.returns (rfl) (Or.inl ⟨rfl, by simp, _, rfl⟩) Bd.notSynchronized (hb hby at_37) ⟨rfl, N4⟩ (by decide) (by decide)
  · rw [hk]
    show OwnGoes p e below _ (s₁.setTop (mkF m 7 #[.val (.int p1), .unset, .unset, .unset] [(.int (2 : Int32))]))
    refine own_pre (fun _ kz_ => XS.istoreN X0.here hx rfl (hb hby at_7) rfl (l' := #[.val (.int p1), .val (.int (2 : Int32)), .unset, .unset]) rfl kz_) ?_
    show OwnGoes p e below _ (s₁.setTop (mkF m 8 #[.val (.int p1), .val (.int (2 : Int32)), .unset, .unset] []))
    refine own_pre (fun _ kz_ => XS.iloadN X0.here hx rfl (hb hby at_8) rfl kz_) ?_
    show OwnGoes p e below _ (s₁.setTop (mkF m 9 #[.val (.int p1), .val (.int (2 : Int32)), .unset, .unset] [(.int (2 : Int32))]))
    obtain ⟨_, _, ⟨T5, L5, k5, n5⟩, -, X5, ⟨Lc5, hQ5, l5, y5, z5⟩, st5⟩ := Jvm.LawKit.callS X0 hx (y := (⟨"com/example/haversack/haversack/BagItVersionAllowsSpaceAroundColonPinLaw", "pick", "(I)Lcom/example/haversack/haversack/BagItVersion;"⟩ : MethodName)) hown (mvT hZ (hw _ (List.mem_of_getElem? (i := 1) rfl))) (mvT hZ (hw _ (List.mem_of_getElem? (i := 2) rfl))) (mvT hZ (hw _ (List.mem_of_getElem? (i := 3) rfl))) (mvT hZ (hw _ (List.mem_of_getElem? (i := 4) rfl))) (by decide) (backOf (W := 0) (rmP l Z a0 hw [] (2 : Int32) u0 u1 u2 u3 u4 u5 u2 h0 n0 Z0 S0 S1 S2 S3 S4 S5 (by simp)) hZ (hw _ (List.mem_of_getElem? (i := 4) rfl)) (hw _ (List.mem_of_getElem? (i := 3) rfl)) (by decide) (by decide)) (g := (mkF m 9 #[.val (.int p1), .val (.int (2 : Int32)), .unset, .unset] [(.int (2 : Int32))])) rfl (by rw [hml]; rfl) (argsL := [(.int (2 : Int32))]) (rest := []) (lenOf (d := "(I)Lcom/example/haversack/haversack/BagItVersion;") (ps := [.int]) (r := some (.object "com/example/haversack/haversack/BagItVersion")) (by decide +kernel) rfl) rfl (by show 2 * 0 + _ ≤ _; exact Nat.le_of_eq rfl) (hb hby at_9) (fun _ _ => ⟨rfl, e0, (by decide : 0 + 0 ≤ _), (by decide : 0 + 0 ≤ _)⟩)
    dsimp only [Pt.U, Pt.locs, Pt.cells, Pt.slots] at X5 l5 y5 z5 st5 hQ5
    subst l5 y5 z5
    obtain ⟨rfl, N5q, e5⟩ := hQ5
    have N5 := Fr.app N0 N5q
    refine own_pre st5 ?_
    show OwnGoes p e below _ (T5.setTop (mkF m 12 #[.val (.int p1), .val (.int (2 : Int32)), .unset, .unset] [(.ref u2)]))
    refine own_pre (fun _ kz_ => XS.astoreN X5.here hx rfl (hb hby at_12) rfl rfl (l' := #[.val (.int p1), .val (.int (2 : Int32)), .val (.ref u2), .unset]) rfl kz_) ?_
    show OwnGoes p e below _ (T5.setTop (mkF m 13 #[.val (.int p1), .val (.int (2 : Int32)), .val (.ref u2), .unset] []))
    refine own_pre (fun _ kz_ => XS.iloadN X5.here hx rfl (hb hby at_13) rfl kz_) ?_
    show OwnGoes p e below _ (T5.setTop (mkF m 14 #[.val (.int p1), .val (.int (2 : Int32)), .val (.ref u2), .unset] [(.int (2 : Int32))]))
    refine own_pre (fun _ kz_ => XS.iconst X5.here hx rfl (hb hby at_14) kz_) ?_
    show OwnGoes p e below _ (T5.setTop (mkF m 15 #[.val (.int p1), .val (.int (2 : Int32)), .val (.ref u2), .unset] [(.int (5 : Int32)), (.int (2 : Int32))]))
    refine own_pre (fun _ kz_ => XS.icmpNo X5.here hx rfl (hb hby at_15) rfl (feq (by decide : ¬ ((2 : Int32) = (5 : Int32)))).1 kz_) ?_
    show OwnGoes p e below _ (T5.setTop (mkF m 18 #[.val (.int p1), .val (.int (2 : Int32)), .val (.ref u2), .unset] []))
    refine own_pre (fun _ kz_ => XS.iconst X5.here hx rfl (hb hby at_18) kz_) ?_
    show OwnGoes p e below _ (T5.setTop (mkF m 19 #[.val (.int p1), .val (.int (2 : Int32)), .val (.ref u2), .unset] [(.int (1 : Int32))]))
    refine own_pre (fun _ kz_ => XS.goto X5.here hx rfl (pc0 := 19) (pc' := 23) rfl (hb hby at_19) (by decide) (by decide) kz_) ?_
    show OwnGoes p e below _ (T5.setTop (mkF m 23 #[.val (.int p1), .val (.int (2 : Int32)), .val (.ref u2), .unset] [(.int (1 : Int32))]))
    refine own_pre (fun _ kz_ => XS.istoreN X5.here hx rfl (hb hby at_23) rfl (l' := #[.val (.int p1), .val (.int (2 : Int32)), .val (.ref u2), .val (.int (1 : Int32))]) rfl kz_) ?_
    show OwnGoes p e below _ (T5.setTop (mkF m 24 #[.val (.int p1), .val (.int (2 : Int32)), .val (.ref u2), .val (.int (1 : Int32))] []))
    refine own_pre (fun _ kz_ => XS.aloadN X5.here hx rfl (hb hby at_24) rfl rfl kz_) ?_
    show OwnGoes p e below _ (T5.setTop (mkF m 25 #[.val (.int p1), .val (.int (2 : Int32)), .val (.ref u2), .val (.int (1 : Int32))] [(.ref u2)]))
    obtain ⟨cq6, kq6, q6a, q6b, q6c⟩ := isOf hZ e5 E2
    obtain ⟨_, _, ⟨T6, L6, k6, n6⟩, -, X6, ⟨Lc6, hQ6, l6, y6, z6⟩, st6⟩ := X5.virtualBack hx (y := (⟨"com/example/haversack/haversack/BagItVersion", "allowsSpaceAroundColon", "()Z"⟩ : MethodName)) (z := (⟨"com/example/haversack/haversack/BagItVersion", "allowsSpaceAroundColon", "()Z"⟩ : MethodName)) hown (mvT hZ (hw _ (List.mem_of_getElem? (i := 8) rfl))) (mvT hZ (hw _ (List.mem_of_getElem? (i := 9) rfl))) (notFace_of_selects (args := #[]) (mvT hZ (hw _ (List.mem_of_getElem? (i := 11) rfl)))) (mvT hZ (hw _ (List.mem_of_getElem? (i := 11) rfl))) (mvT hZ (hw _ (List.mem_of_getElem? (i := 10) rfl))) (by decide) (backOf (W := 0) (rm1 l Z a0 hw [] u2 u5 (1 : Int32) h0 n0 Z0 S5 (if_neg ne2).symm) hZ (hw _ (List.mem_of_getElem? (i := 12) rfl)) (hw _ (List.mem_of_getElem? (i := 6) rfl)) (by decide) (by decide)) q6a q6c (g := (mkF m 25 #[.val (.int p1), .val (.int (2 : Int32)), .val (.ref u2), .val (.int (1 : Int32))] [(.ref u2)])) rfl (by rw [hml]; rfl) (Steps.refl _) (argsL := []) (rest := []) (lenOf (d := "()Z") (ps := []) (r := some .boolean) (by decide +kernel) rfl) rfl (by show 2 * 0 + _ ≤ _; exact Nat.le_of_eq rfl) (hb hby at_25) (fun _ _ => ⟨rfl, e5, (by decide : 0 + 0 ≤ _), (by decide : 0 + 0 ≤ _)⟩)
    dsimp only [Pt.U, Pt.locs, Pt.cells, Pt.slots] at X6 l6 y6 z6 st6 hQ6
    subst l6 y6 z6
    obtain ⟨rfl, N6q, e6⟩ := hQ6
    have N6 := Fr.app N5 N6q
    refine own_tr st6 ?_
    show OwnGoes p e below _ (T6.setTop (mkF m 28 #[.val (.int p1), .val (.int (2 : Int32)), .val (.ref u2), .val (.int (1 : Int32))] [(.int (1 : Int32))]))
    refine own_pre (fun _ kz_ => XS.iloadN X6.here hx rfl (hb hby at_28) rfl kz_) ?_
    show OwnGoes p e below _ (T6.setTop (mkF m 29 #[.val (.int p1), .val (.int (2 : Int32)), .val (.ref u2), .val (.int (1 : Int32))] [(.int (1 : Int32)), (.int (1 : Int32))]))
    refine own_pre (fun _ kz_ => XS.icmpNo X6.here hx rfl (hb hby at_29) rfl (teq (by decide : (1 : Int32) = (1 : Int32))).2 kz_) ?_
    show OwnGoes p e below _ (T6.setTop (mkF m 32 #[.val (.int p1), .val (.int (2 : Int32)), .val (.ref u2), .val (.int (1 : Int32))] []))
    refine own_pre (fun _ kz_ => XS.iconst X6.here hx rfl (hb hby at_32) kz_) ?_
    show OwnGoes p e below _ (T6.setTop (mkF m 33 #[.val (.int p1), .val (.int (2 : Int32)), .val (.ref u2), .val (.int (1 : Int32))] [(.int (1 : Int32))]))
    refine own_pre (fun _ kz_ => XS.goto X6.here hx rfl (pc0 := 33) (pc' := 37) rfl (hb hby at_33) (by decide) (by decide) kz_) ?_
    show OwnGoes p e below _ (T6.setTop (mkF m 37 #[.val (.int p1), .val (.int (2 : Int32)), .val (.ref u2), .val (.int (1 : Int32))] [(.int (1 : Int32))]))
    exact own_ret X6 hx Bd.returns (rfl) (Or.inl ⟨rfl, by simp, _, rfl⟩) Bd.notSynchronized (hb hby at_37) ⟨rfl, N6⟩ (by decide) (by decide)
  · rw [hk]
    show OwnGoes p e below _ (s₁.setTop (mkF m 7 #[.val (.int p1), .unset, .unset, .unset] [(.int (3 : Int32))]))
    refine own_pre (fun _ kz_ => XS.istoreN X0.here hx rfl (hb hby at_7) rfl (l' := #[.val (.int p1), .val (.int (3 : Int32)), .unset, .unset]) rfl kz_) ?_
    show OwnGoes p e below _ (s₁.setTop (mkF m 8 #[.val (.int p1), .val (.int (3 : Int32)), .unset, .unset] []))
    refine own_pre (fun _ kz_ => XS.iloadN X0.here hx rfl (hb hby at_8) rfl kz_) ?_
    show OwnGoes p e below _ (s₁.setTop (mkF m 9 #[.val (.int p1), .val (.int (3 : Int32)), .unset, .unset] [(.int (3 : Int32))]))
    obtain ⟨_, _, ⟨T7, L7, k7, n7⟩, -, X7, ⟨Lc7, hQ7, l7, y7, z7⟩, st7⟩ := Jvm.LawKit.callS X0 hx (y := (⟨"com/example/haversack/haversack/BagItVersionAllowsSpaceAroundColonPinLaw", "pick", "(I)Lcom/example/haversack/haversack/BagItVersion;"⟩ : MethodName)) hown (mvT hZ (hw _ (List.mem_of_getElem? (i := 1) rfl))) (mvT hZ (hw _ (List.mem_of_getElem? (i := 2) rfl))) (mvT hZ (hw _ (List.mem_of_getElem? (i := 3) rfl))) (mvT hZ (hw _ (List.mem_of_getElem? (i := 4) rfl))) (by decide) (backOf (W := 0) (rmP l Z a0 hw [] (3 : Int32) u0 u1 u2 u3 u4 u5 u3 h0 n0 Z0 S0 S1 S2 S3 S4 S5 (by simp)) hZ (hw _ (List.mem_of_getElem? (i := 4) rfl)) (hw _ (List.mem_of_getElem? (i := 3) rfl)) (by decide) (by decide)) (g := (mkF m 9 #[.val (.int p1), .val (.int (3 : Int32)), .unset, .unset] [(.int (3 : Int32))])) rfl (by rw [hml]; rfl) (argsL := [(.int (3 : Int32))]) (rest := []) (lenOf (d := "(I)Lcom/example/haversack/haversack/BagItVersion;") (ps := [.int]) (r := some (.object "com/example/haversack/haversack/BagItVersion")) (by decide +kernel) rfl) rfl (by show 2 * 0 + _ ≤ _; exact Nat.le_of_eq rfl) (hb hby at_9) (fun _ _ => ⟨rfl, e0, (by decide : 0 + 0 ≤ _), (by decide : 0 + 0 ≤ _)⟩)
    dsimp only [Pt.U, Pt.locs, Pt.cells, Pt.slots] at X7 l7 y7 z7 st7 hQ7
    subst l7 y7 z7
    obtain ⟨rfl, N7q, e7⟩ := hQ7
    have N7 := Fr.app N0 N7q
    refine own_pre st7 ?_
    show OwnGoes p e below _ (T7.setTop (mkF m 12 #[.val (.int p1), .val (.int (3 : Int32)), .unset, .unset] [(.ref u3)]))
    refine own_pre (fun _ kz_ => XS.astoreN X7.here hx rfl (hb hby at_12) rfl rfl (l' := #[.val (.int p1), .val (.int (3 : Int32)), .val (.ref u3), .unset]) rfl kz_) ?_
    show OwnGoes p e below _ (T7.setTop (mkF m 13 #[.val (.int p1), .val (.int (3 : Int32)), .val (.ref u3), .unset] []))
    refine own_pre (fun _ kz_ => XS.iloadN X7.here hx rfl (hb hby at_13) rfl kz_) ?_
    show OwnGoes p e below _ (T7.setTop (mkF m 14 #[.val (.int p1), .val (.int (3 : Int32)), .val (.ref u3), .unset] [(.int (3 : Int32))]))
    refine own_pre (fun _ kz_ => XS.iconst X7.here hx rfl (hb hby at_14) kz_) ?_
    show OwnGoes p e below _ (T7.setTop (mkF m 15 #[.val (.int p1), .val (.int (3 : Int32)), .val (.ref u3), .unset] [(.int (5 : Int32)), (.int (3 : Int32))]))
    refine own_pre (fun _ kz_ => XS.icmpNo X7.here hx rfl (hb hby at_15) rfl (feq (by decide : ¬ ((3 : Int32) = (5 : Int32)))).1 kz_) ?_
    show OwnGoes p e below _ (T7.setTop (mkF m 18 #[.val (.int p1), .val (.int (3 : Int32)), .val (.ref u3), .unset] []))
    refine own_pre (fun _ kz_ => XS.iconst X7.here hx rfl (hb hby at_18) kz_) ?_
    show OwnGoes p e below _ (T7.setTop (mkF m 19 #[.val (.int p1), .val (.int (3 : Int32)), .val (.ref u3), .unset] [(.int (1 : Int32))]))
    refine own_pre (fun _ kz_ => XS.goto X7.here hx rfl (pc0 := 19) (pc' := 23) rfl (hb hby at_19) (by decide) (by decide) kz_) ?_
    show OwnGoes p e below _ (T7.setTop (mkF m 23 #[.val (.int p1), .val (.int (3 : Int32)), .val (.ref u3), .unset] [(.int (1 : Int32))]))
    refine own_pre (fun _ kz_ => XS.istoreN X7.here hx rfl (hb hby at_23) rfl (l' := #[.val (.int p1), .val (.int (3 : Int32)), .val (.ref u3), .val (.int (1 : Int32))]) rfl kz_) ?_
    show OwnGoes p e below _ (T7.setTop (mkF m 24 #[.val (.int p1), .val (.int (3 : Int32)), .val (.ref u3), .val (.int (1 : Int32))] []))
    refine own_pre (fun _ kz_ => XS.aloadN X7.here hx rfl (hb hby at_24) rfl rfl kz_) ?_
    show OwnGoes p e below _ (T7.setTop (mkF m 25 #[.val (.int p1), .val (.int (3 : Int32)), .val (.ref u3), .val (.int (1 : Int32))] [(.ref u3)]))
    obtain ⟨cq8, kq8, q8a, q8b, q8c⟩ := isOf hZ e7 E3
    obtain ⟨_, _, ⟨T8, L8, k8, n8⟩, -, X8, ⟨Lc8, hQ8, l8, y8, z8⟩, st8⟩ := X7.virtualBack hx (y := (⟨"com/example/haversack/haversack/BagItVersion", "allowsSpaceAroundColon", "()Z"⟩ : MethodName)) (z := (⟨"com/example/haversack/haversack/BagItVersion", "allowsSpaceAroundColon", "()Z"⟩ : MethodName)) hown (mvT hZ (hw _ (List.mem_of_getElem? (i := 8) rfl))) (mvT hZ (hw _ (List.mem_of_getElem? (i := 9) rfl))) (notFace_of_selects (args := #[]) (mvT hZ (hw _ (List.mem_of_getElem? (i := 11) rfl)))) (mvT hZ (hw _ (List.mem_of_getElem? (i := 11) rfl))) (mvT hZ (hw _ (List.mem_of_getElem? (i := 10) rfl))) (by decide) (backOf (W := 0) (rm1 l Z a0 hw [] u3 u5 (1 : Int32) h0 n0 Z0 S5 (if_neg ne3).symm) hZ (hw _ (List.mem_of_getElem? (i := 12) rfl)) (hw _ (List.mem_of_getElem? (i := 6) rfl)) (by decide) (by decide)) q8a q8c (g := (mkF m 25 #[.val (.int p1), .val (.int (3 : Int32)), .val (.ref u3), .val (.int (1 : Int32))] [(.ref u3)])) rfl (by rw [hml]; rfl) (Steps.refl _) (argsL := []) (rest := []) (lenOf (d := "()Z") (ps := []) (r := some .boolean) (by decide +kernel) rfl) rfl (by show 2 * 0 + _ ≤ _; exact Nat.le_of_eq rfl) (hb hby at_25) (fun _ _ => ⟨rfl, e7, (by decide : 0 + 0 ≤ _), (by decide : 0 + 0 ≤ _)⟩)
    dsimp only [Pt.U, Pt.locs, Pt.cells, Pt.slots] at X8 l8 y8 z8 st8 hQ8
    subst l8 y8 z8
    obtain ⟨rfl, N8q, e8⟩ := hQ8
    have N8 := Fr.app N7 N8q
    refine own_tr st8 ?_
    show OwnGoes p e below _ (T8.setTop (mkF m 28 #[.val (.int p1), .val (.int (3 : Int32)), .val (.ref u3), .val (.int (1 : Int32))] [(.int (1 : Int32))]))
    refine own_pre (fun _ kz_ => XS.iloadN X8.here hx rfl (hb hby at_28) rfl kz_) ?_
    show OwnGoes p e below _ (T8.setTop (mkF m 29 #[.val (.int p1), .val (.int (3 : Int32)), .val (.ref u3), .val (.int (1 : Int32))] [(.int (1 : Int32)), (.int (1 : Int32))]))
    refine own_pre (fun _ kz_ => XS.icmpNo X8.here hx rfl (hb hby at_29) rfl (teq (by decide : (1 : Int32) = (1 : Int32))).2 kz_) ?_
    show OwnGoes p e below _ (T8.setTop (mkF m 32 #[.val (.int p1), .val (.int (3 : Int32)), .val (.ref u3), .val (.int (1 : Int32))] []))
    refine own_pre (fun _ kz_ => XS.iconst X8.here hx rfl (hb hby at_32) kz_) ?_
    show OwnGoes p e below _ (T8.setTop (mkF m 33 #[.val (.int p1), .val (.int (3 : Int32)), .val (.ref u3), .val (.int (1 : Int32))] [(.int (1 : Int32))]))
    refine own_pre (fun _ kz_ => XS.goto X8.here hx rfl (pc0 := 33) (pc' := 37) rfl (hb hby at_33) (by decide) (by decide) kz_) ?_
    show OwnGoes p e below _ (T8.setTop (mkF m 37 #[.val (.int p1), .val (.int (3 : Int32)), .val (.ref u3), .val (.int (1 : Int32))] [(.int (1 : Int32))]))
    exact own_ret X8 hx Bd.returns (rfl) (Or.inl ⟨rfl, by simp, _, rfl⟩) Bd.notSynchronized (hb hby at_37) ⟨rfl, N8⟩ (by decide) (by decide)
  · rw [hk]
    show OwnGoes p e below _ (s₁.setTop (mkF m 7 #[.val (.int p1), .unset, .unset, .unset] [(.int (4 : Int32))]))
    refine own_pre (fun _ kz_ => XS.istoreN X0.here hx rfl (hb hby at_7) rfl (l' := #[.val (.int p1), .val (.int (4 : Int32)), .unset, .unset]) rfl kz_) ?_
    show OwnGoes p e below _ (s₁.setTop (mkF m 8 #[.val (.int p1), .val (.int (4 : Int32)), .unset, .unset] []))
    refine own_pre (fun _ kz_ => XS.iloadN X0.here hx rfl (hb hby at_8) rfl kz_) ?_
    show OwnGoes p e below _ (s₁.setTop (mkF m 9 #[.val (.int p1), .val (.int (4 : Int32)), .unset, .unset] [(.int (4 : Int32))]))
    obtain ⟨_, _, ⟨T9, L9, k9, n9⟩, -, X9, ⟨Lc9, hQ9, l9, y9, z9⟩, st9⟩ := Jvm.LawKit.callS X0 hx (y := (⟨"com/example/haversack/haversack/BagItVersionAllowsSpaceAroundColonPinLaw", "pick", "(I)Lcom/example/haversack/haversack/BagItVersion;"⟩ : MethodName)) hown (mvT hZ (hw _ (List.mem_of_getElem? (i := 1) rfl))) (mvT hZ (hw _ (List.mem_of_getElem? (i := 2) rfl))) (mvT hZ (hw _ (List.mem_of_getElem? (i := 3) rfl))) (mvT hZ (hw _ (List.mem_of_getElem? (i := 4) rfl))) (by decide) (backOf (W := 0) (rmP l Z a0 hw [] (4 : Int32) u0 u1 u2 u3 u4 u5 u4 h0 n0 Z0 S0 S1 S2 S3 S4 S5 (by simp)) hZ (hw _ (List.mem_of_getElem? (i := 4) rfl)) (hw _ (List.mem_of_getElem? (i := 3) rfl)) (by decide) (by decide)) (g := (mkF m 9 #[.val (.int p1), .val (.int (4 : Int32)), .unset, .unset] [(.int (4 : Int32))])) rfl (by rw [hml]; rfl) (argsL := [(.int (4 : Int32))]) (rest := []) (lenOf (d := "(I)Lcom/example/haversack/haversack/BagItVersion;") (ps := [.int]) (r := some (.object "com/example/haversack/haversack/BagItVersion")) (by decide +kernel) rfl) rfl (by show 2 * 0 + _ ≤ _; exact Nat.le_of_eq rfl) (hb hby at_9) (fun _ _ => ⟨rfl, e0, (by decide : 0 + 0 ≤ _), (by decide : 0 + 0 ≤ _)⟩)
    dsimp only [Pt.U, Pt.locs, Pt.cells, Pt.slots] at X9 l9 y9 z9 st9 hQ9
    subst l9 y9 z9
    obtain ⟨rfl, N9q, e9⟩ := hQ9
    have N9 := Fr.app N0 N9q
    refine own_pre st9 ?_
    show OwnGoes p e below _ (T9.setTop (mkF m 12 #[.val (.int p1), .val (.int (4 : Int32)), .unset, .unset] [(.ref u4)]))
    refine own_pre (fun _ kz_ => XS.astoreN X9.here hx rfl (hb hby at_12) rfl rfl (l' := #[.val (.int p1), .val (.int (4 : Int32)), .val (.ref u4), .unset]) rfl kz_) ?_
    show OwnGoes p e below _ (T9.setTop (mkF m 13 #[.val (.int p1), .val (.int (4 : Int32)), .val (.ref u4), .unset] []))
    refine own_pre (fun _ kz_ => XS.iloadN X9.here hx rfl (hb hby at_13) rfl kz_) ?_
    show OwnGoes p e below _ (T9.setTop (mkF m 14 #[.val (.int p1), .val (.int (4 : Int32)), .val (.ref u4), .unset] [(.int (4 : Int32))]))
    refine own_pre (fun _ kz_ => XS.iconst X9.here hx rfl (hb hby at_14) kz_) ?_
    show OwnGoes p e below _ (T9.setTop (mkF m 15 #[.val (.int p1), .val (.int (4 : Int32)), .val (.ref u4), .unset] [(.int (5 : Int32)), (.int (4 : Int32))]))
    refine own_pre (fun _ kz_ => XS.icmpNo X9.here hx rfl (hb hby at_15) rfl (feq (by decide : ¬ ((4 : Int32) = (5 : Int32)))).1 kz_) ?_
    show OwnGoes p e below _ (T9.setTop (mkF m 18 #[.val (.int p1), .val (.int (4 : Int32)), .val (.ref u4), .unset] []))
    refine own_pre (fun _ kz_ => XS.iconst X9.here hx rfl (hb hby at_18) kz_) ?_
    show OwnGoes p e below _ (T9.setTop (mkF m 19 #[.val (.int p1), .val (.int (4 : Int32)), .val (.ref u4), .unset] [(.int (1 : Int32))]))
    refine own_pre (fun _ kz_ => XS.goto X9.here hx rfl (pc0 := 19) (pc' := 23) rfl (hb hby at_19) (by decide) (by decide) kz_) ?_
    show OwnGoes p e below _ (T9.setTop (mkF m 23 #[.val (.int p1), .val (.int (4 : Int32)), .val (.ref u4), .unset] [(.int (1 : Int32))]))
    refine own_pre (fun _ kz_ => XS.istoreN X9.here hx rfl (hb hby at_23) rfl (l' := #[.val (.int p1), .val (.int (4 : Int32)), .val (.ref u4), .val (.int (1 : Int32))]) rfl kz_) ?_
    show OwnGoes p e below _ (T9.setTop (mkF m 24 #[.val (.int p1), .val (.int (4 : Int32)), .val (.ref u4), .val (.int (1 : Int32))] []))
    refine own_pre (fun _ kz_ => XS.aloadN X9.here hx rfl (hb hby at_24) rfl rfl kz_) ?_
    show OwnGoes p e below _ (T9.setTop (mkF m 25 #[.val (.int p1), .val (.int (4 : Int32)), .val (.ref u4), .val (.int (1 : Int32))] [(.ref u4)]))
    obtain ⟨cq10, kq10, q10a, q10b, q10c⟩ := isOf hZ e9 E4
    obtain ⟨_, _, ⟨T10, L10, k10, n10⟩, -, X10, ⟨Lc10, hQ10, l10, y10, z10⟩, st10⟩ := X9.virtualBack hx (y := (⟨"com/example/haversack/haversack/BagItVersion", "allowsSpaceAroundColon", "()Z"⟩ : MethodName)) (z := (⟨"com/example/haversack/haversack/BagItVersion", "allowsSpaceAroundColon", "()Z"⟩ : MethodName)) hown (mvT hZ (hw _ (List.mem_of_getElem? (i := 8) rfl))) (mvT hZ (hw _ (List.mem_of_getElem? (i := 9) rfl))) (notFace_of_selects (args := #[]) (mvT hZ (hw _ (List.mem_of_getElem? (i := 11) rfl)))) (mvT hZ (hw _ (List.mem_of_getElem? (i := 11) rfl))) (mvT hZ (hw _ (List.mem_of_getElem? (i := 10) rfl))) (by decide) (backOf (W := 0) (rm1 l Z a0 hw [] u4 u5 (1 : Int32) h0 n0 Z0 S5 (if_neg ne4).symm) hZ (hw _ (List.mem_of_getElem? (i := 12) rfl)) (hw _ (List.mem_of_getElem? (i := 6) rfl)) (by decide) (by decide)) q10a q10c (g := (mkF m 25 #[.val (.int p1), .val (.int (4 : Int32)), .val (.ref u4), .val (.int (1 : Int32))] [(.ref u4)])) rfl (by rw [hml]; rfl) (Steps.refl _) (argsL := []) (rest := []) (lenOf (d := "()Z") (ps := []) (r := some .boolean) (by decide +kernel) rfl) rfl (by show 2 * 0 + _ ≤ _; exact Nat.le_of_eq rfl) (hb hby at_25) (fun _ _ => ⟨rfl, e9, (by decide : 0 + 0 ≤ _), (by decide : 0 + 0 ≤ _)⟩)
    dsimp only [Pt.U, Pt.locs, Pt.cells, Pt.slots] at X10 l10 y10 z10 st10 hQ10
    subst l10 y10 z10
    obtain ⟨rfl, N10q, e10⟩ := hQ10
    have N10 := Fr.app N9 N10q
    refine own_tr st10 ?_
    show OwnGoes p e below _ (T10.setTop (mkF m 28 #[.val (.int p1), .val (.int (4 : Int32)), .val (.ref u4), .val (.int (1 : Int32))] [(.int (1 : Int32))]))
    refine own_pre (fun _ kz_ => XS.iloadN X10.here hx rfl (hb hby at_28) rfl kz_) ?_
    show OwnGoes p e below _ (T10.setTop (mkF m 29 #[.val (.int p1), .val (.int (4 : Int32)), .val (.ref u4), .val (.int (1 : Int32))] [(.int (1 : Int32)), (.int (1 : Int32))]))
    refine own_pre (fun _ kz_ => XS.icmpNo X10.here hx rfl (hb hby at_29) rfl (teq (by decide : (1 : Int32) = (1 : Int32))).2 kz_) ?_
    show OwnGoes p e below _ (T10.setTop (mkF m 32 #[.val (.int p1), .val (.int (4 : Int32)), .val (.ref u4), .val (.int (1 : Int32))] []))
    refine own_pre (fun _ kz_ => XS.iconst X10.here hx rfl (hb hby at_32) kz_) ?_
    show OwnGoes p e below _ (T10.setTop (mkF m 33 #[.val (.int p1), .val (.int (4 : Int32)), .val (.ref u4), .val (.int (1 : Int32))] [(.int (1 : Int32))]))
    refine own_pre (fun _ kz_ => XS.goto X10.here hx rfl (pc0 := 33) (pc' := 37) rfl (hb hby at_33) (by decide) (by decide) kz_) ?_
    show OwnGoes p e below _ (T10.setTop (mkF m 37 #[.val (.int p1), .val (.int (4 : Int32)), .val (.ref u4), .val (.int (1 : Int32))] [(.int (1 : Int32))]))
    exact own_ret X10 hx Bd.returns (rfl) (Or.inl ⟨rfl, by simp, _, rfl⟩) Bd.notSynchronized (hb hby at_37) ⟨rfl, N10⟩ (by decide) (by decide)
  · rw [hk]
    show OwnGoes p e below _ (s₁.setTop (mkF m 7 #[.val (.int p1), .unset, .unset, .unset] [(.int (5 : Int32))]))
    refine own_pre (fun _ kz_ => XS.istoreN X0.here hx rfl (hb hby at_7) rfl (l' := #[.val (.int p1), .val (.int (5 : Int32)), .unset, .unset]) rfl kz_) ?_
    show OwnGoes p e below _ (s₁.setTop (mkF m 8 #[.val (.int p1), .val (.int (5 : Int32)), .unset, .unset] []))
    refine own_pre (fun _ kz_ => XS.iloadN X0.here hx rfl (hb hby at_8) rfl kz_) ?_
    show OwnGoes p e below _ (s₁.setTop (mkF m 9 #[.val (.int p1), .val (.int (5 : Int32)), .unset, .unset] [(.int (5 : Int32))]))
    obtain ⟨_, _, ⟨T11, L11, k11, n11⟩, -, X11, ⟨Lc11, hQ11, l11, y11, z11⟩, st11⟩ := Jvm.LawKit.callS X0 hx (y := (⟨"com/example/haversack/haversack/BagItVersionAllowsSpaceAroundColonPinLaw", "pick", "(I)Lcom/example/haversack/haversack/BagItVersion;"⟩ : MethodName)) hown (mvT hZ (hw _ (List.mem_of_getElem? (i := 1) rfl))) (mvT hZ (hw _ (List.mem_of_getElem? (i := 2) rfl))) (mvT hZ (hw _ (List.mem_of_getElem? (i := 3) rfl))) (mvT hZ (hw _ (List.mem_of_getElem? (i := 4) rfl))) (by decide) (backOf (W := 0) (rmP l Z a0 hw [] (5 : Int32) u0 u1 u2 u3 u4 u5 u5 h0 n0 Z0 S0 S1 S2 S3 S4 S5 (by simp)) hZ (hw _ (List.mem_of_getElem? (i := 4) rfl)) (hw _ (List.mem_of_getElem? (i := 3) rfl)) (by decide) (by decide)) (g := (mkF m 9 #[.val (.int p1), .val (.int (5 : Int32)), .unset, .unset] [(.int (5 : Int32))])) rfl (by rw [hml]; rfl) (argsL := [(.int (5 : Int32))]) (rest := []) (lenOf (d := "(I)Lcom/example/haversack/haversack/BagItVersion;") (ps := [.int]) (r := some (.object "com/example/haversack/haversack/BagItVersion")) (by decide +kernel) rfl) rfl (by show 2 * 0 + _ ≤ _; exact Nat.le_of_eq rfl) (hb hby at_9) (fun _ _ => ⟨rfl, e0, (by decide : 0 + 0 ≤ _), (by decide : 0 + 0 ≤ _)⟩)
    dsimp only [Pt.U, Pt.locs, Pt.cells, Pt.slots] at X11 l11 y11 z11 st11 hQ11
    subst l11 y11 z11
    obtain ⟨rfl, N11q, e11⟩ := hQ11
    have N11 := Fr.app N0 N11q
    refine own_pre st11 ?_
    show OwnGoes p e below _ (T11.setTop (mkF m 12 #[.val (.int p1), .val (.int (5 : Int32)), .unset, .unset] [(.ref u5)]))
    refine own_pre (fun _ kz_ => XS.astoreN X11.here hx rfl (hb hby at_12) rfl rfl (l' := #[.val (.int p1), .val (.int (5 : Int32)), .val (.ref u5), .unset]) rfl kz_) ?_
    show OwnGoes p e below _ (T11.setTop (mkF m 13 #[.val (.int p1), .val (.int (5 : Int32)), .val (.ref u5), .unset] []))
    refine own_pre (fun _ kz_ => XS.iloadN X11.here hx rfl (hb hby at_13) rfl kz_) ?_
    show OwnGoes p e below _ (T11.setTop (mkF m 14 #[.val (.int p1), .val (.int (5 : Int32)), .val (.ref u5), .unset] [(.int (5 : Int32))]))
    refine own_pre (fun _ kz_ => XS.iconst X11.here hx rfl (hb hby at_14) kz_) ?_
    show OwnGoes p e below _ (T11.setTop (mkF m 15 #[.val (.int p1), .val (.int (5 : Int32)), .val (.ref u5), .unset] [(.int (5 : Int32)), (.int (5 : Int32))]))
    refine own_pre (fun _ kz_ => XS.icmpYes X11.here hx rfl (pc0 := 15) (pc' := 22) rfl (hb hby at_15) rfl (teq (by decide : (5 : Int32) = (5 : Int32))).1 (by decide) (by decide) kz_) ?_
    show OwnGoes p e below _ (T11.setTop (mkF m 22 #[.val (.int p1), .val (.int (5 : Int32)), .val (.ref u5), .unset] []))
    refine own_pre (fun _ kz_ => XS.iconst X11.here hx rfl (hb hby at_22) kz_) ?_
    show OwnGoes p e below _ (T11.setTop (mkF m 23 #[.val (.int p1), .val (.int (5 : Int32)), .val (.ref u5), .unset] [(.int (0 : Int32))]))
    refine own_pre (fun _ kz_ => XS.istoreN X11.here hx rfl (hb hby at_23) rfl (l' := #[.val (.int p1), .val (.int (5 : Int32)), .val (.ref u5), .val (.int (0 : Int32))]) rfl kz_) ?_
    show OwnGoes p e below _ (T11.setTop (mkF m 24 #[.val (.int p1), .val (.int (5 : Int32)), .val (.ref u5), .val (.int (0 : Int32))] []))
    refine own_pre (fun _ kz_ => XS.aloadN X11.here hx rfl (hb hby at_24) rfl rfl kz_) ?_
    show OwnGoes p e below _ (T11.setTop (mkF m 25 #[.val (.int p1), .val (.int (5 : Int32)), .val (.ref u5), .val (.int (0 : Int32))] [(.ref u5)]))
    obtain ⟨cq12, kq12, q12a, q12b, q12c⟩ := isOf hZ e11 E5
    obtain ⟨_, _, ⟨T12, L12, k12, n12⟩, -, X12, ⟨Lc12, hQ12, l12, y12, z12⟩, st12⟩ := X11.virtualBack hx (y := (⟨"com/example/haversack/haversack/BagItVersion", "allowsSpaceAroundColon", "()Z"⟩ : MethodName)) (z := (⟨"com/example/haversack/haversack/BagItVersion", "allowsSpaceAroundColon", "()Z"⟩ : MethodName)) hown (mvT hZ (hw _ (List.mem_of_getElem? (i := 8) rfl))) (mvT hZ (hw _ (List.mem_of_getElem? (i := 9) rfl))) (notFace_of_selects (args := #[]) (mvT hZ (hw _ (List.mem_of_getElem? (i := 11) rfl)))) (mvT hZ (hw _ (List.mem_of_getElem? (i := 11) rfl))) (mvT hZ (hw _ (List.mem_of_getElem? (i := 10) rfl))) (by decide) (backOf (W := 0) (rm1 l Z a0 hw [] u5 u5 (0 : Int32) h0 n0 Z0 S5 (if_pos rfl).symm) hZ (hw _ (List.mem_of_getElem? (i := 12) rfl)) (hw _ (List.mem_of_getElem? (i := 6) rfl)) (by decide) (by decide)) q12a q12c (g := (mkF m 25 #[.val (.int p1), .val (.int (5 : Int32)), .val (.ref u5), .val (.int (0 : Int32))] [(.ref u5)])) rfl (by rw [hml]; rfl) (Steps.refl _) (argsL := []) (rest := []) (lenOf (d := "()Z") (ps := []) (r := some .boolean) (by decide +kernel) rfl) rfl (by show 2 * 0 + _ ≤ _; exact Nat.le_of_eq rfl) (hb hby at_25) (fun _ _ => ⟨rfl, e11, (by decide : 0 + 0 ≤ _), (by decide : 0 + 0 ≤ _)⟩)
    dsimp only [Pt.U, Pt.locs, Pt.cells, Pt.slots] at X12 l12 y12 z12 st12 hQ12
    subst l12 y12 z12
    obtain ⟨rfl, N12q, e12⟩ := hQ12
    have N12 := Fr.app N11 N12q
    refine own_tr st12 ?_
    show OwnGoes p e below _ (T12.setTop (mkF m 28 #[.val (.int p1), .val (.int (5 : Int32)), .val (.ref u5), .val (.int (0 : Int32))] [(.int (0 : Int32))]))
    refine own_pre (fun _ kz_ => XS.iloadN X12.here hx rfl (hb hby at_28) rfl kz_) ?_
    show OwnGoes p e below _ (T12.setTop (mkF m 29 #[.val (.int p1), .val (.int (5 : Int32)), .val (.ref u5), .val (.int (0 : Int32))] [(.int (0 : Int32)), (.int (0 : Int32))]))
    refine own_pre (fun _ kz_ => XS.icmpNo X12.here hx rfl (hb hby at_29) rfl (teq (by decide : (0 : Int32) = (0 : Int32))).2 kz_) ?_
    show OwnGoes p e below _ (T12.setTop (mkF m 32 #[.val (.int p1), .val (.int (5 : Int32)), .val (.ref u5), .val (.int (0 : Int32))] []))
    refine own_pre (fun _ kz_ => XS.iconst X12.here hx rfl (hb hby at_32) kz_) ?_
    show OwnGoes p e below _ (T12.setTop (mkF m 33 #[.val (.int p1), .val (.int (5 : Int32)), .val (.ref u5), .val (.int (0 : Int32))] [(.int (1 : Int32))]))
    refine own_pre (fun _ kz_ => XS.goto X12.here hx rfl (pc0 := 33) (pc' := 37) rfl (hb hby at_33) (by decide) (by decide) kz_) ?_
    show OwnGoes p e below _ (T12.setTop (mkF m 37 #[.val (.int p1), .val (.int (5 : Int32)), .val (.ref u5), .val (.int (0 : Int32))] [(.int (1 : Int32))]))
    exact own_ret X12 hx Bd.returns (rfl) (Or.inl ⟨rfl, by simp, _, rfl⟩) Bd.notSynchronized (hb hby at_37) ⟨rfl, N12⟩ (by decide) (by decide)
set_option maxRecDepth 65536 in
set_option maxHeartbeats 40000000 in
theorem comes_1 {Post : Tables → Env → Array Value → State → Outcome → State → Prop} (hpost : ∀ tb e args s v u, (limb_1_1.after args s (.returned v) u = true ∧ limb_1_2.after args s (.returned v) u = true ∧ True) → FrameEnd s (.returned v) u (Jvm.fieldLocs frame_1_writes args s ++ Jvm.arrayLocs frame_1_arrays args s ++ Jvm.staticLocs frame_1_statics s) 0 0 → Post tb e args s (.returned v) u) :
    ArmFor flags0 classFile x code maxLocals ret World_1 tables_1 room_1 Calls_1 rest_1 Pre_1 Post := by
  intro l hfl _ _ p e ha hc hk s m args below hf hA hF happ hP
  obtain ⟨hcalls, hrest, hpre⟩ := hP
  obtain ⟨-, -, -, hnamed, -, -, -, hat⟩ := (Spec.applies_iff hf).mp happ
  obtain ⟨hg, hn⟩ := and_e (Cond.before_iff.mp (show (Jvm.Cond.and given_1 narrow_1).before args s = true from hpre))
  obtain ⟨hcount, hgs⟩ := and_e hg
  have ha0 := hgs
  obtain ⟨w0, rfl⟩ : ∃ w0 : Value, args = #[w0] := by
    have hs : args.size = 1 := by simpa [Cond.value, given_1] using hcount
    obtain ⟨L⟩ := args
    match L, hs with
    | [w0], _ => exact ⟨w0, rfl⟩
  have hw := fun d (hd : d ∈ tables_1) => atoms_spec (ws := Jvm.Cond.code x code maxLocals ret :: tables_1) hat d (List.mem_cons_of_mem _ hd)
  have hfit : Fit s := fun {y c} hc i hi => by
    obtain ⟨ha, rfl⟩ := Array.getElem?_eq_some_iff.mp hc
    have q := List.all_eq_true.mp ((Array.all_eq_true_iff_forall_mem.mp hF) _ (Array.getElem_mem ha)) i (List.mem_range.mpr hi)
    simpa [Array.getElem?_eq_getElem hi] using q
  obtain ⟨i0, ei0⟩ := is_v ha0
  obtain rfl : w0 = (.int i0) := Option.some.inj ei0
  obtain ⟨m0, hn0⟩ := and_e hn
  obtain ⟨m1, hn1⟩ := and_e hn0
  obtain ⟨m2, hn2⟩ := and_e hn1
  obtain ⟨m3, hn3⟩ := and_e hn2
  obtain ⟨m4, hn4⟩ := and_e hn3
  obtain ⟨m5, hn5⟩ := and_e hn4
  obtain ⟨m6, hn6⟩ := and_e hn5
  obtain ⟨m7, hn7⟩ := and_e hn6
  obtain ⟨m8, hn8⟩ := and_e hn7
  obtain ⟨m9, hn9⟩ := and_e hn8
  obtain ⟨m10, hn10⟩ := and_e hn9
  have m11 := hn10
  obtain ⟨u0, S0, E0, o0⟩ := own_enum m0 m2 (hw _ (List.mem_of_getElem? (i := 6) rfl)) (hw _ (List.mem_of_getElem? (i := 7) rfl))
  obtain ⟨u1, S1, E1, o1⟩ := own_enum m8 m9 (hw _ (List.mem_of_getElem? (i := 6) rfl)) (hw _ (List.mem_of_getElem? (i := 20) rfl))
  obtain ⟨u2, S2, E2, o2⟩ := own_enum m6 m7 (hw _ (List.mem_of_getElem? (i := 6) rfl)) (hw _ (List.mem_of_getElem? (i := 18) rfl))
  obtain ⟨u3, S3, E3, o3⟩ := own_enum m4 m5 (hw _ (List.mem_of_getElem? (i := 6) rfl)) (hw _ (List.mem_of_getElem? (i := 16) rfl))
  obtain ⟨u4, S4, E4, o4⟩ := own_enum m10 m11 (hw _ (List.mem_of_getElem? (i := 6) rfl)) (hw _ (List.mem_of_getElem? (i := 23) rfl))
  obtain ⟨u5, S5, E5, o5⟩ := own_enum m1 m3 (hw _ (List.mem_of_getElem? (i := 6) rfl)) (hw _ (List.mem_of_getElem? (i := 14) rfl))
  obtain ⟨n, o, h1, h2, h3, _, L, rfl, ⟨rfl, N⟩, hq⟩ := rm0 l s _ hw tables_1 i0 u0 u1 u2 u3 u4 u5 s.heap s.heap.size (Nat.le_refl _) S0 S1 S2 S3 S4 S5 E0 E1 E2 E3 E4 E5 (own_ne o0 o5 (by decide)) (own_ne o1 o5 (by decide)) (own_ne o2 o5 (by decide)) (own_ne o3 o5 (by decide)) (own_ne o4 o5 (by decide)) p e ha hc hk s m _ below hf ((Spec.applies_iff_loose hf).mp happ).1 ⟨rfl, State.Warmed39.refl s, rfl⟩ trivial
  refine ⟨n, _, h1, h2, h3, hpost _ _ _ _ _ _ ⟨Cond.after_iff.mpr rfl, Cond.after_iff.mpr (eq_i res_at (Term.int_eval (1)) rfl), trivial⟩ ⟨hq.1, hq.2.1, (hq.2.2.sift fun y hy => Or.inr (N y hy)).mono (by decide) (by decide)⟩⟩
theorem main_1_1 : Claimed_1_1 := comes_1 fun _ _ _ _ _ _ h hF => ⟨h.1, hF⟩
theorem main_1_2 : Claimed_1_2 := comes_1 fun _ _ _ _ _ _ h hF => ⟨h.2.1, hF⟩
end Jvm.Pilot.@@N@@
namespace Jvm.Pilot.@@N@@
open Jvm Jvm.ClassFile Sem Op Lib Jvm.Free Jvm.Stand Jvm.Pilot.@@N@@.Jvm.D
/-! MADE BY PROGRAM (witnessworld.py) out of the Statement's table words and the real class files: 12 classes; the members and pool entries that the words name. The judged class is class 1, her method 2. -/
namespace start1
open Jvm.ClassFile
def u (s : String) : CpInfo := .utf8 (stringToUtf16 s)
/-- a pool by its gaps: so many unusable entries, then the entry; so many at the end -/
def gap : Nat → List CpInfo → List CpInfo
  | 0, r => r
  | n + 1, r => .unusable :: gap n r
def poolList (es : List (Nat × CpInfo)) (last : Nat) : List CpInfo := es.foldr (fun e r => gap e.1 (e.2 :: r)) (gap last [])
def pool (es : List (Nat × CpInfo)) (last : Nat) : Array CpInfo := ⟨poolList es last⟩
def fileOf (pool : Array CpInfo) (this : Nat) (attrs : Array Attribute := #[]) (ms : Array MethodInfo := #[]) (fl : Nat := 33) (sup : Nat := 0) (ifs : Array Nat := #[]) (fds : Array FieldInfo := #[]) : ClassFile where
  minorVersion := 0
  majorVersion := 65
  constantPool := pool
  accessFlags := fl
  thisClass := this
  superClass := sup
  interfaces := ifs
  fields := fds
  methods := ms
  attributes := attrs
def plain (name : String) (sup : Option ClassId) : Class where
  name := name
  kind := .ordinary
  loader := none
  accessFlags := 33
  super := sup
  interfaces := #[]
  cf := none
  fields := #[]
  methods := #[]
  instanceTypes := #[]
  staticTypes := #[]
  resolved := #[]
  callSites := []
  init := .initialized
  statics := none
  mirror := none

def pool0 : Array CpInfo := pool [(5, u "<init>"), (0, u "()V"), (1, .class_ 10), (1, u "java/lang/Object")] 113

def k0m0 : Method := { name := "<init>", desc := "()V", sig := { parameters := [], returnType := none }, accessFlags := 1, code := none }
/-- java/lang/Object -/
def k0 : Class := { plain "java/lang/Object" none with
  accessFlags := 33
  interfaces := #[]
  cf := some (fileOf pool0 8 #[] #[{ accessFlags := 1, nameIndex := 5, descriptorIndex := 6, attributes := #[] }] 33 0 #[] #[])
  fields := #[]
  methods := #[k0m0]
  instanceTypes := #[]
  staticTypes := #[]
  resolved := Array.replicate 124 none
  statics := none }

def pool1 : Array CpInfo := pool [(2, .class_ 4), (1, u "java/lang/Object"), (0, u "<init>"), (0, u "()V"), (0, .fieldref 8 9), (0, .class_ 10), (0, .nameAndType 11 12), (0, u "com/example/haversack/haversack/BagItVersion"), (0, u "V0_93"), (0, u "Lcom/example/haversack/haversack/BagItVersion;"), (0, .fieldref 8 14), (0, .nameAndType 15 12), (0, u "V0_94"), (0, .fieldref 8 17), (0, .nameAndType 18 12), (0, u "V0_95"), (0, .fieldref 8 20), (0, .nameAndType 21 12), (0, u "V0_96"), (0, .fieldref 8 23), (0, .nameAndType 24 12), (0, u "V0_97"), (0, .fieldref 8 26), (0, .nameAndType 27 12), (0, u "V1_0"), (0, .integer 2147483647), (0, .methodref 30 31), (0, .class_ 32), (0, .nameAndType 33 34), (0, u "com/example/haversack/haversack/BagItVersionAllowsSpaceAroundColonPinLaw"), (0, u "pick"), (0, u "(I)Lcom/example/haversack/haversack/BagItVersion;"), (0, .methodref 8 36), (0, .nameAndType 37 38), (0, u "allowsSpaceAroundColon"), (0, u "()Z"), (3, u "law"), (0, u "(I)Z")] 2

def k1m0 : Method := { name := "<init>", desc := "()V", sig := { parameters := [], returnType := none }, accessFlags := 1, code := none }
def k1c1 : Code := { maxStack := 2, maxLocals := 1, code := method_2_code, exceptionTable := #[], attributes := #[] }
def k1m1 : Method := { name := "pick", desc := "(I)Lcom/example/haversack/haversack/BagItVersion;", sig := { parameters := [.int], returnType := some (.object "com/example/haversack/haversack/BagItVersion") }, accessFlags := 10, code := some k1c1 }
def k1c2 : Code := { maxStack := 2, maxLocals := 4, code := code, exceptionTable := #[], attributes := #[] }
def k1m2 : Method := { name := "law", desc := "(I)Z", sig := { parameters := [.int], returnType := some .boolean }, accessFlags := 9, code := some k1c2 }
/-- com/example/haversack/haversack/BagItVersionAllowsSpaceAroundColonPinLaw -/
def k1 : Class := { plain "com/example/haversack/haversack/BagItVersionAllowsSpaceAroundColonPinLaw" (some 0) with
  accessFlags := 49
  interfaces := #[]
  cf := some (fileOf pool1 30 #[] #[{ accessFlags := 1, nameIndex := 5, descriptorIndex := 6, attributes := #[] }, { accessFlags := 10, nameIndex := 33, descriptorIndex := 34, attributes := #[] }, { accessFlags := 9, nameIndex := 42, descriptorIndex := 43, attributes := #[] }] 49 2 #[] #[])
  fields := #[]
  methods := #[k1m0, k1m1, k1m2]
  instanceTypes := #[]
  staticTypes := #[]
  resolved := Array.replicate 46 none
  statics := none }

def pool2 : Array CpInfo := pool [(1, .class_ 2), (0, u "java/lang/constant/Constable"), (0, .class_ 4), (0, u "java/lang/Object")] 6

/-- java/lang/constant/Constable -/
def k2 : Class := { plain "java/lang/constant/Constable" (some 0) with
  accessFlags := 1537
  interfaces := #[]
  cf := some (fileOf pool2 1 #[] #[] 1537 3 #[] #[])
  fields := #[]
  methods := #[]
  instanceTypes := #[]
  staticTypes := #[]
  resolved := Array.replicate 11 none
  statics := none }

def pool3 : Array CpInfo := pool [(1, .class_ 2), (0, u "java/lang/Comparable"), (0, .class_ 4), (0, u "java/lang/Object")] 7

/-- java/lang/Comparable -/
def k3 : Class := { plain "java/lang/Comparable" (some 0) with
  accessFlags := 1537
  interfaces := #[]
  cf := some (fileOf pool3 1 #[] #[] 1537 3 #[] #[])
  fields := #[]
  methods := #[]
  instanceTypes := #[]
  staticTypes := #[]
  resolved := Array.replicate 12 none
  statics := none }

def pool4 : Array CpInfo := pool [(1, .class_ 2), (0, u "java/io/Serializable"), (0, .class_ 4), (0, u "java/lang/Object")] 2

/-- java/io/Serializable -/
def k4 : Class := { plain "java/io/Serializable" (some 0) with
  accessFlags := 1537
  interfaces := #[]
  cf := some (fileOf pool4 1 #[] #[] 1537 3 #[] #[])
  fields := #[]
  methods := #[]
  instanceTypes := #[]
  staticTypes := #[]
  resolved := Array.replicate 7 none
  statics := none }

def pool5 : Array CpInfo := pool [(2, .class_ 4), (1, u "java/lang/Enum"), (0, u "name"), (0, u "Ljava/lang/String;"), (2, u "ordinal"), (0, u "I"), (1, .class_ 14), (1, u "java/lang/Object"), (4, u "hash"), (86, .class_ 108), (1, u "java/lang/Enum$EnumDesc"), (2, .class_ 112), (0, u "java/lang/constant/Constable"), (0, .class_ 114), (0, u "java/lang/Comparable"), (0, .class_ 116), (0, u "java/io/Serializable")] 87

/-- java/lang/Enum -/
def k5 : Class := { plain "java/lang/Enum" (some 0) with
  accessFlags := 1057
  interfaces := #[2, 3, 4]
  cf := some (fileOf pool5 2 #[.nestMembers #[106]] #[] 1057 12 #[111, 113, 115] #[{ accessFlags := 18, nameIndex := 5, descriptorIndex := 6, attributes := #[] }, { accessFlags := 18, nameIndex := 9, descriptorIndex := 10, attributes := #[] }, { accessFlags := 2, nameIndex := 19, descriptorIndex := 10, attributes := #[] }])
  fields := #[{ name := "name", type := (.object "java/lang/String"), accessFlags := 18, slot := 0, constantValue := 0 }, { name := "ordinal", type := .int, accessFlags := 18, slot := 1, constantValue := 0 }, { name := "hash", type := .int, accessFlags := 2, slot := 2, constantValue := 0 }]
  methods := #[]
  instanceTypes := #[(.object "java/lang/String"), .int, .int]
  staticTypes := #[]
  resolved := Array.replicate 204 none
  statics := none }

def pool6 : Array CpInfo := pool [(1, .class_ 2), (0, u "com/example/haversack/haversack/BagItVersion"), (2, u "V0_93"), (0, u "Lcom/example/haversack/haversack/BagItVersion;"), (2, u "V0_94"), (2, u "V0_95"), (2, u "V0_96"), (2, u "V0_97"), (0, .fieldref 1 20), (0, .nameAndType 21 6), (0, u "V1_0"), (2, u "$VALUES"), (0, u "[Lcom/example/haversack/haversack/BagItVersion;"), (6, .class_ 34), (1, u "java/lang/Enum"), (8, u "number"), (0, u "Ljava/lang/String;"), (70, u "NEWEST"), (14, u "()Z"), (1, u "allowsSpaceAroundColon")] 5

def k6c0 : Code := { maxStack := 2, maxLocals := 1, code := prog_12_method_10_code, exceptionTable := #[], attributes := #[] }
def k6m0 : Method := { name := "allowsSpaceAroundColon", desc := "()Z", sig := { parameters := [], returnType := some .boolean }, accessFlags := 0, code := some k6c0 }
/-- com/example/haversack/haversack/BagItVersion -/
def k6 : Class := { plain "com/example/haversack/haversack/BagItVersion" (some 5) with
  accessFlags := 16432
  interfaces := #[]
  cf := some (fileOf pool6 1 #[] #[{ accessFlags := 0, nameIndex := 132, descriptorIndex := 130, attributes := #[] }] 16432 32 #[] #[{ accessFlags := 16409, nameIndex := 5, descriptorIndex := 6, attributes := #[] }, { accessFlags := 16409, nameIndex := 9, descriptorIndex := 6, attributes := #[] }, { accessFlags := 16409, nameIndex := 12, descriptorIndex := 6, attributes := #[] }, { accessFlags := 16409, nameIndex := 15, descriptorIndex := 6, attributes := #[] }, { accessFlags := 16409, nameIndex := 18, descriptorIndex := 6, attributes := #[] }, { accessFlags := 16409, nameIndex := 21, descriptorIndex := 6, attributes := #[] }, { accessFlags := 24, nameIndex := 115, descriptorIndex := 6, attributes := #[] }, { accessFlags := 18, nameIndex := 43, descriptorIndex := 44, attributes := #[] }, { accessFlags := 4122, nameIndex := 24, descriptorIndex := 25, attributes := #[] }])
  fields := #[{ name := "V0_93", type := (.object "com/example/haversack/haversack/BagItVersion"), accessFlags := 16409, slot := 0, constantValue := 0 }, { name := "V0_94", type := (.object "com/example/haversack/haversack/BagItVersion"), accessFlags := 16409, slot := 1, constantValue := 0 }, { name := "V0_95", type := (.object "com/example/haversack/haversack/BagItVersion"), accessFlags := 16409, slot := 2, constantValue := 0 }, { name := "V0_96", type := (.object "com/example/haversack/haversack/BagItVersion"), accessFlags := 16409, slot := 3, constantValue := 0 }, { name := "V0_97", type := (.object "com/example/haversack/haversack/BagItVersion"), accessFlags := 16409, slot := 4, constantValue := 0 }, { name := "V1_0", type := (.object "com/example/haversack/haversack/BagItVersion"), accessFlags := 16409, slot := 5, constantValue := 0 }, { name := "NEWEST", type := (.object "com/example/haversack/haversack/BagItVersion"), accessFlags := 24, slot := 6, constantValue := 0 }, { name := "number", type := (.object "java/lang/String"), accessFlags := 18, slot := 3, constantValue := 0 }, { name := "$VALUES", type := (.array (.object "com/example/haversack/haversack/BagItVersion")), accessFlags := 4122, slot := 7, constantValue := 0 }]
  methods := #[k6m0]
  instanceTypes := #[(.object "java/lang/String"), .int, .int, (.object "java/lang/String")]
  staticTypes := #[(.object "com/example/haversack/haversack/BagItVersion"), (.object "com/example/haversack/haversack/BagItVersion"), (.object "com/example/haversack/haversack/BagItVersion"), (.object "com/example/haversack/haversack/BagItVersion"), (.object "com/example/haversack/haversack/BagItVersion"), (.object "com/example/haversack/haversack/BagItVersion"), (.object "com/example/haversack/haversack/BagItVersion"), (.array (.object "com/example/haversack/haversack/BagItVersion"))]
  resolved := Array.replicate 138 none
  statics := some 0 }

def pool7 : Array CpInfo := pool [(1, u "java/lang/Cloneable"), (0, .class_ 1), (0, u "java/lang/Object"), (0, .class_ 3)] 3

/-- java/lang/Cloneable -/
def k7 : Class := { plain "java/lang/Cloneable" (some 0) with
  accessFlags := 1537
  interfaces := #[]
  cf := some (fileOf pool7 2 #[] #[] 1537 4 #[] #[])
  fields := #[]
  methods := #[]
  instanceTypes := #[]
  staticTypes := #[]
  resolved := Array.replicate 8 none
  statics := none }

/-- the primitive byte -/
def k8 : Class := { plain "byte" none with kind := .primitive 'B', accessFlags := 0x411 }
/-- [B -/
def k9 : Class := { plain "[B" (some 0) with kind := .array 8 .byte, interfaces := #[7, 4], accessFlags := 1041 }

/-- the primitive int -/
def k10 : Class := { plain "int" none with kind := .primitive 'I', accessFlags := 0x411 }
/-- [I -/
def k11 : Class := { plain "[I" (some 0) with kind := .array 10 .int, interfaces := #[7, 4], accessFlags := 1041 }

def heap : Heap := #[{ cls := 6, slots := #[.ref 1, .ref 2, .ref 3, .ref 4, .ref 5, .ref 6, .null, .null], vm := .statics 6 },
  { cls := 6, slots := #[.null, .int 0, .int 0, .null], vm := .none },
  { cls := 6, slots := #[.null, .int 1, .int 0, .null], vm := .none },
  { cls := 6, slots := #[.null, .int 2, .int 0, .null], vm := .none },
  { cls := 6, slots := #[.null, .int 3, .int 0, .null], vm := .none },
  { cls := 6, slots := #[.null, .int 4, .int 0, .null], vm := .none },
  { cls := 6, slots := #[.null, .int 5, .int 0, .null], vm := .none }]
def classes : Array Class := #[k0, k1, k2, k3, k4, k5, k6, k7, k8, k9, k10, k11]
def interned : List (Array UInt16 × Addr) := []
def slotsUsed : Nat := 32
def theMethod : MethodId := ⟨1, 2⟩
def args0 : Array Value := #[.int 5]
def aboutOver (below : List Frame) : State where
  vm := { classes := classes, interned := interned.toArray }
  heap := heap
  slotsUsed := slotsUsed
  threads := #[{ frames := .invoking theMethod args0 :: below }]
def below0 : List Frame := [.native { method := ⟨0, 0⟩, args := #[] }]
def about1 : State := aboutOver below0
def p0 : Program := .bare "" "" ""
def e0 : Env := launch0.env 0 0 0
theorem w_frames : about1.frames = Frame.invoking theMethod args0 :: below0 := rfl
set_option maxRecDepth 65536 in
theorem w_args : argsFit about1.vm theMethod args0 = true := by decide +kernel
set_option maxRecDepth 65536 in
theorem w_heap : heapFits about1 = true := by decide +kernel
set_option maxRecDepth 65536 in
theorem w_runnable : about1.curStatus? = some .runnable := by decide +kernel
set_option maxRecDepth 65536 in
theorem w_alone : about1.alone = true := by decide +kernel
set_option maxRecDepth 65536 in
theorem w_named : about1.methodNamed? x = some theMethod := by decide +kernel
set_option maxRecDepth 65536 in
theorem w_hears : about1.hears theMethod below0 = true := by decide +kernel
set_option maxRecDepth 65536 in
theorem w_ripe : about1.ripe theMethod args0 below0 = true := by decide +kernel
theorem w_running : about1.status = .running := rfl
set_option maxRecDepth 65536 in
theorem w_room : about1.hasRoom e0.platform room_1 = true :=
  launch0.hasRoom_least _ room_1 (by decide +kernel) (by decide +kernel) (by decide +kernel) (by decide +kernel) (by decide +kernel) (by decide +kernel)
theorem allAtoms_all (ts : List Jvm.Cond) (a : Array Jvm.Value) (st : Jvm.State) : (allAtoms ts).before a st = ts.all (fun c => c.before a st) := by
  induction ts with
  | nil => rfl
  | cons c t ih =>
    show (Jvm.Cond.and c (allAtoms t)).before a st = _
    rw [Jvm.Cond.before_and, ih, List.all_cons]
def words1 : List Jvm.Cond := Jvm.Cond.code x code maxLocals ret :: tables_1
/-- a 'code' word, met by the world's own term for the bytes: nothing is compared byte by byte -/
theorem code_word {y : MethodName} {bytes : ByteArray} {mx : Nat} {rt : Option FieldType} {a : Array Value} {s : State} {m : MethodId} {meth : Method} {c : Code} (h1 : s.methodNamed? y = some m) (h2 : s.vm.method? m = some meth) (h3 : meth.code = some c) (h4 : c.code = bytes)
    (h5 : (c.maxLocals == mx && c.exceptionTable.isEmpty && decide (c.maxStack ≤ mostOperands) && decide (meth.sig.returnType = rt) && !meth.locks && decide (parseMethodDescriptor y.desc = some meth.sig)) = true) : (Jvm.Cond.code y bytes mx rt).before a s = true := by
  simp only [Bool.and_eq_true, beq_iff_eq, Bool.not_eq_true', decide_eq_true_eq] at h5
  obtain ⟨⟨⟨⟨⟨g1, g2⟩, g3⟩, g4⟩, g5⟩, g6⟩ := h5
  simp [Cond.before, Cond.holds, Cond.value, h1, h2, h3, h4, g1, g2, g3, g4, g5, g6]
def isCode : Jvm.Cond → Bool
  | .code _ _ _ _ => true
  | _ => false
theorem all_split {L : List Jvm.Cond} {P : Jvm.Cond → Bool} (h1 : L.all (fun c => isCode c || P c) = true) (h2 : ∀ c ∈ L.filter isCode, P c = true) : L.all P = true := by
  refine List.all_eq_true.mpr fun c hc => ?_
  have h := List.all_eq_true.mp h1 c hc
  rcases Bool.eq_false_or_eq_true (isCode c) with hi | hi
  · exact h2 c (List.mem_filter.mpr ⟨hc, hi⟩)
  · simpa [hi] using h
set_option maxRecDepth 65536 in
theorem w_c0 : (Jvm.Cond.code x code maxLocals ret).before args0 about1 = true := code_word (m := ⟨1, 2⟩) (meth := k1m2) (c := k1c2) (by decide +kernel) rfl rfl rfl (by decide +kernel)
set_option maxRecDepth 65536 in
theorem w_c1 : (Jvm.Cond.code ({ cls := "com/example/haversack/haversack/BagItVersionAllowsSpaceAroundColonPinLaw", name := "pick", desc := "(I)Lcom/example/haversack/haversack/BagItVersion;" } : Jvm.MethodName) method_2_code (1 : Nat) (Option.some (Jvm.ClassFile.FieldType.object "com/example/haversack/haversack/BagItVersion"))).before args0 about1 = true := code_word (m := ⟨1, 1⟩) (meth := k1m1) (c := k1c1) (by decide +kernel) rfl rfl rfl (by decide +kernel)
set_option maxRecDepth 65536 in
theorem w_c2 : (Jvm.Cond.code ({ cls := "com/example/haversack/haversack/BagItVersion", name := "allowsSpaceAroundColon", desc := "()Z" } : Jvm.MethodName) prog_12_method_10_code (1 : Nat) (Option.some Jvm.ClassFile.FieldType.boolean)).before args0 about1 = true := code_word (m := ⟨6, 0⟩) (meth := k6m0) (c := k6c0) (by decide +kernel) rfl rfl rfl (by decide +kernel)
def codes1 : List Jvm.Cond := [Jvm.Cond.code x code maxLocals ret, Jvm.Cond.code ({ cls := "com/example/haversack/haversack/BagItVersionAllowsSpaceAroundColonPinLaw", name := "pick", desc := "(I)Lcom/example/haversack/haversack/BagItVersion;" } : Jvm.MethodName) method_2_code (1 : Nat) (Option.some (Jvm.ClassFile.FieldType.object "com/example/haversack/haversack/BagItVersion")), Jvm.Cond.code ({ cls := "com/example/haversack/haversack/BagItVersion", name := "allowsSpaceAroundColon", desc := "()Z" } : Jvm.MethodName) prog_12_method_10_code (1 : Nat) (Option.some Jvm.ClassFile.FieldType.boolean)]
set_option maxRecDepth 65536 in
theorem codes_eq : words1.filter isCode = codes1 := rfl
theorem w_codes : ∀ c ∈ words1.filter isCode, c.before args0 about1 = true := by
  rw [codes_eq]
  intro c hc
  simp only [codes1, List.mem_cons, List.not_mem_nil, or_false] at hc
  rcases hc with rfl | rfl | rfl
  · exact w_c0
  · exact w_c1
  · exact w_c2
set_option maxRecDepth 65536 in
theorem w_t1 : (words1.take 24).all (fun c => isCode c || c.before args0 about1) = true := by decide +kernel
set_option maxRecDepth 65536 in
theorem w_t2 : (words1.drop 24).all (fun c => isCode c || c.before args0 about1) = true := by decide +kernel
theorem w_tables : (allAtoms (Jvm.Cond.code x code maxLocals ret :: tables_1)).before args0 about1 = true := by
  rw [allAtoms_all]
  show words1.all (fun c => c.before args0 about1) = true
  refine all_split ?_ w_codes
  rw [← List.take_append_drop 24 words1, List.all_append, w_t1, w_t2]
  rfl
set_option maxRecDepth 65536 in
theorem w_case : (Jvm.Cond.and given_1 narrow_1).before args0 about1 = true := by decide +kernel
theorem w_applies : (headSpec (Jvm.Cond.code x code maxLocals ret :: tables_1) room_1).applies x e0.platform about1 = true :=
  (Spec.applies_iff w_frames).mpr ⟨w_running, w_runnable, w_alone, w_named, w_hears, w_ripe, w_room, w_tables⟩
theorem atStart : AtStart classFile x code maxLocals ret World_1 tables_1 room_1 Calls_1 rest_1 Pre_1 launch0 p0 e0 about1 theMethod args0 below0 :=
  ⟨lists_1, trivial, launch0.admits_env _ _ _, launch0.least_env, fairChoices_fair.cas, fairChoices_fair.clock, w_frames, w_args, w_heap, w_applies, trivial, trivial, w_case⟩
end start1
theorem witness_1 : WitnessClaimed_1 := ⟨start1.p0, start1.e0, start1.about1, start1.theMethod, start1.args0, start1.below0, start1.atStart⟩
end Jvm.Pilot.@@N@@

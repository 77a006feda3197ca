import JvmDerived
import JvmDerived.Pilot.@@N@@Statement
import JvmDerived.Pilot.@@N@@Code
set_option linter.unusedVariables false
set_option linter.unusedSimpArgs false
namespace Jvm.Pilot.@@N@@
open Jvm Jvm.ClassFile Sem Op Lib Jvm.Free Jvm.Stand Jvm.LawKit Jvm.RoadKit Bundle Jvm.Pilot.@@N@@.Jvm.D
/-! the walk in continuation style: 'from U the run comes to an end of which P holds' -/
def OwnGoes (p : Program) (e : Env) (below : List Frame) (P : Outcome → State → Prop) (U : State) : Prop := ∃ s₂ o, Steps p.tables e below U s₂ ∧ s₂.status = .running ∧ Ended s₂ below o ∧ P o s₂
theorem own_pre {p : Program} {e : Env} {below : List Frame} {P : Outcome → State → Prop} {U U' : State} (h : ∀ t, Steps p.tables e below U' t → Steps p.tables e below U t) (k : OwnGoes p e below P U') : OwnGoes p e below P U := by
  obtain ⟨s₂, o, h1, h2⟩ := k
  exact ⟨s₂, o, h _ h1, h2⟩
theorem own_tr {p : Program} {e : Env} {below : List Frame} {P : Outcome → State → Prop} {U U' : State} (h : Steps p.tables e below U U') (k : OwnGoes p e below P U') : OwnGoes p e below P U := own_pre (fun _ q => h.trans q) k
theorem own_ret {p : Program} {l : Launch} {e : Env} {R : Room} {s : State} {m : MethodId} {args : Array Value} {below : List Frame} {meth : Method} {c : Code} {T : State} {locs : List Loc} {cells slots : Nat}
    (X : Stand p l e R s m args below meth c T locs cells slots) (hx : p.tables.exec = Jvm.exec) {pc : Nat} {Ls : Array Slot} {w : Value} {t : FieldType} {i : Instr} {rest : List Value} (hret : meth.sig.returnType = some t) (hn : narrow t w = w)
    (hi : (i = .ireturn ∧ (t = .int ∨ t = .boolean ∨ t = .byte ∨ t = .char ∨ t = .short) ∧ ∃ z, w = .int z) ∨ (i = .lreturn ∧ t = .long ∧ ∃ z, w = .long z) ∨ (i = .dreturn ∧ t = .double ∧ ∃ z, w = .double z) ∨ (i = .freturn ∧ t = .float ∧ ∃ z, w = .float z) ∨ (i = .areturn ∧ t.isReference = true ∧ w.isRef = true))
    (hlocks : meth.locks = false) (hd : decode c.code pc = .ok (i, 1)) {Qh : Option Value → Heap → List Loc → Prop} {rc rs : Nat} (hQ : Qh (some w) T.heap locs) (hc : cells ≤ rc) (hs : slots ≤ rs) :
    OwnGoes p e below (fun o U' => ∃ v L, o = .returned v ∧ Qh v U'.heap L ∧ FrameEnd s o U' L rc rs) (T.setTop (mkF m pc Ls (w :: rest))) := by
  obtain ⟨fs, hr, hrun, hended, hW, hsame⟩ := X.leave (v := some w) (fun h => by rw [hret] at h; cases h) hlocks
  exact ⟨_, _, retOut X hx hret hn hi hd hr, hrun, hended, _, _, rfl, hQ, ⟨_, rfl⟩, hW, hsame.mono hc hs⟩
theorem own_retV {p : Program} {l : Launch} {e : Env} {R : Room} {s : State} {m : MethodId} {args : Array Value} {below : List Frame} {meth : Method} {c : Code} {T : State} {locs : List Loc} {cells slots : Nat}
    (X : Stand p l e R s m args below meth c T locs cells slots) (hx : p.tables.exec = Jvm.exec) {pc : Nat} {Ls : Array Slot} (hret : meth.sig.returnType = none) (hlocks : meth.locks = false) (hd : decode c.code pc = .ok (.return_, 1)) {Qh : Option Value → Heap → List Loc → Prop} {rc rs : Nat} (hQ : Qh none T.heap locs) (hc : cells ≤ rc) (hs : slots ≤ rs) :
    OwnGoes p e below (fun o U' => ∃ v L, o = .returned v ∧ Qh v U'.heap L ∧ FrameEnd s o U' L rc rs) (T.setTop (mkF m pc Ls [])) := by
  obtain ⟨fs, hr, hrun, hended, hW, hsame⟩ := X.leave (v := none) (fun _ => rfl) hlocks
  exact ⟨_, _, X.returnOut hx hret hd hr, hrun, hended, _, _, rfl, hQ, ⟨_, rfl⟩, hW, hsame.mono hc hs⟩

theorem own_enum {args : Array Value} {s : State} {C f d : String} {k : Int32} (hx : (Jvm.Cond.exactly (Term.static C f d) C).value args s none s [] = some true)
    (ho : (Jvm.Cond.eq (Term.field (Term.static C f d) "java/lang/Enum" "ordinal" "I") (Term.int k)).value args s none s [] = some true)
    (hi : (Jvm.Cond.initialized C).before args s = true) (hl : (Jvm.Cond.laysStatic C f d).before args s = true) :
    ∃ a, Sta s s.heap C f d (.ref a) ∧ Exa s s.heap a C ∧ s.fieldOf? a "java/lang/Enum" "ordinal" "I" = some (.int k) := by
  obtain ⟨a, ev⟩ := exa_v hx
  refine ⟨a, Sta.start ev (Or.inr ⟨hi, hl⟩), Exa.start ev hx, ?_⟩
  have e := eqv_i (Term.int_eval k) ho
  rw [fld_at ev] at e
  exact e
theorem own_ne {s : State} {a b : Addr} {k k' : Int32} (h : s.fieldOf? a "java/lang/Enum" "ordinal" "I" = some (.int k)) (h' : s.fieldOf? b "java/lang/Enum" "ordinal" "I" = some (.int k')) (hk : ¬ k = k') : ¬ a = b := fun e => by
  subst e
  rw [h] at h'
  exact hk (by injection h' with q; injection q)


theorem own_mod (x : Int32) : (x &&& 2147483647) % (6 : Int32) = (0 : Int32) ∨ (x &&& 2147483647) % (6 : Int32) = (1 : Int32) ∨ (x &&& 2147483647) % (6 : Int32) = (2 : Int32) ∨ (x &&& 2147483647) % (6 : Int32) = (3 : Int32) ∨ (x &&& 2147483647) % (6 : Int32) = (4 : Int32) ∨ (x &&& 2147483647) % (6 : Int32) = (5 : Int32) := by
  have h1 := c_mask x 2147483647 31 (by decide) (by decide)
  have h2 := (c_irem (x &&& 2147483647) (6 : Int32) 6 (by decide)).1 (by rw [h1]; omega)
  have h3 : ((x &&& 2147483647) % (6 : Int32)).toInt = 0 ∨ ((x &&& 2147483647) % (6 : Int32)).toInt = 1 ∨ ((x &&& 2147483647) % (6 : Int32)).toInt = 2 ∨ ((x &&& 2147483647) % (6 : Int32)).toInt = 3 ∨ ((x &&& 2147483647) % (6 : Int32)).toInt = 4 ∨ ((x &&& 2147483647) % (6 : Int32)).toInt = 5 := by omega
  rcases h3 with h | h | h | h | h | h
  · exact Or.inl (Int32.toInt_inj.mp h)
  · exact Or.inr (Or.inl (Int32.toInt_inj.mp h))
  · exact Or.inr (Or.inr (Or.inl (Int32.toInt_inj.mp h)))
  · exact Or.inr (Or.inr (Or.inr (Or.inl (Int32.toInt_inj.mp h))))
  · exact Or.inr (Or.inr (Or.inr (Or.inr (Or.inl (Int32.toInt_inj.mp h)))))
  · exact Or.inr (Or.inr (Or.inr (Or.inr (Or.inr ((Int32.toInt_inj.mp h))))))

/-! an array by the list of what it holds -/
def OwnA (Z : State) (h : Heap) (b : Addr) (ty : FieldType) (vs : List Value) : Prop := ∃ c : Cell, Jvm.RoadKit.Arr Z h b c ty ∧ c.slots = vs.toArray
section OwnArrays
variable {Z : State} {h h' : Heap} {a b : Addr} {ty : FieldType} {vs ws : List Value} {v : Value} {sl : Nat} {as : List Addr}
theorem OwnA.lt (F : OwnA Z h b ty vs) : b < h.size := by obtain ⟨c, A, -⟩ := F; exact A.lt
theorem OwnA.ext (F : OwnA Z h b ty vs) (E : Ext h h') : OwnA Z h' b ty vs := by obtain ⟨c, A, r⟩ := F; exact ⟨c, A.ext E, r⟩
theorem OwnA.other (F : OwnA Z h b ty vs) (W : Wr h h' a sl v) (q : b ≠ a) : OwnA Z h' b ty vs := by obtain ⟨c, A, r⟩ := F; exact ⟨c, A.other W q, r⟩
theorem OwnA.keep (F : OwnA Z h b ty vs) (K : Keep h h' as) (q : b ∉ as) : OwnA Z h' b ty vs := by obtain ⟨c, A, r⟩ := F; exact ⟨c, ⟨K.2.1 _ _ A.1 q, A.2⟩, r⟩
theorem OwnA.same (F : OwnA Z h a ty vs) (W : Wr h h' a sl v) : OwnA Z h' a ty (vs.set sl v) := by
  obtain ⟨c, A, r⟩ := F
  refine ⟨_, A.same W, ?_⟩
  show c.slots.setIfInBounds sl v = _
  rw [r]; simp
theorem OwnA.plain (F : OwnA Z h a ty vs) : ∀ cell : Cell, h[a]? = some cell → cell.vm.isStatics = false := fun cell hc => by
  obtain ⟨c, A, r⟩ := F
  cases hc.symm.trans A.1
  exact A.plain
variable {p : Program} {l : Launch} {e : Env} {R : Room} {s : State} {m : MethodId} {args : Array Value} {below : List Frame} {meth : Method} {c : Code} {T : State} {locs : List Loc} {cells slots : Nat} {a0 : Array Value}
theorem own_hin {c : Cell} {vs : List Value} {j : Int32} (hs : c.slots = vs.toArray) (h0 : ¬ j < 0) (h1 : j.toNatClampNeg < vs.length) : ¬ (j < 0 ∨ c.slots.size ≤ j.toNatClampNeg) := by
  rw [hs]; simp only [List.size_toArray]; intro q; rcases q with q | q
  · exact h0 q
  · omega
theorem own_alen (X : Stand p l e R s m args below meth c T locs cells slots) (hx : p.tables.exec = Jvm.exec) (hZ : Z.Warmed39 s.vm) (eT : T.heap = h) (A : OwnA Z h a ty vs) {n : Int32} (hn : n = Int32.ofNat vs.length)
    {g : JFrame} (hg : g.method = m) {rest : List Value} (hs : g.stack = .ref a :: rest) (hd : decode c.code g.pc = .ok (.arraylength, 1)) :
    ∀ t, Steps p.tables e below (T.setTop { g with pc := g.pc + 1, stack := .int n :: rest }) t → Steps p.tables e below (T.setTop g) t := fun t k => by
  obtain ⟨c, A, r⟩ := A
  refine X.arraylength hx (by rw [eT]; exact A.1) (State.isArrayOf_alike hZ.alike A.2.1) hg hs hd t ?_
  have q : c.slots.size.toInt32 = n := by rw [r, hn, List.size_toArray]
  rw [q]; exact k
theorem own_iald (X : Stand p l e R s m args below meth c T locs cells slots) (hx : p.tables.exec = Jvm.exec) (hZ : Z.Warmed39 s.vm) (eT : T.heap = h) (A : OwnA Z h a .int vs) {j : Int32} {v : Value} (h0 : ¬ j < 0) (hv : vs[j.toNatClampNeg]? = some v)
    {g : JFrame} (hg : g.method = m) {rest : List Value} (hs : g.stack = .int j :: .ref a :: rest) (hd : decode c.code g.pc = .ok (.iaload, 1)) :
    ∀ t, Steps p.tables e below (T.setTop { g with pc := g.pc + 1, stack := v :: rest }) t → Steps p.tables e below (T.setTop g) t := fun t k => by
  obtain ⟨c, A, r⟩ := A
  exact X.iaload hx (by rw [eT]; exact A.1) (State.isArrayOf_alike hZ.alike A.2.1) A.2.2 (own_hin r h0 (List.getElem?_eq_some_iff.mp hv).1) (by rw [r]; simpa using hv) hg hs hd t k
theorem own_lald (X : Stand p l e R s m args below meth c T locs cells slots) (hx : p.tables.exec = Jvm.exec) (hZ : Z.Warmed39 s.vm) (eT : T.heap = h) (A : OwnA Z h a .long vs) {j : Int32} {v : Value} (h0 : ¬ j < 0) (hv : vs[j.toNatClampNeg]? = some v)
    {g : JFrame} (hg : g.method = m) {rest : List Value} (hs : g.stack = .int j :: .ref a :: rest) (hd : decode c.code g.pc = .ok (.laload, 1)) :
    ∀ t, Steps p.tables e below (T.setTop { g with pc := g.pc + 1, stack := v :: rest }) t → Steps p.tables e below (T.setTop g) t := fun t k => by
  obtain ⟨c, A, r⟩ := A
  exact X.laload hx (by rw [eT]; exact A.1) (State.isArrayOf_alike hZ.alike A.2.1) A.2.2 (own_hin r h0 (List.getElem?_eq_some_iff.mp hv).1) (by rw [r]; simpa using hv) hg hs hd t k
theorem own_ist (X : Stand p l e R s m args below meth c T locs cells slots) (hx : p.tables.exec = Jvm.exec) (hZ : Z.Warmed39 s.vm) (eT : T.heap = h) (A : OwnA Z h a .int vs) {j x : Int32} (h0 : ¬ j < 0) (h1 : j.toNatClampNeg < vs.length)
    {g : JFrame} (hg : g.method = m) {rest : List Value} (hs : g.stack = .int x :: .int j :: .ref a :: rest) (hd : decode c.code g.pc = .ok (.iastore, 1)) :
    ∃ T' h', Stand p l e R s m args below meth c T' (locs ++ [⟨a, j.toNatClampNeg⟩]) cells slots ∧ T'.heap = h' ∧ Wr h h' a j.toNatClampNeg (.int x) ∧ OwnA Z h' a .int (vs.set j.toNatClampNeg (.int x)) ∧
      ∀ t, Steps p.tables e below (T'.setTop { g with pc := g.pc + 1, stack := rest }) t → Steps p.tables e below (T.setTop g) t := by
  have F := A
  obtain ⟨c, A, r⟩ := A
  obtain ⟨T', h', X', e', W, st⟩ := stI X hx hZ eT A (own_hin r h0 h1) hg hs hd
  exact ⟨T', h', X', e', W, F.same W, st⟩
theorem own_jst (X : Stand p l e R s m args below meth c T locs cells slots) (hx : p.tables.exec = Jvm.exec) (hZ : Z.Warmed39 s.vm) (eT : T.heap = h) (A : OwnA Z h a .long vs) {j : Int32} {x : Int64} (h0 : ¬ j < 0) (h1 : j.toNatClampNeg < vs.length)
    {g : JFrame} (hg : g.method = m) {rest : List Value} (hs : g.stack = .long x :: .int j :: .ref a :: rest) (hd : decode c.code g.pc = .ok (.lastore, 1)) :
    ∃ T' h', Stand p l e R s m args below meth c T' (locs ++ [⟨a, j.toNatClampNeg⟩]) cells slots ∧ T'.heap = h' ∧ Wr h h' a j.toNatClampNeg (.long x) ∧ OwnA Z h' a .long (vs.set j.toNatClampNeg (.long x)) ∧
      ∀ t, Steps p.tables e below (T'.setTop { g with pc := g.pc + 1, stack := rest }) t → Steps p.tables e below (T.setTop g) t := by
  have F := A
  obtain ⟨c, A, r⟩ := A
  obtain ⟨T', h', X', e', W, st⟩ := stJ X hx hZ eT A (own_hin r h0 h1) hg hs hd
  exact ⟨T', h', X', e', W, F.same W, st⟩
theorem own_dald (X : Stand p l e R s m args below meth c T locs cells slots) (hx : p.tables.exec = Jvm.exec) (hZ : Z.Warmed39 s.vm) (eT : T.heap = h) (A : OwnA Z h a .double vs) {j : Int32} {v : Value} (h0 : ¬ j < 0) (hv : vs[j.toNatClampNeg]? = some v)
    {g : JFrame} (hg : g.method = m) {rest : List Value} (hs : g.stack = .int j :: .ref a :: rest) (hd : decode c.code g.pc = .ok (.daload, 1)) :
    ∀ t, Steps p.tables e below (T.setTop { g with pc := g.pc + 1, stack := v :: rest }) t → Steps p.tables e below (T.setTop g) t := fun t k => by
  obtain ⟨c, A, r⟩ := A
  exact X.daload hx (by rw [eT]; exact A.1) (State.isArrayOf_alike hZ.alike A.2.1) A.2.2 (own_hin r h0 (List.getElem?_eq_some_iff.mp hv).1) (by rw [r]; simpa using hv) hg hs hd t k
theorem own_dst (X : Stand p l e R s m args below meth c T locs cells slots) (hx : p.tables.exec = Jvm.exec) (hZ : Z.Warmed39 s.vm) (eT : T.heap = h) (A : OwnA Z h a .double vs) {j : Int32} {x : UInt64} (h0 : ¬ j < 0) (h1 : j.toNatClampNeg < vs.length)
    {g : JFrame} (hg : g.method = m) {rest : List Value} (hs : g.stack = .double x :: .int j :: .ref a :: rest) (hd : decode c.code g.pc = .ok (.dastore, 1)) :
    ∃ T' h', Stand p l e R s m args below meth c T' (locs ++ [⟨a, j.toNatClampNeg⟩]) cells slots ∧ T'.heap = h' ∧ Wr h h' a j.toNatClampNeg (.double x) ∧ OwnA Z h' a .double (vs.set j.toNatClampNeg (.double x)) ∧
      ∀ t, Steps p.tables e below (T'.setTop { g with pc := g.pc + 1, stack := rest }) t → Steps p.tables e below (T.setTop g) t := by
  have F := A
  obtain ⟨c, A, r⟩ := A
  obtain ⟨T', h', X', e', W, st⟩ := stD X hx hZ eT A (own_hin r h0 h1) hg hs hd
  exact ⟨T', h', X', e', W, F.same W, st⟩
theorem own_newa (X : Stand p l e R s m args below meth c T locs cells slots) (hx : p.tables.exec = Jvm.exec) (hZ : Z.Warmed39 s.vm) {aty : ArrayType} (w : (Jvm.Cond.arrayClass (newarray.typeOf aty)).before a0 Z = true) (eT : T.heap = h) {g : JFrame} (hg : g.method = m) (hd : decode c.code g.pc = .ok (.newarray aty, 2)) {n : Int32} {rest : List Value} (hs : g.stack = .int n :: rest)
    (hn : ¬ n < 0) {cap : Nat} (hcap : n.toNatClampNeg ≤ cap) (hb : cap * 8 ≤ 536870912) (hc : cells + 1 ≤ R.cells) (hl : slots + cap ≤ R.slots) :
    ∃ T' h', Stand p l e R s m args below meth c T' locs (cells + 1) (slots + cap) ∧ T'.heap = h' ∧ Ext h h' ∧ OwnA Z h' h.size (newarray.typeOf aty) (List.replicate n.toNatClampNeg (defaultValue (newarray.typeOf aty))) ∧
      ∀ t, Steps p.tables e below (T'.setTop { g with pc := g.pc + 2, stack := .ref h.size :: rest }) t → Steps p.tables e below (T.setTop g) t := by
  obtain ⟨T', h', cA, X', e', E, A, st⟩ := newP X hx hZ w eT hg hd hs hn hcap hb hc hl
  exact ⟨T', h', X', e', E, ⟨_, A, by simp [newA]⟩, st⟩
/-- System.arraycopy from place 0 to place 0 of another array of the same plain kind -/
theorem own_acopy (X : Stand p l e R s m args below meth c T locs cells slots) (hx : p.tables.exec = Jvm.exec) (hZ : Z.Warmed39 s.vm) {own : String} {index : Nat} (hown : s.vm.findClass own = some m.cls) (hwz : ∀ w ∈ XT.acW own index, w.before args s = true)
    (eT : T.heap = h) (A : OwnA Z h a ty vs) (B : OwnA Z h b ty ws) (hty : refKind ty = false) (href : ty.isReference = false) (hfit : ∀ x ∈ vs, fits ty x = true) (h1 : vs.length < 2 ^ 31) (h2 : ws.length < 2 ^ 31) {n : Nat} {jn : Int32} (hjn : jn = Int32.ofNat n) (hn1 : n ≤ vs.length) (hn2 : n ≤ ws.length)
    {g : JFrame} (hg : g.method = m) (hsize : g.locals.size = c.maxLocals) {rest : List Value} (hs : g.stack = .int jn :: .int 0 :: .ref b :: .int 0 :: .ref a :: rest) (hd : decode c.code g.pc = .ok (.invokestatic index, 3))
    {W : Nat} (hW : 2 * g.monitorRoom + (rest.map fun v => v.category).sum ≤ W) (hfr : 1 ≤ R.frames) (hlo : W + 40 ≤ R.locals) :
    ∃ T' h', Stand p l e R s m args below meth c T' (locs ++ copyLocs b 0 n) cells slots ∧ T'.heap = h' ∧ Keep h h' [b] ∧ OwnA Z h' b ty (vs.take n ++ ws.drop n) ∧
      ∀ t, Steps p.tables e below (T'.setTop { g with pc := g.pc + 3, stack := rest }) t → Steps p.tables e below (T.setTop g) t := by
  obtain ⟨cA, A, rA⟩ := A
  obtain ⟨cB, B, rB⟩ := B
  have hU : Z.Warmed39 T.vm := wtrans hZ X.warmed
  have A' : XT.Arr ty a cA T := ⟨by rw [eT]; exact A.1, State.isArrayOf_alike hU.alike A.2.1, A.2.2, by rw [rA]; simpa using h1⟩
  have B' : XT.Arr ty b cB T := ⟨by rw [eT]; exact B.1, State.isArrayOf_alike hU.alike B.2.1, B.2.2, by rw [rB]; simpa using h2⟩
  obtain ⟨T', B1, X', P, c1, c2, c3, c4, st⟩ := X.acopy hx hown hwz A' B' (by simp [hty]) (o := 0) (q := 0) (n := n) (jo := 0) (jq := 0) rfl rfl hjn (by rw [rA]; simpa using hn1) (by rw [rB]; simpa using hn2)
    (fun i hi => ⟨hfit _ (by
      rw [rA, Array.getD_eq_getD_getElem?]
      have hi' : 0 + i < vs.length := by omega
      simp only [List.getElem?_toArray, List.getElem?_eq_getElem hi', Option.getD_some]
      exact List.getElem_mem hi'), fun q => by rw [href] at q; cases q⟩) hg hsize hs hd hW hfr hlo
  refine ⟨T', _, X', rfl, ⟨?_, fun x cx hx hne => ?_, fun x cx hx => ?_⟩, ⟨B1, ⟨P.1, ?_, by rw [c2]; exact B.2.2⟩, ?_⟩, st⟩
  · rw [P.2.2, eT]; exact Nat.le_refl _
  · rw [P.2.1 x (fun q => hne (by rw [q]; exact List.mem_singleton.mpr rfl)), eT]; exact hx
  · by_cases q : x = b
    · subst q
      cases hx.symm.trans B.1
      exact ⟨B1, P.1, c1, c2, c3⟩
    · exact ⟨cx, by rw [P.2.1 x q, eT]; exact hx, rfl, rfl, rfl⟩
  · obtain ⟨q1, k, q2, q3⟩ := B.2.1
    exact ⟨by rw [c2]; exact q1, k, by rw [c1]; exact q2, q3⟩
  · apply Array.ext_getElem?
    intro j
    rw [c4 j]
    rw [rA, rB, Array.getD_eq_getD_getElem?]
    simp only [List.getElem?_toArray]
    by_cases q : j < n
    · have q2 : j < vs.length := by omega
      rw [if_pos ⟨Nat.zero_le _, by omega⟩, List.getElem?_append_left (by rw [List.length_take]; omega), List.getElem?_take_of_lt q]
      simp [List.getElem?_eq_getElem q2]
    · rw [if_neg (by omega), List.getElem?_append_right (by rw [List.length_take]; omega), List.getElem?_drop, List.length_take]
      congr 1
      omega
theorem own_frcopy {n0 : Nat} {locs : List Loc} (N : Fr n0 locs) {b : Addr} (hb : n0 ≤ b) (k : Nat) : Fr n0 (locs ++ copyLocs b 0 k) := Fr.app N (fun y hy => by
  simp only [copyLocs, List.mem_map] at hy
  obtain ⟨i, -, rfl⟩ := hy
  exact hb)
end OwnArrays


section OwnBytes
variable {p : Program} {l : Launch} {e : Env} {R : Room} {s : State} {m : MethodId} {args : Array Value} {below : List Frame} {meth : Method} {c : Code} {T : State} {locs : List Loc} {cells slots : Nat} {a0 : Array Value} {Z : State} {h : Heap} {a : Addr} {vs : List Value}
theorem own_bald (X : Stand p l e R s m args below meth c T locs cells slots) (hx : p.tables.exec = Jvm.exec) (hZ : Z.Warmed39 s.vm) (eT : T.heap = h) (A : OwnA Z h a .byte vs) {j : Int32} {v : Value} (h0 : ¬ j < 0) (hv : vs[j.toNatClampNeg]? = some v)
    {g : JFrame} (hg : g.method = m) {rest : List Value} (hs : g.stack = .int j :: .ref a :: rest) (hd : decode c.code g.pc = .ok (.baload, 1)) :
    ∀ t, Steps p.tables e below (T.setTop { g with pc := g.pc + 1, stack := v :: rest }) t → Steps p.tables e below (T.setTop g) t := fun t k => by
  obtain ⟨c, A, r⟩ := A
  exact X.baloadBytes hx (by rw [eT]; exact A.1) (State.isArrayOf_alike hZ.alike A.2.1) A.2.2 (own_hin r h0 (List.getElem?_eq_some_iff.mp hv).1) (by rw [r]; simpa using hv) hg hs hd t k
theorem own_retW {vm₁ : Vm} (X : Stand p l e R (s.setVm vm₁) m args below meth c T locs cells slots) (hx : p.tables.exec = Jvm.exec) {n : Nat} (hS : s.Since vm₁ n) (hle : n ≤ T.heap.size) {pc : Nat} {Ls : Array Slot} {w : Value} {t : FieldType} {i : Instr} {rest : List Value} (hret : meth.sig.returnType = some t) (hn : narrow t w = w)
    (hi : (i = .ireturn ∧ (t = .int ∨ t = .boolean ∨ t = .byte ∨ t = .char ∨ t = .short) ∧ ∃ z, w = .int z) ∨ (i = .lreturn ∧ t = .long ∧ ∃ z, w = .long z) ∨ (i = .dreturn ∧ t = .double ∧ ∃ z, w = .double z) ∨ (i = .freturn ∧ t = .float ∧ ∃ z, w = .float z) ∨ (i = .areturn ∧ t.isReference = true ∧ w.isRef = true))
    (hlocks : meth.locks = false) (hd : decode c.code pc = .ok (i, 1)) {Qh : Option Value → Heap → List Loc → Prop} {rc rs : Nat} (hQ : Qh (some w) T.heap locs) (hc : cells ≤ rc) (hs : slots ≤ rs) :
    OwnGoes p e below (fun o U' => ∃ v L, o = .returned v ∧ Qh v U'.heap L ∧ ReturnedEndW s o U' L rc rs) (T.setTop (mkF m pc Ls (w :: rest))) := by
  obtain ⟨fs, hr, hrun, hended, h1, h2, h3, h4⟩ := X.leaveW hS hle (v := some w) (fun h => by rw [hret] at h; cases h) hlocks
  exact ⟨_, _, retOut X hx hret hn hi hd hr, hrun, hended, _, _, rfl, hQ, h1, h2, h3, h4.mono hc hs⟩
end OwnBytes
theorem own_ofArv {Z : State} {h : Heap} {b : Addr} {k : ClassId} {ty : FieldType} {z : Int32} {vs : List Value} {d : Value} (F : Arv Z h b k ty z vs d) (hl : z.toNatClampNeg = vs.length) : OwnA Z h b ty vs := by
  obtain ⟨c, A, -, S, -, H, -⟩ := F
  refine ⟨c, A, ?_⟩
  apply Array.ext_getElem?
  intro j
  by_cases q : j < c.slots.size
  · have q' : j < vs.length := by rw [← hl, ← S]; exact q
    rw [H j q]
    simp [List.getElem?_eq_getElem q', List.getD_eq_getElem?_getD]
  · have q' : ¬ j < vs.length := by rw [← hl, ← S]; exact q
    rw [Array.getElem?_eq_none (by omega), Array.getElem?_eq_none (by simp; omega)]
theorem own_ane {Z : State} {h : Heap} {a b : Addr} {ty : FieldType} {vs ws : List Value} (A : OwnA Z h a ty vs) (B : OwnA Z h b ty ws) (q : vs.length ≠ ws.length) : a ≠ b := fun e => by
  subst e
  obtain ⟨c, A, r⟩ := A
  obtain ⟨c', A', r'⟩ := B
  cases A.1.symm.trans A'.1
  rw [r] at r'
  exact q (by simpa using congrArg Array.size r')
theorem own_str {args : Array Value} {s : State} {C f d : String} {u : Addr} {n : Int32} (S : (Term.static C f d).eval args s none [] s = some (.ref u))
    (hx : (Jvm.Cond.exactly (Term.field (Term.static C f d) C "number" "Ljava/lang/String;") "java/lang/String").value args s none s [] = some true)
    (hc : (Jvm.Cond.eq (Term.field (Term.field (Term.static C f d) C "number" "Ljava/lang/String;") "java/lang/String" "coder" "B") (Term.int (0 : Int32))).value args s none s [] = some true)
    (ha : (Jvm.Cond.arrayOf (Term.field (Term.field (Term.static C f d) C "number" "Ljava/lang/String;") "java/lang/String" "value" "[B") .byte).value args s none s [] = some true)
    (hl : (Jvm.Cond.eq (Term.length (Term.field (Term.field (Term.static C f d) C "number" "Ljava/lang/String;") "java/lang/String" "value" "[B")) (Term.int n)).value args s none s [] = some true) :
    ∃ (q b : Addr) (cl : Cell), Fld s s.heap u C "number" "Ljava/lang/String;" (.ref q) ∧ Exa s s.heap q "java/lang/String" ∧ Fld s s.heap q "java/lang/String" "coder" "B" (.int (0 : Int32)) ∧ Fld s s.heap q "java/lang/String" "value" "[B" (.ref b) ∧
      (Term.field (Term.field (Term.static C f d) C "number" "Ljava/lang/String;") "java/lang/String" "value" "[B").eval args s none [] s = some (.ref b) ∧ Arr s s.heap b cl .byte ∧ cl.slots.size < 2 ^ 31 ∧ cl.slots.size.toInt32 = n := by
  obtain ⟨q, ev⟩ := exa_v hx
  obtain ⟨b, eb⟩ := arr_v ha
  obtain ⟨cl, A⟩ := Arr.start eb ha
  have at_ : s.arrayAt? b = some cl := A.fin (Vm.Alike.refl _)
  have el := eqv_i (Term.int_eval n) hl
  have ec := eqv_i (Term.int_eval 0) hc
  have hlt : cl.slots.size < 2 ^ 31 := by
    by_cases z : cl.slots.size < 2 ^ 31
    · exact z
    · simp [Term.eval] at el
      simp [Term.eval] at eb
      simp [eb, at_] at el
      omega
  rw [len_f eb at_ hlt] at el
  refine ⟨q, b, cl, ?_, Exa.start ev hx, ?_, ?_, eb, A, hlt, ?_⟩
  · rw [fld_at S] at ev; exact Fld.start ev
  · rw [fld_at ev] at ec; exact Fld.start ec
  · rw [fld_at ev] at eb; exact Fld.start eb
  · injection el with z; injection z
theorem own_size {n : Nat} {k : Nat} {i : Int32} (h : n < 2 ^ 31) (e : n.toInt32 = i) (hi : i.toNatClampNeg = k) : n = k := by
  rw [← hi, ← e]; simp only [Int32.toNatClampNeg, len_toInt h]; rfl
def own_EL : List (String × Nat) := [("com/example/haversack/haversack/BagItVersionForbidsRepeatedEntriesPinLaw", 43)]

theorem own_three {c : Cell} {x y z : Value} (h : c.slots.size = 3) (h0 : c.slots[0]? = some x) (h1 : c.slots[1]? = some y) (h2 : c.slots[2]? = some z) : c.slots = [x, y, z].toArray := by
  apply Array.ext_getElem?
  intro j
  match j with
  | 0 => simpa using h0
  | 1 => simpa using h1
  | 2 => simpa using h2
  | j + 3 => rw [Array.getElem?_eq_none (by omega), Array.getElem?_eq_none (by simp)]

theorem d1_0 : decode method_2_code 0 = .ok (.iload_n 0, 1) := by decide +kernel
theorem d1_1 : decode method_2_code 1 = .ok (.ldc 7, 2) := by decide +kernel
theorem d1_3 : decode method_2_code 3 = .ok (.iand, 1) := by decide +kernel
theorem d1_4 : decode method_2_code 4 = .ok (.bipush 6, 2) := by decide +kernel
theorem d1_6 : decode method_2_code 6 = .ok (.irem, 1) := by decide +kernel
theorem d1_7 : decode method_2_code 7 = .ok (.istore_n 1, 1) := by decide +kernel
theorem d1_8 : decode method_2_code 8 = .ok (.iload_n 1, 1) := by decide +kernel
theorem d1_9 : decode method_2_code 9 = .ok (.ifCond .ne 7, 3) := by decide +kernel
theorem d1_12 : decode method_2_code 12 = .ok (.getstatic 8, 3) := by decide +kernel
theorem d1_15 : decode method_2_code 15 = .ok (.areturn, 1) := by decide +kernel
theorem d1_16 : decode method_2_code 16 = .ok (.iload_n 1, 1) := by decide +kernel
theorem d1_17 : decode method_2_code 17 = .ok (.iconst 1, 1) := by decide +kernel
theorem d1_18 : decode method_2_code 18 = .ok (.if_icmp .ne 7, 3) := by decide +kernel
theorem d1_21 : decode method_2_code 21 = .ok (.getstatic 14, 3) := by decide +kernel
theorem d1_24 : decode method_2_code 24 = .ok (.areturn, 1) := by decide +kernel
theorem d1_25 : decode method_2_code 25 = .ok (.iload_n 1, 1) := by decide +kernel
theorem d1_26 : decode method_2_code 26 = .ok (.iconst 2, 1) := by decide +kernel
theorem d1_27 : decode method_2_code 27 = .ok (.if_icmp .ne 7, 3) := by decide +kernel
theorem d1_30 : decode method_2_code 30 = .ok (.getstatic 17, 3) := by decide +kernel
theorem d1_33 : decode method_2_code 33 = .ok (.areturn, 1) := by decide +kernel
theorem d1_34 : decode method_2_code 34 = .ok (.iload_n 1, 1) := by decide +kernel
theorem d1_35 : decode method_2_code 35 = .ok (.iconst 3, 1) := by decide +kernel
theorem d1_36 : decode method_2_code 36 = .ok (.if_icmp .ne 7, 3) := by decide +kernel
theorem d1_39 : decode method_2_code 39 = .ok (.getstatic 20, 3) := by decide +kernel
theorem d1_42 : decode method_2_code 42 = .ok (.areturn, 1) := by decide +kernel
theorem d1_43 : decode method_2_code 43 = .ok (.iload_n 1, 1) := by decide +kernel
theorem d1_44 : decode method_2_code 44 = .ok (.iconst 4, 1) := by decide +kernel
theorem d1_45 : decode method_2_code 45 = .ok (.if_icmp .ne 7, 3) := by decide +kernel
theorem d1_48 : decode method_2_code 48 = .ok (.getstatic 23, 3) := by decide +kernel
theorem d1_51 : decode method_2_code 51 = .ok (.areturn, 1) := by decide +kernel
theorem d1_52 : decode method_2_code 52 = .ok (.getstatic 26, 3) := by decide +kernel
theorem d1_55 : decode method_2_code 55 = .ok (.areturn, 1) := by decide +kernel
theorem d2_0 : decode prog_12_method_9_code 0 = .ok (.aload_n 0, 1) := by decide +kernel
theorem d2_1 : decode prog_12_method_9_code 1 = .ok (.getstatic 19, 3) := by decide +kernel
theorem d2_4 : decode prog_12_method_9_code 4 = .ok (.if_acmp .ne 7, 3) := by decide +kernel
theorem d2_7 : decode prog_12_method_9_code 7 = .ok (.iconst 1, 1) := by decide +kernel
theorem d2_8 : decode prog_12_method_9_code 8 = .ok (.goto 4, 3) := by decide +kernel
theorem d2_11 : decode prog_12_method_9_code 11 = .ok (.iconst 0, 1) := by decide +kernel
theorem d2_12 : decode prog_12_method_9_code 12 = .ok (.ireturn, 1) := by decide +kernel
theorem d3_0 : decode prog_12_method_4_code 0 = .ok (.aload_n 0, 1) := by decide +kernel
theorem d3_1 : decode prog_12_method_4_code 1 = .ok (.getfield 41, 3) := by decide +kernel
theorem d3_4 : decode prog_12_method_4_code 4 = .ok (.areturn, 1) := by decide +kernel
theorem d4_0 : decode jdk_42_method_66_code 0 = .ok (.aload_n 0, 1) := by decide +kernel
theorem d4_1 : decode jdk_42_method_66_code 1 = .ok (.aload_n 1, 1) := by decide +kernel
theorem d4_2 : decode jdk_42_method_66_code 2 = .ok (.if_acmp .ne 5, 3) := by decide +kernel
theorem d4_5 : decode jdk_42_method_66_code 5 = .ok (.iconst 1, 1) := by decide +kernel
theorem d4_6 : decode jdk_42_method_66_code 6 = .ok (.ireturn, 1) := by decide +kernel
theorem d4_7 : decode jdk_42_method_66_code 7 = .ok (.aload_n 1, 1) := by decide +kernel
theorem d4_8 : decode jdk_42_method_66_code 8 = .ok (.instanceof 10, 3) := by decide +kernel
theorem d4_11 : decode jdk_42_method_66_code 11 = .ok (.ifCond .eq 43, 3) := by decide +kernel
theorem d4_14 : decode jdk_42_method_66_code 14 = .ok (.aload_n 1, 1) := by decide +kernel
theorem d4_15 : decode jdk_42_method_66_code 15 = .ok (.checkcast 10, 3) := by decide +kernel
theorem d4_18 : decode jdk_42_method_66_code 18 = .ok (.astore_n 2, 1) := by decide +kernel
theorem d4_19 : decode jdk_42_method_66_code 19 = .ok (.getstatic 38, 3) := by decide +kernel
theorem d4_22 : decode jdk_42_method_66_code 22 = .ok (.ifCond .eq 14, 3) := by decide +kernel
theorem d4_25 : decode jdk_42_method_66_code 25 = .ok (.aload_n 0, 1) := by decide +kernel
theorem d4_26 : decode jdk_42_method_66_code 26 = .ok (.getfield 15, 3) := by decide +kernel
theorem d4_29 : decode jdk_42_method_66_code 29 = .ok (.aload_n 2, 1) := by decide +kernel
theorem d4_30 : decode jdk_42_method_66_code 30 = .ok (.getfield 15, 3) := by decide +kernel
theorem d4_33 : decode jdk_42_method_66_code 33 = .ok (.if_icmp .ne 21, 3) := by decide +kernel
theorem d4_36 : decode jdk_42_method_66_code 36 = .ok (.aload_n 0, 1) := by decide +kernel
theorem d4_37 : decode jdk_42_method_66_code 37 = .ok (.getfield 9, 3) := by decide +kernel
theorem d4_40 : decode jdk_42_method_66_code 40 = .ok (.aload_n 2, 1) := by decide +kernel
theorem d4_41 : decode jdk_42_method_66_code 41 = .ok (.getfield 9, 3) := by decide +kernel
theorem d4_44 : decode jdk_42_method_66_code 44 = .ok (.invokestatic 541, 3) := by decide +kernel
theorem d4_47 : decode jdk_42_method_66_code 47 = .ok (.ifCond .eq 7, 3) := by decide +kernel
theorem d4_50 : decode jdk_42_method_66_code 50 = .ok (.iconst 1, 1) := by decide +kernel
theorem d4_51 : decode jdk_42_method_66_code 51 = .ok (.goto 4, 3) := by decide +kernel
theorem d4_54 : decode jdk_42_method_66_code 54 = .ok (.iconst 0, 1) := by decide +kernel
theorem d4_55 : decode jdk_42_method_66_code 55 = .ok (.ireturn, 1) := by decide +kernel
theorem d5_0 : decode jdk_43_method_13_code 0 = .ok (.aload_n 0, 1) := by decide +kernel
theorem d5_1 : decode jdk_43_method_13_code 1 = .ok (.arraylength, 1) := by decide +kernel
theorem d5_2 : decode jdk_43_method_13_code 2 = .ok (.aload_n 1, 1) := by decide +kernel
theorem d5_3 : decode jdk_43_method_13_code 3 = .ok (.arraylength, 1) := by decide +kernel
theorem d5_4 : decode jdk_43_method_13_code 4 = .ok (.if_icmp .ne 30, 3) := by decide +kernel
theorem d5_7 : decode jdk_43_method_13_code 7 = .ok (.iconst 0, 1) := by decide +kernel
theorem d5_8 : decode jdk_43_method_13_code 8 = .ok (.istore_n 2, 1) := by decide +kernel
theorem d5_9 : decode jdk_43_method_13_code 9 = .ok (.iload_n 2, 1) := by decide +kernel
theorem d5_10 : decode jdk_43_method_13_code 10 = .ok (.aload_n 0, 1) := by decide +kernel
theorem d5_11 : decode jdk_43_method_13_code 11 = .ok (.arraylength, 1) := by decide +kernel
theorem d5_12 : decode jdk_43_method_13_code 12 = .ok (.if_icmp .ge 20, 3) := by decide +kernel
theorem d5_15 : decode jdk_43_method_13_code 15 = .ok (.aload_n 0, 1) := by decide +kernel
theorem d5_16 : decode jdk_43_method_13_code 16 = .ok (.iload_n 2, 1) := by decide +kernel
theorem d5_17 : decode jdk_43_method_13_code 17 = .ok (.baload, 1) := by decide +kernel
theorem d5_18 : decode jdk_43_method_13_code 18 = .ok (.aload_n 1, 1) := by decide +kernel
theorem d5_19 : decode jdk_43_method_13_code 19 = .ok (.iload_n 2, 1) := by decide +kernel
theorem d5_20 : decode jdk_43_method_13_code 20 = .ok (.baload, 1) := by decide +kernel
theorem d5_21 : decode jdk_43_method_13_code 21 = .ok (.if_icmp .eq 5, 3) := by decide +kernel
theorem d5_24 : decode jdk_43_method_13_code 24 = .ok (.iconst 0, 1) := by decide +kernel
theorem d5_25 : decode jdk_43_method_13_code 25 = .ok (.ireturn, 1) := by decide +kernel
theorem d5_26 : decode jdk_43_method_13_code 26 = .ok (.iinc 2 1, 3) := by decide +kernel
theorem d5_29 : decode jdk_43_method_13_code 29 = .ok (.goto (-20), 3) := by decide +kernel
theorem d5_32 : decode jdk_43_method_13_code 32 = .ok (.iconst 1, 1) := by decide +kernel
theorem d5_33 : decode jdk_43_method_13_code 33 = .ok (.ireturn, 1) := by decide +kernel
theorem d5_34 : decode jdk_43_method_13_code 34 = .ok (.iconst 0, 1) := by decide +kernel
theorem d5_35 : decode jdk_43_method_13_code 35 = .ok (.ireturn, 1) := by decide +kernel
def QP (r : Addr) (h0 : Heap) (n0 : Nat) (v : Option Value) (h : Heap) (L : List Loc) : Prop := v = some (.ref r) ∧ Fr n0 L ∧ h = h0
def Q1 (r : Int32) (h0 : Heap) (n0 : Nat) (v : Option Value) (h : Heap) (L : List Loc) : Prop := v = some (.int r) ∧ Fr n0 L ∧ h = h0
def Q0  (h0 : Heap) (n0 : Nat) (v : Option Value) (h : Heap) (L : List Loc) : Prop := v = some (.int (1 : Int32)) ∧ Fr n0 L
set_option maxRecDepth 65536 in
set_option maxHeartbeats 40000000 in
theorem rmP (l : Launch) (Z : State) (a0 : Array Value) (hw : ∀ d ∈ tables_1, d.before a0 Z = true) (ws : List Jvm.Cond) (p1 k : Int32) (u0 u1 u2 u3 u4 u5 : Addr) (r : Addr) (h0 : Heap) (n0 : Nat) (Z0 : n0 ≤ h0.size) (S0 : Sta Z h0 "com/example/haversack/haversack/BagItVersion" "V0_93" "Lcom/example/haversack/haversack/BagItVersion;" (.ref u0)) (S1 : Sta Z h0 "com/example/haversack/haversack/BagItVersion" "V0_94" "Lcom/example/haversack/haversack/BagItVersion;" (.ref u1)) (S2 : Sta Z h0 "com/example/haversack/haversack/BagItVersion" "V0_95" "Lcom/example/haversack/haversack/BagItVersion;" (.ref u2)) (S3 : Sta Z h0 "com/example/haversack/haversack/BagItVersion" "V0_96" "Lcom/example/haversack/haversack/BagItVersion;" (.ref u3)) (S4 : Sta Z h0 "com/example/haversack/haversack/BagItVersion" "V0_97" "Lcom/example/haversack/haversack/BagItVersion;" (.ref u4)) (S5 : Sta Z h0 "com/example/haversack/haversack/BagItVersion" "V1_0" "Lcom/example/haversack/haversack/BagItVersion;" (.ref u5)) (hk : (p1 &&& (2147483647 : Int32)) % (6 : Int32) = k) (hr : r = if k = 0 then u0 else if k = 1 then u1 else if k = 2 then u2 else if k = 3 then u3 else if k = 4 then u4 else u5) :
    MetFree l (⟨"com/example/haversack/haversack/BagItVersionForbidsRepeatedEntriesPinLaw", "pick", "(I)Lcom/example/haversack/haversack/BagItVersion;"⟩ : MethodName) (head1 (Jvm.Cond.code (⟨"com/example/haversack/haversack/BagItVersionForbidsRepeatedEntriesPinLaw", "pick", "(I)Lcom/example/haversack/haversack/BagItVersion;"⟩ : MethodName) method_2_code 2 (some (.object "com/example/haversack/haversack/BagItVersion")) :: ws) ({ frames := 0, cells := 0, slots := 0, locals := 0 } : Room)) (fun a U => a = #[(.int p1)] ∧ Z.Warmed39 U.vm ∧ U.heap = h0) (fun _ _ _ _ _ => True) (fun _ Uw_ ow_ Ue_ => ∃ vw_ Lw_, ow_ = .returned vw_ ∧ QP r h0 n0 vw_ Ue_.heap Lw_ ∧ FrameEnd Uw_ ow_ Ue_ Lw_ ({ frames := 0, cells := 0, slots := 0, locals := 0 } : Room).cells ({ frames := 0, cells := 0, slots := 0, locals := 0 } : Room).slots) := by
  refine MetFree.of_bodySF (plainFor_of_name (by first | (simp [plainName, overriddenIn]; done) | decide +kernel)) hisR ?_
  intro p e s m args below meth c s₁ Bd hml0 hP hK
  obtain ⟨rfl, hZ, hh⟩ := hP
  have hx := Bd.exec
  have hby := Bd.bytes
  have hml : c.maxLocals = 2 := hml0
  have hown : s.vm.findClass "com/example/haversack/haversack/BagItVersionForbidsRepeatedEntriesPinLaw" = some m.cls := findClass_of_methodNamed Bd.named
  have hnm := (name_of_methodNamed Bd.named Bd.method).1
  have X0 : Stand p l e ({ frames := 0, cells := 0, slots := 0, locals := 0 } : Room) s m #[(.int p1)] below meth c s₁ [] 0 0 := Stand.of_body Bd
  have e0 : s₁.heap = h0 := by rw [← hh, Bd.state]; rfl
  have N0 := Fr.nil n0
  have ef : entryFrame m #[(.int p1)] 2 = (mkF m 0 #[.val (.int p1), .unset] []) := by first | (simp [entryFrame, mkF, argsToLocals, Value.category]; done) | rfl
  show OwnGoes p e below (fun ow_ Ue_ => ∃ vw_ Lw_, ow_ = .returned vw_ ∧ QP r h0 n0 vw_ Ue_.heap Lw_ ∧ FrameEnd s ow_ Ue_ Lw_ ({ frames := 0, cells := 0, slots := 0, locals := 0 } : Room).cells ({ frames := 0, cells := 0, slots := 0, locals := 0 } : Room).slots) (s₁.setTop (entryFrame m #[(.int p1)] 2))
  refine own_pre (fun t k => castTop ef k) ?_
  show OwnGoes p e below _ (s₁.setTop (mkF m 0 #[.val (.int p1), .unset] []))
  refine own_pre (fun _ kz_ => XS.iloadN X0.here hx rfl (hb hby d1_0) rfl kz_) ?_
  show OwnGoes p e below _ (s₁.setTop (mkF m 1 #[.val (.int p1), .unset] [(.int p1)]))
  refine own_pre (fun _ kz_ => X0.ldcInt hx hown (mvT hZ (hw _ (List.mem_of_getElem? (i := 4) rfl))) (g := (mkF m 1 #[.val (.int p1), .unset] [(.int p1)])) rfl (hb hby d1_1) _ kz_) ?_
  show OwnGoes p e below _ (s₁.setTop (mkF m 3 #[.val (.int p1), .unset] [(.int (2147483647 : Int32)), (.int p1)]))
  refine own_pre (fun _ kz_ => XS.iand X0.here hx rfl (hb hby d1_3) rfl kz_) ?_
  show OwnGoes p e below _ (s₁.setTop (mkF m 4 #[.val (.int p1), .unset] [(.int (p1 &&& (2147483647 : Int32)))]))
  refine own_pre (fun _ kz_ => XS.bipush X0.here hx rfl (hb hby d1_4) kz_) ?_
  show OwnGoes p e below _ (s₁.setTop (mkF m 6 #[.val (.int p1), .unset] [(.int (6 : Int32)), (.int (p1 &&& (2147483647 : Int32)))]))
  refine own_pre (fun _ kz_ => iremM X0 hx rfl (hb hby d1_6) rfl (by decide) kz_) ?_
  show OwnGoes p e below _ (s₁.setTop (mkF m 7 #[.val (.int p1), .unset] [(.int ((p1 &&& (2147483647 : Int32)) % (6 : Int32)))]))
  rw [hk]
  show OwnGoes p e below _ (s₁.setTop (mkF m 7 #[.val (.int p1), .unset] [(.int k)]))
  refine own_pre (fun _ kz_ => XS.istoreN X0.here hx rfl (hb hby d1_7) rfl (l' := #[.val (.int p1), .val (.int k)]) rfl kz_) ?_
  show OwnGoes p e below _ (s₁.setTop (mkF m 8 #[.val (.int p1), .val (.int k)] []))
  refine own_pre (fun _ kz_ => XS.iloadN X0.here hx rfl (hb hby d1_8) rfl kz_) ?_
  show OwnGoes p e below _ (s₁.setTop (mkF m 9 #[.val (.int p1), .val (.int k)] [(.int k)]))
  by_cases h9 : k = (0 : Int32)
  · refine own_pre (fun _ kz_ => XS.ifNo X0.here hx rfl (hb hby d1_9) rfl ((if0 _ _).trans (teq h9).2) kz_) ?_
    show OwnGoes p e below _ (s₁.setTop (mkF m 12 #[.val (.int p1), .val (.int k)] []))
    obtain ⟨T1, X1, e1, st1⟩ := getS2 X0 hx hZ hown (host := "") (Or.inl (hw _ (List.mem_of_getElem? (i := 5) rfl))) Via.refl e0 S0 (g := (mkF m 12 #[.val (.int p1), .val (.int k)] [])) rfl (hb hby d1_12)
    refine own_pre st1 ?_
    show OwnGoes p e below _ (T1.setTop (mkF m 15 #[.val (.int p1), .val (.int k)] [(.ref u0)]))
    exact own_ret X1 hx Bd.returns (rfl) (Or.inr (Or.inr (Or.inr (Or.inr ⟨rfl, rfl, rfl⟩)))) Bd.notSynchronized (hb hby d1_15) ⟨by rw [hr]; simp [*], N0, e1⟩ (by decide) (by decide)
  · refine own_pre (fun _ kz_ => XS.ifYes X0.here hx rfl (pc0 := 9) (pc' := 16) rfl (hb hby d1_9) rfl ((if0 _ _).trans (feq h9).2) (by decide) (by decide) kz_) ?_
    show OwnGoes p e below _ (s₁.setTop (mkF m 16 #[.val (.int p1), .val (.int k)] []))
    refine own_pre (fun _ kz_ => XS.iloadN X0.here hx rfl (hb hby d1_16) rfl kz_) ?_
    show OwnGoes p e below _ (s₁.setTop (mkF m 17 #[.val (.int p1), .val (.int k)] [(.int k)]))
    refine own_pre (fun _ kz_ => XS.iconst X0.here hx rfl (hb hby d1_17) kz_) ?_
    show OwnGoes p e below _ (s₁.setTop (mkF m 18 #[.val (.int p1), .val (.int k)] [(.int (1 : Int32)), (.int k)]))
    by_cases h18 : k = (1 : Int32)
    · refine own_pre (fun _ kz_ => XS.icmpNo X0.here hx rfl (hb hby d1_18) rfl (teq h18).2 kz_) ?_
      show OwnGoes p e below _ (s₁.setTop (mkF m 21 #[.val (.int p1), .val (.int k)] []))
      obtain ⟨T2, X2, e2, st2⟩ := getS2 X0 hx hZ hown (host := "") (Or.inl (hw _ (List.mem_of_getElem? (i := 48) rfl))) Via.refl e0 S1 (g := (mkF m 21 #[.val (.int p1), .val (.int k)] [])) rfl (hb hby d1_21)
      refine own_pre st2 ?_
      show OwnGoes p e below _ (T2.setTop (mkF m 24 #[.val (.int p1), .val (.int k)] [(.ref u1)]))
      exact own_ret X2 hx Bd.returns (rfl) (Or.inr (Or.inr (Or.inr (Or.inr ⟨rfl, rfl, rfl⟩)))) Bd.notSynchronized (hb hby d1_24) ⟨by rw [hr]; simp [*], N0, e2⟩ (by decide) (by decide)
    · refine own_pre (fun _ kz_ => XS.icmpYes X0.here hx rfl (pc0 := 18) (pc' := 25) rfl (hb hby d1_18) rfl (feq h18).2 (by decide) (by decide) kz_) ?_
      show OwnGoes p e below _ (s₁.setTop (mkF m 25 #[.val (.int p1), .val (.int k)] []))
      refine own_pre (fun _ kz_ => XS.iloadN X0.here hx rfl (hb hby d1_25) rfl kz_) ?_
      show OwnGoes p e below _ (s₁.setTop (mkF m 26 #[.val (.int p1), .val (.int k)] [(.int k)]))
      refine own_pre (fun _ kz_ => XS.iconst X0.here hx rfl (hb hby d1_26) kz_) ?_
      show OwnGoes p e below _ (s₁.setTop (mkF m 27 #[.val (.int p1), .val (.int k)] [(.int (2 : Int32)), (.int k)]))
      by_cases h27 : k = (2 : Int32)
      · refine own_pre (fun _ kz_ => XS.icmpNo X0.here hx rfl (hb hby d1_27) rfl (teq h27).2 kz_) ?_
        show OwnGoes p e below _ (s₁.setTop (mkF m 30 #[.val (.int p1), .val (.int k)] []))
        obtain ⟨T3, X3, e3, st3⟩ := getS2 X0 hx hZ hown (host := "") (Or.inl (hw _ (List.mem_of_getElem? (i := 46) rfl))) Via.refl e0 S2 (g := (mkF m 30 #[.val (.int p1), .val (.int k)] [])) rfl (hb hby d1_30)
        refine own_pre st3 ?_
        show OwnGoes p e below _ (T3.setTop (mkF m 33 #[.val (.int p1), .val (.int k)] [(.ref u2)]))
        exact own_ret X3 hx Bd.returns (rfl) (Or.inr (Or.inr (Or.inr (Or.inr ⟨rfl, rfl, rfl⟩)))) Bd.notSynchronized (hb hby d1_33) ⟨by rw [hr]; simp [*], N0, e3⟩ (by decide) (by decide)
      · refine own_pre (fun _ kz_ => XS.icmpYes X0.here hx rfl (pc0 := 27) (pc' := 34) rfl (hb hby d1_27) rfl (feq h27).2 (by decide) (by decide) kz_) ?_
        show OwnGoes p e below _ (s₁.setTop (mkF m 34 #[.val (.int p1), .val (.int k)] []))
        refine own_pre (fun _ kz_ => XS.iloadN X0.here hx rfl (hb hby d1_34) rfl kz_) ?_
        show OwnGoes p e below _ (s₁.setTop (mkF m 35 #[.val (.int p1), .val (.int k)] [(.int k)]))
        refine own_pre (fun _ kz_ => XS.iconst X0.here hx rfl (hb hby d1_35) kz_) ?_
        show OwnGoes p e below _ (s₁.setTop (mkF m 36 #[.val (.int p1), .val (.int k)] [(.int (3 : Int32)), (.int k)]))
        by_cases h36 : k = (3 : Int32)
        · refine own_pre (fun _ kz_ => XS.icmpNo X0.here hx rfl (hb hby d1_36) rfl (teq h36).2 kz_) ?_
          show OwnGoes p e below _ (s₁.setTop (mkF m 39 #[.val (.int p1), .val (.int k)] []))
          obtain ⟨T4, X4, e4, st4⟩ := getS2 X0 hx hZ hown (host := "") (Or.inl (hw _ (List.mem_of_getElem? (i := 44) rfl))) Via.refl e0 S3 (g := (mkF m 39 #[.val (.int p1), .val (.int k)] [])) rfl (hb hby d1_39)
          refine own_pre st4 ?_
          show OwnGoes p e below _ (T4.setTop (mkF m 42 #[.val (.int p1), .val (.int k)] [(.ref u3)]))
          exact own_ret X4 hx Bd.returns (rfl) (Or.inr (Or.inr (Or.inr (Or.inr ⟨rfl, rfl, rfl⟩)))) Bd.notSynchronized (hb hby d1_42) ⟨by rw [hr]; simp [*], N0, e4⟩ (by decide) (by decide)
        · refine own_pre (fun _ kz_ => XS.icmpYes X0.here hx rfl (pc0 := 36) (pc' := 43) rfl (hb hby d1_36) rfl (feq h36).2 (by decide) (by decide) kz_) ?_
          show OwnGoes p e below _ (s₁.setTop (mkF m 43 #[.val (.int p1), .val (.int k)] []))
          refine own_pre (fun _ kz_ => XS.iloadN X0.here hx rfl (hb hby d1_43) rfl kz_) ?_
          show OwnGoes p e below _ (s₁.setTop (mkF m 44 #[.val (.int p1), .val (.int k)] [(.int k)]))
          refine own_pre (fun _ kz_ => XS.iconst X0.here hx rfl (hb hby d1_44) kz_) ?_
          show OwnGoes p e below _ (s₁.setTop (mkF m 45 #[.val (.int p1), .val (.int k)] [(.int (4 : Int32)), (.int k)]))
          by_cases h45 : k = (4 : Int32)
          · refine own_pre (fun _ kz_ => XS.icmpNo X0.here hx rfl (hb hby d1_45) rfl (teq h45).2 kz_) ?_
            show OwnGoes p e below _ (s₁.setTop (mkF m 48 #[.val (.int p1), .val (.int k)] []))
            obtain ⟨T5, X5, e5, st5⟩ := getS2 X0 hx hZ hown (host := "") (Or.inl (hw _ (List.mem_of_getElem? (i := 51) rfl))) Via.refl e0 S4 (g := (mkF m 48 #[.val (.int p1), .val (.int k)] [])) rfl (hb hby d1_48)
            refine own_pre st5 ?_
            show OwnGoes p e below _ (T5.setTop (mkF m 51 #[.val (.int p1), .val (.int k)] [(.ref u4)]))
            exact own_ret X5 hx Bd.returns (rfl) (Or.inr (Or.inr (Or.inr (Or.inr ⟨rfl, rfl, rfl⟩)))) Bd.notSynchronized (hb hby d1_51) ⟨by rw [hr]; simp [*], N0, e5⟩ (by decide) (by decide)
          · refine own_pre (fun _ kz_ => XS.icmpYes X0.here hx rfl (pc0 := 45) (pc' := 52) rfl (hb hby d1_45) rfl (feq h45).2 (by decide) (by decide) kz_) ?_
            show OwnGoes p e below _ (s₁.setTop (mkF m 52 #[.val (.int p1), .val (.int k)] []))
            obtain ⟨T6, X6, e6, st6⟩ := getS2 X0 hx hZ hown (host := "") (Or.inl (hw _ (List.mem_of_getElem? (i := 50) rfl))) Via.refl e0 S5 (g := (mkF m 52 #[.val (.int p1), .val (.int k)] [])) rfl (hb hby d1_52)
            refine own_pre st6 ?_
            show OwnGoes p e below _ (T6.setTop (mkF m 55 #[.val (.int p1), .val (.int k)] [(.ref u5)]))
            exact own_ret X6 hx Bd.returns (rfl) (Or.inr (Or.inr (Or.inr (Or.inr ⟨rfl, rfl, rfl⟩)))) Bd.notSynchronized (hb hby d1_55) ⟨by rw [hr]; simp [*], N0, e6⟩ (by decide) (by decide)
set_option maxRecDepth 65536 in
set_option maxHeartbeats 40000000 in
theorem rm1 (l : Launch) (Z : State) (a0 : Array Value) (hw : ∀ d ∈ tables_1, d.before a0 Z = true) (ws : List Jvm.Cond) (b : Addr) (u5 : Addr) (r : Int32) (h0 : Heap) (n0 : Nat) (Z0 : n0 ≤ h0.size) (S5 : Sta Z h0 "com/example/haversack/haversack/BagItVersion" "V1_0" "Lcom/example/haversack/haversack/BagItVersion;" (.ref u5)) (hr : r = if b = u5 then (1 : Int32) else (0 : Int32)) :
    MetFree l (⟨"com/example/haversack/haversack/BagItVersion", "forbidsRepeatedEntries", "()Z"⟩ : MethodName) (head1 (Jvm.Cond.code (⟨"com/example/haversack/haversack/BagItVersion", "forbidsRepeatedEntries", "()Z"⟩ : MethodName) prog_12_method_9_code 1 (some .boolean) :: ws) ({ frames := 0, cells := 0, slots := 0, locals := 0 } : Room)) (fun a U => a = #[(.ref b)] ∧ Z.Warmed39 U.vm ∧ U.heap = h0) (fun _ _ _ _ _ => True) (fun _ Uw_ ow_ Ue_ => ∃ vw_ Lw_, ow_ = .returned vw_ ∧ Q1 r h0 n0 vw_ Ue_.heap Lw_ ∧ FrameEnd Uw_ ow_ Ue_ Lw_ ({ frames := 0, cells := 0, slots := 0, locals := 0 } : Room).cells ({ frames := 0, cells := 0, slots := 0, locals := 0 } : Room).slots) := by
  refine MetFree.of_bodySF (plainFor_of_name (by first | (simp [plainName, overriddenIn]; done) | decide +kernel)) hisR ?_
  intro p e s m args below meth c s₁ Bd hml0 hP hK
  obtain ⟨rfl, hZ, hh⟩ := hP
  have hx := Bd.exec
  have hby := Bd.bytes
  have hml : c.maxLocals = 1 := hml0
  have hown : s.vm.findClass "com/example/haversack/haversack/BagItVersion" = some m.cls := findClass_of_methodNamed Bd.named
  have hnm := (name_of_methodNamed Bd.named Bd.method).1
  have X0 : Stand p l e ({ frames := 0, cells := 0, slots := 0, locals := 0 } : Room) s m #[(.ref b)] below meth c s₁ [] 0 0 := Stand.of_body Bd
  have e0 : s₁.heap = h0 := by rw [← hh, Bd.state]; rfl
  have N0 := Fr.nil n0
  have ef : entryFrame m #[(.ref b)] 1 = (mkF m 0 #[.val (.ref b)] []) := by first | (simp [entryFrame, mkF, argsToLocals, Value.category]; done) | rfl
  show OwnGoes p e below (fun ow_ Ue_ => ∃ vw_ Lw_, ow_ = .returned vw_ ∧ Q1 r h0 n0 vw_ Ue_.heap Lw_ ∧ FrameEnd s ow_ Ue_ Lw_ ({ frames := 0, cells := 0, slots := 0, locals := 0 } : Room).cells ({ frames := 0, cells := 0, slots := 0, locals := 0 } : Room).slots) (s₁.setTop (entryFrame m #[(.ref b)] 1))
  refine own_pre (fun t k => castTop ef k) ?_
  show OwnGoes p e below _ (s₁.setTop (mkF m 0 #[.val (.ref b)] []))
  refine own_pre (fun _ kz_ => XS.aloadN X0.here hx rfl (hb hby d2_0) rfl rfl kz_) ?_
  show OwnGoes p e below _ (s₁.setTop (mkF m 1 #[.val (.ref b)] [(.ref b)]))
  obtain ⟨T1, X1, e1, st1⟩ := getS2 X0 hx hZ hown (host := "") (Or.inl (hw _ (List.mem_of_getElem? (i := 13) rfl))) Via.refl e0 S5 (g := (mkF m 1 #[.val (.ref b)] [(.ref b)])) rfl (hb hby d2_1)
  refine own_pre st1 ?_
  show OwnGoes p e below _ (T1.setTop (mkF m 4 #[.val (.ref b)] [(.ref u5), (.ref b)]))
  by_cases h4 : b = u5
  · refine own_pre (fun _ kz_ => Jvm.RoadKit.acmp (g := (mkF m 4 #[.val (.ref b)] [(.ref u5), (.ref b)])) X1 hx rfl rfl rfl (pc0 := 4) (pc' := 7) (same := true) rfl (hb hby d2_4) rfl (decide_eq_true (congrArg Value.ref h4)) (by decide) (by decide) kz_) ?_
    show OwnGoes p e below _ (T1.setTop (mkF m 7 #[.val (.ref b)] []))
    refine own_pre (fun _ kz_ => XS.iconst X1.here hx rfl (hb hby d2_7) kz_) ?_
    show OwnGoes p e below _ (T1.setTop (mkF m 8 #[.val (.ref b)] [(.int (1 : Int32))]))
    refine own_pre (fun _ kz_ => XS.goto X1.here hx rfl (pc0 := 8) (pc' := 12) rfl (hb hby d2_8) (by decide) (by decide) kz_) ?_
    show OwnGoes p e below _ (T1.setTop (mkF m 12 #[.val (.ref b)] [(.int (1 : Int32))]))
    exact own_ret X1 hx Bd.returns (rfl) (Or.inl ⟨rfl, by simp, _, rfl⟩) Bd.notSynchronized (hb hby d2_12) ⟨by rw [hr, if_pos h4], N0, e1⟩ (by decide) (by decide)
  · refine own_pre (fun _ kz_ => Jvm.RoadKit.acmp (g := (mkF m 4 #[.val (.ref b)] [(.ref u5), (.ref b)])) X1 hx rfl rfl rfl (pc0 := 4) (pc' := 11) (same := false) rfl (hb hby d2_4) rfl (decide_eq_false fun qz_ => h4 (Value.ref.inj qz_)) (by decide) (by decide) kz_) ?_
    show OwnGoes p e below _ (T1.setTop (mkF m 11 #[.val (.ref b)] []))
    refine own_pre (fun _ kz_ => XS.iconst X1.here hx rfl (hb hby d2_11) kz_) ?_
    show OwnGoes p e below _ (T1.setTop (mkF m 12 #[.val (.ref b)] [(.int (0 : Int32))]))
    exact own_ret X1 hx Bd.returns (rfl) (Or.inl ⟨rfl, by simp, _, rfl⟩) Bd.notSynchronized (hb hby d2_12) ⟨by rw [hr, if_neg h4], N0, e1⟩ (by decide) (by decide)
set_option maxRecDepth 65536 in
set_option maxHeartbeats 40000000 in
theorem rmNu (l : Launch) (Z : State) (a0 : Array Value) (hw : ∀ d ∈ tables_1, d.before a0 Z = true) (ws : List Jvm.Cond) (b r : Addr) (h0 : Heap) (n0 : Nat) (Z0 : n0 ≤ h0.size) (F0 : Fld Z h0 b "com/example/haversack/haversack/BagItVersion" "number" "Ljava/lang/String;" (.ref r)) :
    MetFree l (⟨"com/example/haversack/haversack/BagItVersion", "number", "()Ljava/lang/String;"⟩ : MethodName) (head1 (Jvm.Cond.code (⟨"com/example/haversack/haversack/BagItVersion", "number", "()Ljava/lang/String;"⟩ : MethodName) prog_12_method_4_code 1 (some (.object "java/lang/String")) :: ws) ({ frames := 0, cells := 0, slots := 0, locals := 0 } : Room)) (fun a U => a = #[(.ref b)] ∧ Z.Warmed39 U.vm ∧ U.heap = h0) (fun _ _ _ _ _ => True) (fun _ Uw_ ow_ Ue_ => ∃ vw_ Lw_, ow_ = .returned vw_ ∧ QP r h0 n0 vw_ Ue_.heap Lw_ ∧ FrameEnd Uw_ ow_ Ue_ Lw_ ({ frames := 0, cells := 0, slots := 0, locals := 0 } : Room).cells ({ frames := 0, cells := 0, slots := 0, locals := 0 } : Room).slots) := by
  refine MetFree.of_bodySF (plainFor_of_name (by first | (simp [plainName, overriddenIn]; done) | decide +kernel)) hisR ?_
  intro p e s m args below meth c s₁ Bd hml0 hP hK
  obtain ⟨rfl, hZ, hh⟩ := hP
  have hx := Bd.exec
  have hby := Bd.bytes
  have hml : c.maxLocals = 1 := hml0
  have hown : s.vm.findClass "com/example/haversack/haversack/BagItVersion" = some m.cls := findClass_of_methodNamed Bd.named
  have hnm := (name_of_methodNamed Bd.named Bd.method).1
  have X0 : Stand p l e ({ frames := 0, cells := 0, slots := 0, locals := 0 } : Room) s m #[(.ref b)] below meth c s₁ [] 0 0 := Stand.of_body Bd
  have e0 : s₁.heap = h0 := by rw [← hh, Bd.state]; rfl
  have N0 := Fr.nil n0
  have ef : entryFrame m #[(.ref b)] 1 = (mkF m 0 #[.val (.ref b)] []) := by first | (simp [entryFrame, mkF, argsToLocals, Value.category]; done) | rfl
  show OwnGoes p e below (fun ow_ Ue_ => ∃ vw_ Lw_, ow_ = .returned vw_ ∧ QP r h0 n0 vw_ Ue_.heap Lw_ ∧ FrameEnd s ow_ Ue_ Lw_ ({ frames := 0, cells := 0, slots := 0, locals := 0 } : Room).cells ({ frames := 0, cells := 0, slots := 0, locals := 0 } : Room).slots) (s₁.setTop (entryFrame m #[(.ref b)] 1))
  refine own_pre (fun t k => castTop ef k) ?_
  show OwnGoes p e below _ (s₁.setTop (mkF m 0 #[.val (.ref b)] []))
  refine own_pre (fun _ kz_ => XS.aloadN X0.here hx rfl (hb hby d3_0) rfl rfl kz_) ?_
  show OwnGoes p e below _ (s₁.setTop (mkF m 1 #[.val (.ref b)] [(.ref b)]))
  obtain ⟨T1, X1, e1, st1⟩ := getF X0 hx hZ hown (host := "") (Or.inl (hw _ (List.mem_of_getElem? (i := 20) rfl))) Via.refl e0 F0 (g := (mkF m 1 #[.val (.ref b)] [(.ref b)])) rfl rfl (hb hby d3_1)
  refine own_pre st1 ?_
  show OwnGoes p e below _ (T1.setTop (mkF m 4 #[.val (.ref b)] [(.ref r)]))
  exact own_ret X1 hx Bd.returns (rfl) (Or.inr (Or.inr (Or.inr (Or.inr ⟨rfl, rfl, rfl⟩)))) Bd.notSynchronized (hb hby d3_4) ⟨rfl, N0, e1⟩ (by decide) (by decide)
set_option maxRecDepth 65536 in
set_option maxHeartbeats 40000000 in
theorem rmL3 (l : Launch) (Z : State) (a0 : Array Value) (hw : ∀ d ∈ tables_1, d.before a0 Z = true) (ws : List Jvm.Cond) (b d : Addr) (h0 : Heap) (n0 : Nat) (Z0 : n0 ≤ h0.size) (VA : OwnA Z h0 b .byte [(.int (49 : Int32)), (.int (46 : Int32)), (.int (48 : Int32))]) (VB : OwnA Z h0 d .byte [(.int (49 : Int32)), (.int (46 : Int32)), (.int (48 : Int32))]) :
    MetFree l (⟨"java/lang/StringLatin1", "equals", "([B[B)Z"⟩ : MethodName) (head1 (Jvm.Cond.code (⟨"java/lang/StringLatin1", "equals", "([B[B)Z"⟩ : MethodName) jdk_43_method_13_code 3 (some .boolean) :: ws) ({ frames := 0, cells := 0, slots := 0, locals := 0 } : Room)) (fun a U => a = #[(.ref b), (.ref d)] ∧ Z.Warmed39 U.vm ∧ U.heap = h0) (fun _ _ _ _ _ => True) (fun _ Uw_ ow_ Ue_ => ∃ vw_ Lw_, ow_ = .returned vw_ ∧ Q1 (1 : Int32) h0 n0 vw_ Ue_.heap Lw_ ∧ FrameEnd Uw_ ow_ Ue_ Lw_ ({ frames := 0, cells := 0, slots := 0, locals := 0 } : Room).cells ({ frames := 0, cells := 0, slots := 0, locals := 0 } : Room).slots) := by
  refine MetFree.of_bodySF (plainFor_of_name (by first | (simp [plainName, overriddenIn]; done) | decide +kernel)) hisR ?_
  intro p e s m args below meth c s₁ Bd hml0 hP hK
  obtain ⟨rfl, hZ, hh⟩ := hP
  have hx := Bd.exec
  have hby := Bd.bytes
  have hml : c.maxLocals = 3 := hml0
  have hown : s.vm.findClass "java/lang/StringLatin1" = some m.cls := findClass_of_methodNamed Bd.named
  have hnm := (name_of_methodNamed Bd.named Bd.method).1
  have X0 : Stand p l e ({ frames := 0, cells := 0, slots := 0, locals := 0 } : Room) s m #[(.ref b), (.ref d)] below meth c s₁ [] 0 0 := Stand.of_body Bd
  have e0 : s₁.heap = h0 := by rw [← hh, Bd.state]; rfl
  have N0 := Fr.nil n0
  have ef : entryFrame m #[(.ref b), (.ref d)] 3 = (mkF m 0 #[.val (.ref b), .val (.ref d), .unset] []) := by first | (simp [entryFrame, mkF, argsToLocals, Value.category]; done) | rfl
  show OwnGoes p e below (fun ow_ Ue_ => ∃ vw_ Lw_, ow_ = .returned vw_ ∧ Q1 (1 : Int32) h0 n0 vw_ Ue_.heap Lw_ ∧ FrameEnd s ow_ Ue_ Lw_ ({ frames := 0, cells := 0, slots := 0, locals := 0 } : Room).cells ({ frames := 0, cells := 0, slots := 0, locals := 0 } : Room).slots) (s₁.setTop (entryFrame m #[(.ref b), (.ref d)] 3))
  refine own_pre (fun t k => castTop ef k) ?_
  show OwnGoes p e below _ (s₁.setTop (mkF m 0 #[.val (.ref b), .val (.ref d), .unset] []))
  refine own_pre (fun _ kz_ => XS.aloadN X0.here hx rfl (hb hby d5_0) rfl rfl kz_) ?_
  show OwnGoes p e below _ (s₁.setTop (mkF m 1 #[.val (.ref b), .val (.ref d), .unset] [(.ref b)]))
  refine own_pre (own_alen X0 hx hZ e0 VA (n := (3 : Int32)) rfl (g := (mkF m 1 #[.val (.ref b), .val (.ref d), .unset] [(.ref b)])) rfl rfl (hb hby d5_1)) ?_
  show OwnGoes p e below _ (s₁.setTop (mkF m 2 #[.val (.ref b), .val (.ref d), .unset] [(.int (3 : Int32))]))
  refine own_pre (fun _ kz_ => XS.aloadN X0.here hx rfl (hb hby d5_2) rfl rfl kz_) ?_
  show OwnGoes p e below _ (s₁.setTop (mkF m 3 #[.val (.ref b), .val (.ref d), .unset] [(.ref d), (.int (3 : Int32))]))
  refine own_pre (own_alen X0 hx hZ e0 VB (n := (3 : Int32)) rfl (g := (mkF m 3 #[.val (.ref b), .val (.ref d), .unset] [(.ref d), (.int (3 : Int32))])) rfl rfl (hb hby d5_3)) ?_
  show OwnGoes p e below _ (s₁.setTop (mkF m 4 #[.val (.ref b), .val (.ref d), .unset] [(.int (3 : Int32)), (.int (3 : Int32))]))
  refine own_pre (fun _ kz_ => XS.icmpNo X0.here hx rfl (hb hby d5_4) rfl (teq (by decide : (3 : Int32) = (3 : Int32))).2 kz_) ?_
  show OwnGoes p e below _ (s₁.setTop (mkF m 7 #[.val (.ref b), .val (.ref d), .unset] []))
  refine own_pre (fun _ kz_ => XS.iconst X0.here hx rfl (hb hby d5_7) kz_) ?_
  show OwnGoes p e below _ (s₁.setTop (mkF m 8 #[.val (.ref b), .val (.ref d), .unset] [(.int (0 : Int32))]))
  refine own_pre (fun _ kz_ => XS.istoreN X0.here hx rfl (hb hby d5_8) rfl (l' := #[.val (.ref b), .val (.ref d), .val (.int (0 : Int32))]) rfl kz_) ?_
  show OwnGoes p e below _ (s₁.setTop (mkF m 9 #[.val (.ref b), .val (.ref d), .val (.int (0 : Int32))] []))
  refine own_pre (fun _ kz_ => XS.iloadN X0.here hx rfl (hb hby d5_9) rfl kz_) ?_
  show OwnGoes p e below _ (s₁.setTop (mkF m 10 #[.val (.ref b), .val (.ref d), .val (.int (0 : Int32))] [(.int (0 : Int32))]))
  refine own_pre (fun _ kz_ => XS.aloadN X0.here hx rfl (hb hby d5_10) rfl rfl kz_) ?_
  show OwnGoes p e below _ (s₁.setTop (mkF m 11 #[.val (.ref b), .val (.ref d), .val (.int (0 : Int32))] [(.ref b), (.int (0 : Int32))]))
  refine own_pre (own_alen X0 hx hZ e0 VA (n := (3 : Int32)) rfl (g := (mkF m 11 #[.val (.ref b), .val (.ref d), .val (.int (0 : Int32))] [(.ref b), (.int (0 : Int32))])) rfl rfl (hb hby d5_11)) ?_
  show OwnGoes p e below _ (s₁.setTop (mkF m 12 #[.val (.ref b), .val (.ref d), .val (.int (0 : Int32))] [(.int (3 : Int32)), (.int (0 : Int32))]))
  refine own_pre (fun _ kz_ => XS.icmpNo X0.here hx rfl (hb hby d5_12) rfl (tlt (by decide : (0 : Int32) < (3 : Int32))).2.1 kz_) ?_
  show OwnGoes p e below _ (s₁.setTop (mkF m 15 #[.val (.ref b), .val (.ref d), .val (.int (0 : Int32))] []))
  refine own_pre (fun _ kz_ => XS.aloadN X0.here hx rfl (hb hby d5_15) rfl rfl kz_) ?_
  show OwnGoes p e below _ (s₁.setTop (mkF m 16 #[.val (.ref b), .val (.ref d), .val (.int (0 : Int32))] [(.ref b)]))
  refine own_pre (fun _ kz_ => XS.iloadN X0.here hx rfl (hb hby d5_16) rfl kz_) ?_
  show OwnGoes p e below _ (s₁.setTop (mkF m 17 #[.val (.ref b), .val (.ref d), .val (.int (0 : Int32))] [(.int (0 : Int32)), (.ref b)]))
  refine own_pre (own_bald X0 hx hZ e0 VA (j := (0 : Int32)) (v := (.int (49 : Int32))) (by decide) rfl (g := (mkF m 17 #[.val (.ref b), .val (.ref d), .val (.int (0 : Int32))] [(.int (0 : Int32)), (.ref b)])) rfl rfl (hb hby d5_17)) ?_
  show OwnGoes p e below _ (s₁.setTop (mkF m 18 #[.val (.ref b), .val (.ref d), .val (.int (0 : Int32))] [(.int (49 : Int32))]))
  refine own_pre (fun _ kz_ => XS.aloadN X0.here hx rfl (hb hby d5_18) rfl rfl kz_) ?_
  show OwnGoes p e below _ (s₁.setTop (mkF m 19 #[.val (.ref b), .val (.ref d), .val (.int (0 : Int32))] [(.ref d), (.int (49 : Int32))]))
  refine own_pre (fun _ kz_ => XS.iloadN X0.here hx rfl (hb hby d5_19) rfl kz_) ?_
  show OwnGoes p e below _ (s₁.setTop (mkF m 20 #[.val (.ref b), .val (.ref d), .val (.int (0 : Int32))] [(.int (0 : Int32)), (.ref d), (.int (49 : Int32))]))
  refine own_pre (own_bald X0 hx hZ e0 VB (j := (0 : Int32)) (v := (.int (49 : Int32))) (by decide) rfl (g := (mkF m 20 #[.val (.ref b), .val (.ref d), .val (.int (0 : Int32))] [(.int (0 : Int32)), (.ref d), (.int (49 : Int32))])) rfl rfl (hb hby d5_20)) ?_
  show OwnGoes p e below _ (s₁.setTop (mkF m 21 #[.val (.ref b), .val (.ref d), .val (.int (0 : Int32))] [(.int (49 : Int32)), (.int (49 : Int32))]))
  refine own_pre (fun _ kz_ => XS.icmpYes X0.here hx rfl (pc0 := 21) (pc' := 26) rfl (hb hby d5_21) rfl (teq (by decide : (49 : Int32) = (49 : Int32))).1 (by decide) (by decide) kz_) ?_
  show OwnGoes p e below _ (s₁.setTop (mkF m 26 #[.val (.ref b), .val (.ref d), .val (.int (0 : Int32))] []))
  refine own_pre (fun _ kz_ => XS.iinc X0.here hx rfl (hb hby d5_26) rfl (l' := #[.val (.ref b), .val (.ref d), .val (.int ((0 : Int32) + (1 : Int32)))]) rfl kz_) ?_
  show OwnGoes p e below _ (s₁.setTop (mkF m 29 #[.val (.ref b), .val (.ref d), .val (.int ((0 : Int32) + (1 : Int32)))] []))
  rw [show ((0 : Int32) + (1 : Int32)) = (1 : Int32) from by decide]
  show OwnGoes p e below _ (s₁.setTop (mkF m 29 #[.val (.ref b), .val (.ref d), .val (.int (1 : Int32))] []))
  refine own_pre (fun _ kz_ => XS.goto X0.here hx rfl (pc0 := 29) (pc' := 9) rfl (hb hby d5_29) (by decide) (by decide) kz_) ?_
  show OwnGoes p e below _ (s₁.setTop (mkF m 9 #[.val (.ref b), .val (.ref d), .val (.int (1 : Int32))] []))
  refine own_pre (fun _ kz_ => XS.iloadN X0.here hx rfl (hb hby d5_9) rfl kz_) ?_
  show OwnGoes p e below _ (s₁.setTop (mkF m 10 #[.val (.ref b), .val (.ref d), .val (.int (1 : Int32))] [(.int (1 : Int32))]))
  refine own_pre (fun _ kz_ => XS.aloadN X0.here hx rfl (hb hby d5_10) rfl rfl kz_) ?_
  show OwnGoes p e below _ (s₁.setTop (mkF m 11 #[.val (.ref b), .val (.ref d), .val (.int (1 : Int32))] [(.ref b), (.int (1 : Int32))]))
  refine own_pre (own_alen X0 hx hZ e0 VA (n := (3 : Int32)) rfl (g := (mkF m 11 #[.val (.ref b), .val (.ref d), .val (.int (1 : Int32))] [(.ref b), (.int (1 : Int32))])) rfl rfl (hb hby d5_11)) ?_
  show OwnGoes p e below _ (s₁.setTop (mkF m 12 #[.val (.ref b), .val (.ref d), .val (.int (1 : Int32))] [(.int (3 : Int32)), (.int (1 : Int32))]))
  refine own_pre (fun _ kz_ => XS.icmpNo X0.here hx rfl (hb hby d5_12) rfl (tlt (by decide : (1 : Int32) < (3 : Int32))).2.1 kz_) ?_
  show OwnGoes p e below _ (s₁.setTop (mkF m 15 #[.val (.ref b), .val (.ref d), .val (.int (1 : Int32))] []))
  refine own_pre (fun _ kz_ => XS.aloadN X0.here hx rfl (hb hby d5_15) rfl rfl kz_) ?_
  show OwnGoes p e below _ (s₁.setTop (mkF m 16 #[.val (.ref b), .val (.ref d), .val (.int (1 : Int32))] [(.ref b)]))
  refine own_pre (fun _ kz_ => XS.iloadN X0.here hx rfl (hb hby d5_16) rfl kz_) ?_
  show OwnGoes p e below _ (s₁.setTop (mkF m 17 #[.val (.ref b), .val (.ref d), .val (.int (1 : Int32))] [(.int (1 : Int32)), (.ref b)]))
  refine own_pre (own_bald X0 hx hZ e0 VA (j := (1 : Int32)) (v := (.int (46 : Int32))) (by decide) rfl (g := (mkF m 17 #[.val (.ref b), .val (.ref d), .val (.int (1 : Int32))] [(.int (1 : Int32)), (.ref b)])) rfl rfl (hb hby d5_17)) ?_
  show OwnGoes p e below _ (s₁.setTop (mkF m 18 #[.val (.ref b), .val (.ref d), .val (.int (1 : Int32))] [(.int (46 : Int32))]))
  refine own_pre (fun _ kz_ => XS.aloadN X0.here hx rfl (hb hby d5_18) rfl rfl kz_) ?_
  show OwnGoes p e below _ (s₁.setTop (mkF m 19 #[.val (.ref b), .val (.ref d), .val (.int (1 : Int32))] [(.ref d), (.int (46 : Int32))]))
  refine own_pre (fun _ kz_ => XS.iloadN X0.here hx rfl (hb hby d5_19) rfl kz_) ?_
  show OwnGoes p e below _ (s₁.setTop (mkF m 20 #[.val (.ref b), .val (.ref d), .val (.int (1 : Int32))] [(.int (1 : Int32)), (.ref d), (.int (46 : Int32))]))
  refine own_pre (own_bald X0 hx hZ e0 VB (j := (1 : Int32)) (v := (.int (46 : Int32))) (by decide) rfl (g := (mkF m 20 #[.val (.ref b), .val (.ref d), .val (.int (1 : Int32))] [(.int (1 : Int32)), (.ref d), (.int (46 : Int32))])) rfl rfl (hb hby d5_20)) ?_
  show OwnGoes p e below _ (s₁.setTop (mkF m 21 #[.val (.ref b), .val (.ref d), .val (.int (1 : Int32))] [(.int (46 : Int32)), (.int (46 : Int32))]))
  refine own_pre (fun _ kz_ => XS.icmpYes X0.here hx rfl (pc0 := 21) (pc' := 26) rfl (hb hby d5_21) rfl (teq (by decide : (46 : Int32) = (46 : Int32))).1 (by decide) (by decide) kz_) ?_
  show OwnGoes p e below _ (s₁.setTop (mkF m 26 #[.val (.ref b), .val (.ref d), .val (.int (1 : Int32))] []))
  refine own_pre (fun _ kz_ => XS.iinc X0.here hx rfl (hb hby d5_26) rfl (l' := #[.val (.ref b), .val (.ref d), .val (.int ((1 : Int32) + (1 : Int32)))]) rfl kz_) ?_
  show OwnGoes p e below _ (s₁.setTop (mkF m 29 #[.val (.ref b), .val (.ref d), .val (.int ((1 : Int32) + (1 : Int32)))] []))
  rw [show ((1 : Int32) + (1 : Int32)) = (2 : Int32) from by decide]
  show OwnGoes p e below _ (s₁.setTop (mkF m 29 #[.val (.ref b), .val (.ref d), .val (.int (2 : Int32))] []))
  refine own_pre (fun _ kz_ => XS.goto X0.here hx rfl (pc0 := 29) (pc' := 9) rfl (hb hby d5_29) (by decide) (by decide) kz_) ?_
  show OwnGoes p e below _ (s₁.setTop (mkF m 9 #[.val (.ref b), .val (.ref d), .val (.int (2 : Int32))] []))
  refine own_pre (fun _ kz_ => XS.iloadN X0.here hx rfl (hb hby d5_9) rfl kz_) ?_
  show OwnGoes p e below _ (s₁.setTop (mkF m 10 #[.val (.ref b), .val (.ref d), .val (.int (2 : Int32))] [(.int (2 : Int32))]))
  refine own_pre (fun _ kz_ => XS.aloadN X0.here hx rfl (hb hby d5_10) rfl rfl kz_) ?_
  show OwnGoes p e below _ (s₁.setTop (mkF m 11 #[.val (.ref b), .val (.ref d), .val (.int (2 : Int32))] [(.ref b), (.int (2 : Int32))]))
  refine own_pre (own_alen X0 hx hZ e0 VA (n := (3 : Int32)) rfl (g := (mkF m 11 #[.val (.ref b), .val (.ref d), .val (.int (2 : Int32))] [(.ref b), (.int (2 : Int32))])) rfl rfl (hb hby d5_11)) ?_
  show OwnGoes p e below _ (s₁.setTop (mkF m 12 #[.val (.ref b), .val (.ref d), .val (.int (2 : Int32))] [(.int (3 : Int32)), (.int (2 : Int32))]))
  refine own_pre (fun _ kz_ => XS.icmpNo X0.here hx rfl (hb hby d5_12) rfl (tlt (by decide : (2 : Int32) < (3 : Int32))).2.1 kz_) ?_
  show OwnGoes p e below _ (s₁.setTop (mkF m 15 #[.val (.ref b), .val (.ref d), .val (.int (2 : Int32))] []))
  refine own_pre (fun _ kz_ => XS.aloadN X0.here hx rfl (hb hby d5_15) rfl rfl kz_) ?_
  show OwnGoes p e below _ (s₁.setTop (mkF m 16 #[.val (.ref b), .val (.ref d), .val (.int (2 : Int32))] [(.ref b)]))
  refine own_pre (fun _ kz_ => XS.iloadN X0.here hx rfl (hb hby d5_16) rfl kz_) ?_
  show OwnGoes p e below _ (s₁.setTop (mkF m 17 #[.val (.ref b), .val (.ref d), .val (.int (2 : Int32))] [(.int (2 : Int32)), (.ref b)]))
  refine own_pre (own_bald X0 hx hZ e0 VA (j := (2 : Int32)) (v := (.int (48 : Int32))) (by decide) rfl (g := (mkF m 17 #[.val (.ref b), .val (.ref d), .val (.int (2 : Int32))] [(.int (2 : Int32)), (.ref b)])) rfl rfl (hb hby d5_17)) ?_
  show OwnGoes p e below _ (s₁.setTop (mkF m 18 #[.val (.ref b), .val (.ref d), .val (.int (2 : Int32))] [(.int (48 : Int32))]))
  refine own_pre (fun _ kz_ => XS.aloadN X0.here hx rfl (hb hby d5_18) rfl rfl kz_) ?_
  show OwnGoes p e below _ (s₁.setTop (mkF m 19 #[.val (.ref b), .val (.ref d), .val (.int (2 : Int32))] [(.ref d), (.int (48 : Int32))]))
  refine own_pre (fun _ kz_ => XS.iloadN X0.here hx rfl (hb hby d5_19) rfl kz_) ?_
  show OwnGoes p e below _ (s₁.setTop (mkF m 20 #[.val (.ref b), .val (.ref d), .val (.int (2 : Int32))] [(.int (2 : Int32)), (.ref d), (.int (48 : Int32))]))
  refine own_pre (own_bald X0 hx hZ e0 VB (j := (2 : Int32)) (v := (.int (48 : Int32))) (by decide) rfl (g := (mkF m 20 #[.val (.ref b), .val (.ref d), .val (.int (2 : Int32))] [(.int (2 : Int32)), (.ref d), (.int (48 : Int32))])) rfl rfl (hb hby d5_20)) ?_
  show OwnGoes p e below _ (s₁.setTop (mkF m 21 #[.val (.ref b), .val (.ref d), .val (.int (2 : Int32))] [(.int (48 : Int32)), (.int (48 : Int32))]))
  refine own_pre (fun _ kz_ => XS.icmpYes X0.here hx rfl (pc0 := 21) (pc' := 26) rfl (hb hby d5_21) rfl (teq (by decide : (48 : Int32) = (48 : Int32))).1 (by decide) (by decide) kz_) ?_
  show OwnGoes p e below _ (s₁.setTop (mkF m 26 #[.val (.ref b), .val (.ref d), .val (.int (2 : Int32))] []))
  refine own_pre (fun _ kz_ => XS.iinc X0.here hx rfl (hb hby d5_26) rfl (l' := #[.val (.ref b), .val (.ref d), .val (.int ((2 : Int32) + (1 : Int32)))]) rfl kz_) ?_
  show OwnGoes p e below _ (s₁.setTop (mkF m 29 #[.val (.ref b), .val (.ref d), .val (.int ((2 : Int32) + (1 : Int32)))] []))
  rw [show ((2 : Int32) + (1 : Int32)) = (3 : Int32) from by decide]
  show OwnGoes p e below _ (s₁.setTop (mkF m 29 #[.val (.ref b), .val (.ref d), .val (.int (3 : Int32))] []))
  refine own_pre (fun _ kz_ => XS.goto X0.here hx rfl (pc0 := 29) (pc' := 9) rfl (hb hby d5_29) (by decide) (by decide) kz_) ?_
  show OwnGoes p e below _ (s₁.setTop (mkF m 9 #[.val (.ref b), .val (.ref d), .val (.int (3 : Int32))] []))
  refine own_pre (fun _ kz_ => XS.iloadN X0.here hx rfl (hb hby d5_9) rfl kz_) ?_
  show OwnGoes p e below _ (s₁.setTop (mkF m 10 #[.val (.ref b), .val (.ref d), .val (.int (3 : Int32))] [(.int (3 : Int32))]))
  refine own_pre (fun _ kz_ => XS.aloadN X0.here hx rfl (hb hby d5_10) rfl rfl kz_) ?_
  show OwnGoes p e below _ (s₁.setTop (mkF m 11 #[.val (.ref b), .val (.ref d), .val (.int (3 : Int32))] [(.ref b), (.int (3 : Int32))]))
  refine own_pre (own_alen X0 hx hZ e0 VA (n := (3 : Int32)) rfl (g := (mkF m 11 #[.val (.ref b), .val (.ref d), .val (.int (3 : Int32))] [(.ref b), (.int (3 : Int32))])) rfl rfl (hb hby d5_11)) ?_
  show OwnGoes p e below _ (s₁.setTop (mkF m 12 #[.val (.ref b), .val (.ref d), .val (.int (3 : Int32))] [(.int (3 : Int32)), (.int (3 : Int32))]))
  refine own_pre (fun _ kz_ => XS.icmpYes X0.here hx rfl (pc0 := 12) (pc' := 32) rfl (hb hby d5_12) rfl (flt (by decide : ¬ ((3 : Int32) < (3 : Int32)))).2.1 (by decide) (by decide) kz_) ?_
  show OwnGoes p e below _ (s₁.setTop (mkF m 32 #[.val (.ref b), .val (.ref d), .val (.int (3 : Int32))] []))
  refine own_pre (fun _ kz_ => XS.iconst X0.here hx rfl (hb hby d5_32) kz_) ?_
  show OwnGoes p e below _ (s₁.setTop (mkF m 33 #[.val (.ref b), .val (.ref d), .val (.int (3 : Int32))] [(.int (1 : Int32))]))
  exact own_ret X0 hx Bd.returns (rfl) (Or.inl ⟨rfl, by simp, _, rfl⟩) Bd.notSynchronized (hb hby d5_33) ⟨rfl, N0, e0⟩ (by decide) (by decide)
set_option maxRecDepth 65536 in
set_option maxHeartbeats 40000000 in
theorem rmEq3 (l : Launch) (Z : State) (a0 : Array Value) (hw : ∀ d ∈ tables_1, d.before a0 Z = true) (ws : List Jvm.Cond) (sa sg b d : Addr) (cs : Int32) (h0 : Heap) (n0 : Nat) (Z0 : n0 ≤ h0.size) (Ea : Exa Z h0 sa "java/lang/String") (Eb : Exa Z h0 sg "java/lang/String") (Ca : Fld Z h0 sa "java/lang/String" "coder" "B" (.int (0 : Int32))) (Cb : Fld Z h0 sg "java/lang/String" "coder" "B" (.int (0 : Int32))) (Va : Fld Z h0 sa "java/lang/String" "value" "[B" (.ref b)) (Vb : Fld Z h0 sg "java/lang/String" "value" "[B" (.ref d)) (VA : OwnA Z h0 b .byte [(.int (49 : Int32)), (.int (46 : Int32)), (.int (48 : Int32))]) (VB : OwnA Z h0 d .byte [(.int (49 : Int32)), (.int (46 : Int32)), (.int (48 : Int32))]) (SC : Sta Z h0 "java/lang/String" "COMPACT_STRINGS" "Z" (.int cs)) (hcs : ¬ cs = (0 : Int32)) :
    MetFree l (⟨"java/lang/String", "equals", "(Ljava/lang/Object;)Z"⟩ : MethodName) (head1 (Jvm.Cond.code (⟨"java/lang/String", "equals", "(Ljava/lang/Object;)Z"⟩ : MethodName) jdk_42_method_66_code 3 (some .boolean) :: ws) ({ frames := 1, cells := 0, slots := 0, locals := 14 } : Room)) (fun a U => a = #[(.ref sa), (.ref sg)] ∧ Z.Warmed39 U.vm ∧ U.heap = h0) (fun _ _ _ _ _ => True) (fun _ Uw_ ow_ Ue_ => ∃ vw_ Lw_, ow_ = .returned vw_ ∧ Q1 (1 : Int32) h0 n0 vw_ Ue_.heap Lw_ ∧ FrameEnd Uw_ ow_ Ue_ Lw_ ({ frames := 1, cells := 0, slots := 0, locals := 14 } : Room).cells ({ frames := 1, cells := 0, slots := 0, locals := 14 } : Room).slots) := by
  refine MetFree.of_bodySF (plainFor_of_name (by first | (simp [plainName, overriddenIn]; done) | decide +kernel)) hisR ?_
  intro p e s m args below meth c s₁ Bd hml0 hP hK
  obtain ⟨rfl, hZ, hh⟩ := hP
  have hx := Bd.exec
  have hby := Bd.bytes
  have hml : c.maxLocals = 3 := hml0
  have hown : s.vm.findClass "java/lang/String" = some m.cls := findClass_of_methodNamed Bd.named
  have hnm := (name_of_methodNamed Bd.named Bd.method).1
  have X0 : Stand p l e ({ frames := 1, cells := 0, slots := 0, locals := 14 } : Room) s m #[(.ref sa), (.ref sg)] below meth c s₁ [] 0 0 := Stand.of_body Bd
  have e0 : s₁.heap = h0 := by rw [← hh, Bd.state]; rfl
  have N0 := Fr.nil n0
  have ef : entryFrame m #[(.ref sa), (.ref sg)] 3 = (mkF m 0 #[.val (.ref sa), .val (.ref sg), .unset] []) := by first | (simp [entryFrame, mkF, argsToLocals, Value.category]; done) | rfl
  show OwnGoes p e below (fun ow_ Ue_ => ∃ vw_ Lw_, ow_ = .returned vw_ ∧ Q1 (1 : Int32) h0 n0 vw_ Ue_.heap Lw_ ∧ FrameEnd s ow_ Ue_ Lw_ ({ frames := 1, cells := 0, slots := 0, locals := 14 } : Room).cells ({ frames := 1, cells := 0, slots := 0, locals := 14 } : Room).slots) (s₁.setTop (entryFrame m #[(.ref sa), (.ref sg)] 3))
  refine own_pre (fun t k => castTop ef k) ?_
  show OwnGoes p e below _ (s₁.setTop (mkF m 0 #[.val (.ref sa), .val (.ref sg), .unset] []))
  refine own_pre (fun _ kz_ => XS.aloadN X0.here hx rfl (hb hby d4_0) rfl rfl kz_) ?_
  show OwnGoes p e below _ (s₁.setTop (mkF m 1 #[.val (.ref sa), .val (.ref sg), .unset] [(.ref sa)]))
  refine own_pre (fun _ kz_ => XS.aloadN X0.here hx rfl (hb hby d4_1) rfl rfl kz_) ?_
  show OwnGoes p e below _ (s₁.setTop (mkF m 2 #[.val (.ref sa), .val (.ref sg), .unset] [(.ref sg), (.ref sa)]))
  by_cases h2 : sa = sg
  · refine own_pre (fun _ kz_ => Jvm.RoadKit.acmp (g := (mkF m 2 #[.val (.ref sa), .val (.ref sg), .unset] [(.ref sg), (.ref sa)])) X0 hx rfl rfl rfl (pc0 := 2) (pc' := 5) (same := true) rfl (hb hby d4_2) rfl (decide_eq_true (congrArg Value.ref h2)) (by decide) (by decide) kz_) ?_
    show OwnGoes p e below _ (s₁.setTop (mkF m 5 #[.val (.ref sa), .val (.ref sg), .unset] []))
    refine own_pre (fun _ kz_ => XS.iconst X0.here hx rfl (hb hby d4_5) kz_) ?_
    show OwnGoes p e below _ (s₁.setTop (mkF m 6 #[.val (.ref sa), .val (.ref sg), .unset] [(.int (1 : Int32))]))
    exact own_ret X0 hx Bd.returns (rfl) (Or.inl ⟨rfl, by simp, _, rfl⟩) Bd.notSynchronized (hb hby d4_6) ⟨rfl, N0, e0⟩ (by decide) (by decide)
  · refine own_pre (fun _ kz_ => Jvm.RoadKit.acmp (g := (mkF m 2 #[.val (.ref sa), .val (.ref sg), .unset] [(.ref sg), (.ref sa)])) X0 hx rfl rfl rfl (pc0 := 2) (pc' := 7) (same := false) rfl (hb hby d4_2) rfl (decide_eq_false fun qz_ => h2 (Value.ref.inj qz_)) (by decide) (by decide) kz_) ?_
    show OwnGoes p e below _ (s₁.setTop (mkF m 7 #[.val (.ref sa), .val (.ref sg), .unset] []))
    refine own_pre (fun _ kz_ => XS.aloadN X0.here hx rfl (hb hby d4_7) rfl rfl kz_) ?_
    show OwnGoes p e below _ (s₁.setTop (mkF m 8 #[.val (.ref sa), .val (.ref sg), .unset] [(.ref sg)]))
    obtain ⟨T1, X1, e1, st1⟩ := instY X0 hx hZ hown (hw _ (List.mem_of_getElem? (i := 35) rfl)) e0 (Ins.self Eb) (g := (mkF m 8 #[.val (.ref sa), .val (.ref sg), .unset] [(.ref sg)])) rfl rfl (hb hby d4_8)
    refine own_pre st1 ?_
    show OwnGoes p e below _ (T1.setTop (mkF m 11 #[.val (.ref sa), .val (.ref sg), .unset] [(.int (1 : Int32))]))
    refine own_pre (fun _ kz_ => XS.ifNo X1.here hx rfl (hb hby d4_11) rfl ((if0 _ _).trans (feq (by decide : ¬ ((1 : Int32) = (0 : Int32)))).1) kz_) ?_
    show OwnGoes p e below _ (T1.setTop (mkF m 14 #[.val (.ref sa), .val (.ref sg), .unset] []))
    refine own_pre (fun _ kz_ => XS.aloadN X1.here hx rfl (hb hby d4_14) rfl rfl kz_) ?_
    show OwnGoes p e below _ (T1.setTop (mkF m 15 #[.val (.ref sa), .val (.ref sg), .unset] [(.ref sg)]))
    obtain ⟨T2, X2, e2, st2⟩ := castY X1 hx hZ hown (hw _ (List.mem_of_getElem? (i := 35) rfl)) e1 (Ins.self Eb) (g := (mkF m 15 #[.val (.ref sa), .val (.ref sg), .unset] [(.ref sg)])) rfl rfl (hb hby d4_15)
    refine own_pre st2 ?_
    show OwnGoes p e below _ (T2.setTop (mkF m 18 #[.val (.ref sa), .val (.ref sg), .unset] [(.ref sg)]))
    refine own_pre (fun _ kz_ => XS.astoreN X2.here hx rfl (hb hby d4_18) rfl rfl (l' := #[.val (.ref sa), .val (.ref sg), .val (.ref sg)]) rfl kz_) ?_
    show OwnGoes p e below _ (T2.setTop (mkF m 19 #[.val (.ref sa), .val (.ref sg), .val (.ref sg)] []))
    obtain ⟨T3, X3, e3, st3⟩ := getS2 X2 hx hZ hown (host := "") (Or.inl (hw _ (List.mem_of_getElem? (i := 37) rfl))) Via.refl e2 SC (g := (mkF m 19 #[.val (.ref sa), .val (.ref sg), .val (.ref sg)] [])) rfl (hb hby d4_19)
    refine own_pre st3 ?_
    show OwnGoes p e below _ (T3.setTop (mkF m 22 #[.val (.ref sa), .val (.ref sg), .val (.ref sg)] [(.int cs)]))
    refine own_pre (fun _ kz_ => XS.ifNo X3.here hx rfl (hb hby d4_22) rfl ((if0 _ _).trans (feq (hcs : ¬ (cs = (0 : Int32)))).1) kz_) ?_
    show OwnGoes p e below _ (T3.setTop (mkF m 25 #[.val (.ref sa), .val (.ref sg), .val (.ref sg)] []))
    refine own_pre (fun _ kz_ => XS.aloadN X3.here hx rfl (hb hby d4_25) rfl rfl kz_) ?_
    show OwnGoes p e below _ (T3.setTop (mkF m 26 #[.val (.ref sa), .val (.ref sg), .val (.ref sg)] [(.ref sa)]))
    obtain ⟨T4, X4, e4, st4⟩ := getF X3 hx hZ hown (host := "") (Or.inl (hw _ (List.mem_of_getElem? (i := 38) rfl))) Via.refl e3 Ca (g := (mkF m 26 #[.val (.ref sa), .val (.ref sg), .val (.ref sg)] [(.ref sa)])) rfl rfl (hb hby d4_26)
    refine own_pre st4 ?_
    show OwnGoes p e below _ (T4.setTop (mkF m 29 #[.val (.ref sa), .val (.ref sg), .val (.ref sg)] [(.int (0 : Int32))]))
    refine own_pre (fun _ kz_ => XS.aloadN X4.here hx rfl (hb hby d4_29) rfl rfl kz_) ?_
    show OwnGoes p e below _ (T4.setTop (mkF m 30 #[.val (.ref sa), .val (.ref sg), .val (.ref sg)] [(.ref sg), (.int (0 : Int32))]))
    obtain ⟨T5, X5, e5, st5⟩ := getF X4 hx hZ hown (host := "") (Or.inl (hw _ (List.mem_of_getElem? (i := 38) rfl))) Via.refl e4 Cb (g := (mkF m 30 #[.val (.ref sa), .val (.ref sg), .val (.ref sg)] [(.ref sg), (.int (0 : Int32))])) rfl rfl (hb hby d4_30)
    refine own_pre st5 ?_
    show OwnGoes p e below _ (T5.setTop (mkF m 33 #[.val (.ref sa), .val (.ref sg), .val (.ref sg)] [(.int (0 : Int32)), (.int (0 : Int32))]))
    refine own_pre (fun _ kz_ => XS.icmpNo X5.here hx rfl (hb hby d4_33) rfl (teq (by decide : (0 : Int32) = (0 : Int32))).2 kz_) ?_
    show OwnGoes p e below _ (T5.setTop (mkF m 36 #[.val (.ref sa), .val (.ref sg), .val (.ref sg)] []))
    refine own_pre (fun _ kz_ => XS.aloadN X5.here hx rfl (hb hby d4_36) rfl rfl kz_) ?_
    show OwnGoes p e below _ (T5.setTop (mkF m 37 #[.val (.ref sa), .val (.ref sg), .val (.ref sg)] [(.ref sa)]))
    obtain ⟨T6, X6, e6, st6⟩ := getF X5 hx hZ hown (host := "") (Or.inl (hw _ (List.mem_of_getElem? (i := 39) rfl))) Via.refl e5 Va (g := (mkF m 37 #[.val (.ref sa), .val (.ref sg), .val (.ref sg)] [(.ref sa)])) rfl rfl (hb hby d4_37)
    refine own_pre st6 ?_
    show OwnGoes p e below _ (T6.setTop (mkF m 40 #[.val (.ref sa), .val (.ref sg), .val (.ref sg)] [(.ref b)]))
    refine own_pre (fun _ kz_ => XS.aloadN X6.here hx rfl (hb hby d4_40) rfl rfl kz_) ?_
    show OwnGoes p e below _ (T6.setTop (mkF m 41 #[.val (.ref sa), .val (.ref sg), .val (.ref sg)] [(.ref sg), (.ref b)]))
    obtain ⟨T7, X7, e7, st7⟩ := getF X6 hx hZ hown (host := "") (Or.inl (hw _ (List.mem_of_getElem? (i := 39) rfl))) Via.refl e6 Vb (g := (mkF m 41 #[.val (.ref sa), .val (.ref sg), .val (.ref sg)] [(.ref sg), (.ref b)])) rfl rfl (hb hby d4_41)
    refine own_pre st7 ?_
    show OwnGoes p e below _ (T7.setTop (mkF m 44 #[.val (.ref sa), .val (.ref sg), .val (.ref sg)] [(.ref d), (.ref b)]))
    obtain ⟨_, _, ⟨T8, L8, k8, n8⟩, -, X8, ⟨Lc8, hQ8, l8, y8, z8⟩, st8⟩ := Jvm.LawKit.callS X7 hx (y := (⟨"java/lang/StringLatin1", "equals", "([B[B)Z"⟩ : MethodName)) hown (mvT hZ (hw _ (List.mem_of_getElem? (i := 40) rfl))) (mvT hZ (hw _ (List.mem_of_getElem? (i := 41) rfl))) (mvT hZ (hw _ (List.mem_of_getElem? (i := 42) rfl))) (mvT hZ (hw _ (List.mem_of_getElem? (i := 43) rfl))) (by decide) (backOf (W := 0) (rmL3 l Z a0 hw [] b d h0 n0 Z0 VA VB) hZ (hw _ (List.mem_of_getElem? (i := 43) rfl)) (hw _ (List.mem_of_getElem? (i := 42) rfl)) (by decide) (by decide)) (g := (mkF m 44 #[.val (.ref sa), .val (.ref sg), .val (.ref sg)] [(.ref d), (.ref b)])) rfl (by rw [hml]; rfl) (argsL := [(.ref b), (.ref d)]) (rest := []) (lenOf (d := "([B[B)Z") (ps := [(.array .byte), (.array .byte)]) (r := some .boolean) (by decide +kernel) rfl) rfl (by show 2 * 0 + _ ≤ _; exact Nat.le_of_eq rfl) (hb hby d4_44) (fun _ _ => ⟨rfl, e7, (by decide : 0 + 0 ≤ _), (by decide : 0 + 0 ≤ _)⟩)
    dsimp only [Pt.U, Pt.locs, Pt.cells, Pt.slots] at X8 l8 y8 z8 st8 hQ8
    subst l8 y8 z8
    obtain ⟨rfl, N8q, e8⟩ := hQ8
    have N8 := Fr.app N0 N8q
    refine own_pre st8 ?_
    show OwnGoes p e below _ (T8.setTop (mkF m 47 #[.val (.ref sa), .val (.ref sg), .val (.ref sg)] [(.int (1 : Int32))]))
    refine own_pre (fun _ kz_ => XS.ifNo X8.here hx rfl (hb hby d4_47) rfl ((if0 _ _).trans (feq (by decide : ¬ ((1 : Int32) = (0 : Int32)))).1) kz_) ?_
    show OwnGoes p e below _ (T8.setTop (mkF m 50 #[.val (.ref sa), .val (.ref sg), .val (.ref sg)] []))
    refine own_pre (fun _ kz_ => XS.iconst X8.here hx rfl (hb hby d4_50) kz_) ?_
    show OwnGoes p e below _ (T8.setTop (mkF m 51 #[.val (.ref sa), .val (.ref sg), .val (.ref sg)] [(.int (1 : Int32))]))
    refine own_pre (fun _ kz_ => XS.goto X8.here hx rfl (pc0 := 51) (pc' := 55) rfl (hb hby d4_51) (by decide) (by decide) kz_) ?_
    show OwnGoes p e below _ (T8.setTop (mkF m 55 #[.val (.ref sa), .val (.ref sg), .val (.ref sg)] [(.int (1 : Int32))]))
    exact own_ret X8 hx Bd.returns (rfl) (Or.inl ⟨rfl, by simp, _, rfl⟩) Bd.notSynchronized (hb hby d4_55) ⟨rfl, N8, e8⟩ (by decide) (by decide)
set_option maxRecDepth 65536 in
set_option maxHeartbeats 40000000 in
theorem rmL4 (l : Launch) (Z : State) (a0 : Array Value) (hw : ∀ d ∈ tables_1, d.before a0 Z = true) (ws : List Jvm.Cond) (b d : Addr) (vs : List Value) (h0 : Heap) (n0 : Nat) (Z0 : n0 ≤ h0.size) (VA : OwnA Z h0 b .byte vs) (VB : OwnA Z h0 d .byte [(.int (49 : Int32)), (.int (46 : Int32)), (.int (48 : Int32))]) (hl : vs.length = 4) :
    MetFree l (⟨"java/lang/StringLatin1", "equals", "([B[B)Z"⟩ : MethodName) (head1 (Jvm.Cond.code (⟨"java/lang/StringLatin1", "equals", "([B[B)Z"⟩ : MethodName) jdk_43_method_13_code 3 (some .boolean) :: ws) ({ frames := 0, cells := 0, slots := 0, locals := 0 } : Room)) (fun a U => a = #[(.ref b), (.ref d)] ∧ Z.Warmed39 U.vm ∧ U.heap = h0) (fun _ _ _ _ _ => True) (fun _ Uw_ ow_ Ue_ => ∃ vw_ Lw_, ow_ = .returned vw_ ∧ Q1 (0 : Int32) h0 n0 vw_ Ue_.heap Lw_ ∧ FrameEnd Uw_ ow_ Ue_ Lw_ ({ frames := 0, cells := 0, slots := 0, locals := 0 } : Room).cells ({ frames := 0, cells := 0, slots := 0, locals := 0 } : Room).slots) := by
  refine MetFree.of_bodySF (plainFor_of_name (by first | (simp [plainName, overriddenIn]; done) | decide +kernel)) hisR ?_
  intro p e s m args below meth c s₁ Bd hml0 hP hK
  obtain ⟨rfl, hZ, hh⟩ := hP
  have hx := Bd.exec
  have hby := Bd.bytes
  have hml : c.maxLocals = 3 := hml0
  have hown : s.vm.findClass "java/lang/StringLatin1" = some m.cls := findClass_of_methodNamed Bd.named
  have hnm := (name_of_methodNamed Bd.named Bd.method).1
  have X0 : Stand p l e ({ frames := 0, cells := 0, slots := 0, locals := 0 } : Room) s m #[(.ref b), (.ref d)] below meth c s₁ [] 0 0 := Stand.of_body Bd
  have e0 : s₁.heap = h0 := by rw [← hh, Bd.state]; rfl
  have N0 := Fr.nil n0
  have ef : entryFrame m #[(.ref b), (.ref d)] 3 = (mkF m 0 #[.val (.ref b), .val (.ref d), .unset] []) := by first | (simp [entryFrame, mkF, argsToLocals, Value.category]; done) | rfl
  show OwnGoes p e below (fun ow_ Ue_ => ∃ vw_ Lw_, ow_ = .returned vw_ ∧ Q1 (0 : Int32) h0 n0 vw_ Ue_.heap Lw_ ∧ FrameEnd s ow_ Ue_ Lw_ ({ frames := 0, cells := 0, slots := 0, locals := 0 } : Room).cells ({ frames := 0, cells := 0, slots := 0, locals := 0 } : Room).slots) (s₁.setTop (entryFrame m #[(.ref b), (.ref d)] 3))
  refine own_pre (fun t k => castTop ef k) ?_
  show OwnGoes p e below _ (s₁.setTop (mkF m 0 #[.val (.ref b), .val (.ref d), .unset] []))
  refine own_pre (fun _ kz_ => XS.aloadN X0.here hx rfl (hb hby d5_0) rfl rfl kz_) ?_
  show OwnGoes p e below _ (s₁.setTop (mkF m 1 #[.val (.ref b), .val (.ref d), .unset] [(.ref b)]))
  refine own_pre (own_alen X0 hx hZ e0 VA (n := (4 : Int32)) (by rw [hl]; rfl) (g := (mkF m 1 #[.val (.ref b), .val (.ref d), .unset] [(.ref b)])) rfl rfl (hb hby d5_1)) ?_
  show OwnGoes p e below _ (s₁.setTop (mkF m 2 #[.val (.ref b), .val (.ref d), .unset] [(.int (4 : Int32))]))
  refine own_pre (fun _ kz_ => XS.aloadN X0.here hx rfl (hb hby d5_2) rfl rfl kz_) ?_
  show OwnGoes p e below _ (s₁.setTop (mkF m 3 #[.val (.ref b), .val (.ref d), .unset] [(.ref d), (.int (4 : Int32))]))
  refine own_pre (own_alen X0 hx hZ e0 VB (n := (3 : Int32)) rfl (g := (mkF m 3 #[.val (.ref b), .val (.ref d), .unset] [(.ref d), (.int (4 : Int32))])) rfl rfl (hb hby d5_3)) ?_
  show OwnGoes p e below _ (s₁.setTop (mkF m 4 #[.val (.ref b), .val (.ref d), .unset] [(.int (3 : Int32)), (.int (4 : Int32))]))
  refine own_pre (fun _ kz_ => XS.icmpYes X0.here hx rfl (pc0 := 4) (pc' := 34) rfl (hb hby d5_4) rfl (feq (by decide : ¬ ((4 : Int32) = (3 : Int32)))).2 (by decide) (by decide) kz_) ?_
  show OwnGoes p e below _ (s₁.setTop (mkF m 34 #[.val (.ref b), .val (.ref d), .unset] []))
  refine own_pre (fun _ kz_ => XS.iconst X0.here hx rfl (hb hby d5_34) kz_) ?_
  show OwnGoes p e below _ (s₁.setTop (mkF m 35 #[.val (.ref b), .val (.ref d), .unset] [(.int (0 : Int32))]))
  exact own_ret X0 hx Bd.returns (rfl) (Or.inl ⟨rfl, by simp, _, rfl⟩) Bd.notSynchronized (hb hby d5_35) ⟨rfl, N0, e0⟩ (by decide) (by decide)
set_option maxRecDepth 65536 in
set_option maxHeartbeats 40000000 in
theorem rmEq4 (l : Launch) (Z : State) (a0 : Array Value) (hw : ∀ d ∈ tables_1, d.before a0 Z = true) (ws : List Jvm.Cond) (sa sg b d : Addr) (cs : Int32) (vs : List Value) (h0 : Heap) (n0 : Nat) (Z0 : n0 ≤ h0.size) (Ea : Exa Z h0 sa "java/lang/String") (Eb : Exa Z h0 sg "java/lang/String") (Ca : Fld Z h0 sa "java/lang/String" "coder" "B" (.int (0 : Int32))) (Cb : Fld Z h0 sg "java/lang/String" "coder" "B" (.int (0 : Int32))) (Va : Fld Z h0 sa "java/lang/String" "value" "[B" (.ref b)) (Vb : Fld Z h0 sg "java/lang/String" "value" "[B" (.ref d)) (VA : OwnA Z h0 b .byte vs) (VB : OwnA Z h0 d .byte [(.int (49 : Int32)), (.int (46 : Int32)), (.int (48 : Int32))]) (hl : vs.length = 4) (SC : Sta Z h0 "java/lang/String" "COMPACT_STRINGS" "Z" (.int cs)) (hcs : ¬ cs = (0 : Int32)) :
    MetFree l (⟨"java/lang/String", "equals", "(Ljava/lang/Object;)Z"⟩ : MethodName) (head1 (Jvm.Cond.code (⟨"java/lang/String", "equals", "(Ljava/lang/Object;)Z"⟩ : MethodName) jdk_42_method_66_code 3 (some .boolean) :: ws) ({ frames := 1, cells := 0, slots := 0, locals := 14 } : Room)) (fun a U => a = #[(.ref sa), (.ref sg)] ∧ Z.Warmed39 U.vm ∧ U.heap = h0) (fun _ _ _ _ _ => True) (fun _ Uw_ ow_ Ue_ => ∃ vw_ Lw_, ow_ = .returned vw_ ∧ Q1 (0 : Int32) h0 n0 vw_ Ue_.heap Lw_ ∧ FrameEnd Uw_ ow_ Ue_ Lw_ ({ frames := 1, cells := 0, slots := 0, locals := 14 } : Room).cells ({ frames := 1, cells := 0, slots := 0, locals := 14 } : Room).slots) := by
  refine MetFree.of_bodySF (plainFor_of_name (by first | (simp [plainName, overriddenIn]; done) | decide +kernel)) hisR ?_
  intro p e s m args below meth c s₁ Bd hml0 hP hK
  obtain ⟨rfl, hZ, hh⟩ := hP
  have hx := Bd.exec
  have hby := Bd.bytes
  have hml : c.maxLocals = 3 := hml0
  have hown : s.vm.findClass "java/lang/String" = some m.cls := findClass_of_methodNamed Bd.named
  have hnm := (name_of_methodNamed Bd.named Bd.method).1
  have X0 : Stand p l e ({ frames := 1, cells := 0, slots := 0, locals := 14 } : Room) s m #[(.ref sa), (.ref sg)] below meth c s₁ [] 0 0 := Stand.of_body Bd
  have e0 : s₁.heap = h0 := by rw [← hh, Bd.state]; rfl
  have N0 := Fr.nil n0
  have ef : entryFrame m #[(.ref sa), (.ref sg)] 3 = (mkF m 0 #[.val (.ref sa), .val (.ref sg), .unset] []) := by first | (simp [entryFrame, mkF, argsToLocals, Value.category]; done) | rfl
  show OwnGoes p e below (fun ow_ Ue_ => ∃ vw_ Lw_, ow_ = .returned vw_ ∧ Q1 (0 : Int32) h0 n0 vw_ Ue_.heap Lw_ ∧ FrameEnd s ow_ Ue_ Lw_ ({ frames := 1, cells := 0, slots := 0, locals := 14 } : Room).cells ({ frames := 1, cells := 0, slots := 0, locals := 14 } : Room).slots) (s₁.setTop (entryFrame m #[(.ref sa), (.ref sg)] 3))
  refine own_pre (fun t k => castTop ef k) ?_
  show OwnGoes p e below _ (s₁.setTop (mkF m 0 #[.val (.ref sa), .val (.ref sg), .unset] []))
  refine own_pre (fun _ kz_ => XS.aloadN X0.here hx rfl (hb hby d4_0) rfl rfl kz_) ?_
  show OwnGoes p e below _ (s₁.setTop (mkF m 1 #[.val (.ref sa), .val (.ref sg), .unset] [(.ref sa)]))
  refine own_pre (fun _ kz_ => XS.aloadN X0.here hx rfl (hb hby d4_1) rfl rfl kz_) ?_
  show OwnGoes p e below _ (s₁.setTop (mkF m 2 #[.val (.ref sa), .val (.ref sg), .unset] [(.ref sg), (.ref sa)]))
  refine own_pre (fun _ kz_ => Jvm.RoadKit.acmp (g := (mkF m 2 #[.val (.ref sa), .val (.ref sg), .unset] [(.ref sg), (.ref sa)])) X0 hx rfl rfl rfl (pc0 := 2) (pc' := 7) (same := false) rfl (hb hby d4_2) rfl (decide_eq_false fun qz_ => (Fld.ne Va Vb (fun z => own_ane VA VB (by rw [hl]; decide) (Value.ref.inj z)) : ¬ (sa = sg)) (Value.ref.inj qz_)) (by decide) (by decide) kz_) ?_
  show OwnGoes p e below _ (s₁.setTop (mkF m 7 #[.val (.ref sa), .val (.ref sg), .unset] []))
  refine own_pre (fun _ kz_ => XS.aloadN X0.here hx rfl (hb hby d4_7) rfl rfl kz_) ?_
  show OwnGoes p e below _ (s₁.setTop (mkF m 8 #[.val (.ref sa), .val (.ref sg), .unset] [(.ref sg)]))
  obtain ⟨T1, X1, e1, st1⟩ := instY X0 hx hZ hown (hw _ (List.mem_of_getElem? (i := 35) rfl)) e0 (Ins.self Eb) (g := (mkF m 8 #[.val (.ref sa), .val (.ref sg), .unset] [(.ref sg)])) rfl rfl (hb hby d4_8)
  refine own_pre st1 ?_
  show OwnGoes p e below _ (T1.setTop (mkF m 11 #[.val (.ref sa), .val (.ref sg), .unset] [(.int (1 : Int32))]))
  refine own_pre (fun _ kz_ => XS.ifNo X1.here hx rfl (hb hby d4_11) rfl ((if0 _ _).trans (feq (by decide : ¬ ((1 : Int32) = (0 : Int32)))).1) kz_) ?_
  show OwnGoes p e below _ (T1.setTop (mkF m 14 #[.val (.ref sa), .val (.ref sg), .unset] []))
  refine own_pre (fun _ kz_ => XS.aloadN X1.here hx rfl (hb hby d4_14) rfl rfl kz_) ?_
  show OwnGoes p e below _ (T1.setTop (mkF m 15 #[.val (.ref sa), .val (.ref sg), .unset] [(.ref sg)]))
  obtain ⟨T2, X2, e2, st2⟩ := castY X1 hx hZ hown (hw _ (List.mem_of_getElem? (i := 35) rfl)) e1 (Ins.self Eb) (g := (mkF m 15 #[.val (.ref sa), .val (.ref sg), .unset] [(.ref sg)])) rfl rfl (hb hby d4_15)
  refine own_pre st2 ?_
  show OwnGoes p e below _ (T2.setTop (mkF m 18 #[.val (.ref sa), .val (.ref sg), .unset] [(.ref sg)]))
  refine own_pre (fun _ kz_ => XS.astoreN X2.here hx rfl (hb hby d4_18) rfl rfl (l' := #[.val (.ref sa), .val (.ref sg), .val (.ref sg)]) rfl kz_) ?_
  show OwnGoes p e below _ (T2.setTop (mkF m 19 #[.val (.ref sa), .val (.ref sg), .val (.ref sg)] []))
  obtain ⟨T3, X3, e3, st3⟩ := getS2 X2 hx hZ hown (host := "") (Or.inl (hw _ (List.mem_of_getElem? (i := 37) rfl))) Via.refl e2 SC (g := (mkF m 19 #[.val (.ref sa), .val (.ref sg), .val (.ref sg)] [])) rfl (hb hby d4_19)
  refine own_pre st3 ?_
  show OwnGoes p e below _ (T3.setTop (mkF m 22 #[.val (.ref sa), .val (.ref sg), .val (.ref sg)] [(.int cs)]))
  refine own_pre (fun _ kz_ => XS.ifNo X3.here hx rfl (hb hby d4_22) rfl ((if0 _ _).trans (feq (hcs : ¬ (cs = (0 : Int32)))).1) kz_) ?_
  show OwnGoes p e below _ (T3.setTop (mkF m 25 #[.val (.ref sa), .val (.ref sg), .val (.ref sg)] []))
  refine own_pre (fun _ kz_ => XS.aloadN X3.here hx rfl (hb hby d4_25) rfl rfl kz_) ?_
  show OwnGoes p e below _ (T3.setTop (mkF m 26 #[.val (.ref sa), .val (.ref sg), .val (.ref sg)] [(.ref sa)]))
  obtain ⟨T4, X4, e4, st4⟩ := getF X3 hx hZ hown (host := "") (Or.inl (hw _ (List.mem_of_getElem? (i := 38) rfl))) Via.refl e3 Ca (g := (mkF m 26 #[.val (.ref sa), .val (.ref sg), .val (.ref sg)] [(.ref sa)])) rfl rfl (hb hby d4_26)
  refine own_pre st4 ?_
  show OwnGoes p e below _ (T4.setTop (mkF m 29 #[.val (.ref sa), .val (.ref sg), .val (.ref sg)] [(.int (0 : Int32))]))
  refine own_pre (fun _ kz_ => XS.aloadN X4.here hx rfl (hb hby d4_29) rfl rfl kz_) ?_
  show OwnGoes p e below _ (T4.setTop (mkF m 30 #[.val (.ref sa), .val (.ref sg), .val (.ref sg)] [(.ref sg), (.int (0 : Int32))]))
  obtain ⟨T5, X5, e5, st5⟩ := getF X4 hx hZ hown (host := "") (Or.inl (hw _ (List.mem_of_getElem? (i := 38) rfl))) Via.refl e4 Cb (g := (mkF m 30 #[.val (.ref sa), .val (.ref sg), .val (.ref sg)] [(.ref sg), (.int (0 : Int32))])) rfl rfl (hb hby d4_30)
  refine own_pre st5 ?_
  show OwnGoes p e below _ (T5.setTop (mkF m 33 #[.val (.ref sa), .val (.ref sg), .val (.ref sg)] [(.int (0 : Int32)), (.int (0 : Int32))]))
  refine own_pre (fun _ kz_ => XS.icmpNo X5.here hx rfl (hb hby d4_33) rfl (teq (by decide : (0 : Int32) = (0 : Int32))).2 kz_) ?_
  show OwnGoes p e below _ (T5.setTop (mkF m 36 #[.val (.ref sa), .val (.ref sg), .val (.ref sg)] []))
  refine own_pre (fun _ kz_ => XS.aloadN X5.here hx rfl (hb hby d4_36) rfl rfl kz_) ?_
  show OwnGoes p e below _ (T5.setTop (mkF m 37 #[.val (.ref sa), .val (.ref sg), .val (.ref sg)] [(.ref sa)]))
  obtain ⟨T6, X6, e6, st6⟩ := getF X5 hx hZ hown (host := "") (Or.inl (hw _ (List.mem_of_getElem? (i := 39) rfl))) Via.refl e5 Va (g := (mkF m 37 #[.val (.ref sa), .val (.ref sg), .val (.ref sg)] [(.ref sa)])) rfl rfl (hb hby d4_37)
  refine own_pre st6 ?_
  show OwnGoes p e below _ (T6.setTop (mkF m 40 #[.val (.ref sa), .val (.ref sg), .val (.ref sg)] [(.ref b)]))
  refine own_pre (fun _ kz_ => XS.aloadN X6.here hx rfl (hb hby d4_40) rfl rfl kz_) ?_
  show OwnGoes p e below _ (T6.setTop (mkF m 41 #[.val (.ref sa), .val (.ref sg), .val (.ref sg)] [(.ref sg), (.ref b)]))
  obtain ⟨T7, X7, e7, st7⟩ := getF X6 hx hZ hown (host := "") (Or.inl (hw _ (List.mem_of_getElem? (i := 39) rfl))) Via.refl e6 Vb (g := (mkF m 41 #[.val (.ref sa), .val (.ref sg), .val (.ref sg)] [(.ref sg), (.ref b)])) rfl rfl (hb hby d4_41)
  refine own_pre st7 ?_
  show OwnGoes p e below _ (T7.setTop (mkF m 44 #[.val (.ref sa), .val (.ref sg), .val (.ref sg)] [(.ref d), (.ref b)]))
  obtain ⟨_, _, ⟨T8, L8, k8, n8⟩, -, X8, ⟨Lc8, hQ8, l8, y8, z8⟩, st8⟩ := Jvm.LawKit.callS X7 hx (y := (⟨"java/lang/StringLatin1", "equals", "([B[B)Z"⟩ : MethodName)) hown (mvT hZ (hw _ (List.mem_of_getElem? (i := 40) rfl))) (mvT hZ (hw _ (List.mem_of_getElem? (i := 41) rfl))) (mvT hZ (hw _ (List.mem_of_getElem? (i := 42) rfl))) (mvT hZ (hw _ (List.mem_of_getElem? (i := 43) rfl))) (by decide) (backOf (W := 0) (rmL4 l Z a0 hw [] b d vs h0 n0 Z0 VA VB hl) hZ (hw _ (List.mem_of_getElem? (i := 43) rfl)) (hw _ (List.mem_of_getElem? (i := 42) rfl)) (by decide) (by decide)) (g := (mkF m 44 #[.val (.ref sa), .val (.ref sg), .val (.ref sg)] [(.ref d), (.ref b)])) rfl (by rw [hml]; rfl) (argsL := [(.ref b), (.ref d)]) (rest := []) (lenOf (d := "([B[B)Z") (ps := [(.array .byte), (.array .byte)]) (r := some .boolean) (by decide +kernel) rfl) rfl (by show 2 * 0 + _ ≤ _; exact Nat.le_of_eq rfl) (hb hby d4_44) (fun _ _ => ⟨rfl, e7, (by decide : 0 + 0 ≤ _), (by decide : 0 + 0 ≤ _)⟩)
  dsimp only [Pt.U, Pt.locs, Pt.cells, Pt.slots] at X8 l8 y8 z8 st8 hQ8
  subst l8 y8 z8
  obtain ⟨rfl, N8q, e8⟩ := hQ8
  have N8 := Fr.app N0 N8q
  refine own_pre st8 ?_
  show OwnGoes p e below _ (T8.setTop (mkF m 47 #[.val (.ref sa), .val (.ref sg), .val (.ref sg)] [(.int (0 : Int32))]))
  refine own_pre (fun _ kz_ => XS.ifYes X8.here hx rfl (pc0 := 47) (pc' := 54) rfl (hb hby d4_47) rfl ((if0 _ _).trans (teq (by decide : (0 : Int32) = (0 : Int32))).1) (by decide) (by decide) kz_) ?_
  show OwnGoes p e below _ (T8.setTop (mkF m 54 #[.val (.ref sa), .val (.ref sg), .val (.ref sg)] []))
  refine own_pre (fun _ kz_ => XS.iconst X8.here hx rfl (hb hby d4_54) kz_) ?_
  show OwnGoes p e below _ (T8.setTop (mkF m 55 #[.val (.ref sa), .val (.ref sg), .val (.ref sg)] [(.int (0 : Int32))]))
  exact own_ret X8 hx Bd.returns (rfl) (Or.inl ⟨rfl, by simp, _, rfl⟩) Bd.notSynchronized (hb hby d4_55) ⟨rfl, N8, e8⟩ (by decide) (by decide)
theorem own_atoms {Z : State} {a0 : Array Value} (hw : ∀ d ∈ tables_1, d.before a0 Z = true) : ∀ d ∈ Bundle.stringAtoms, d.before a0 Z = true := fun d hd => hw d (by
  simp only [Bundle.stringAtoms, List.mem_cons, List.not_mem_nil, or_false] at hd
  rcases hd with rfl | rfl | rfl | rfl | rfl | rfl | rfl
  · exact List.mem_of_getElem? (i := 23) rfl
  · exact List.mem_of_getElem? (i := 24) rfl
  · exact List.mem_of_getElem? (i := 25) rfl
  · exact List.mem_of_getElem? (i := 26) rfl
  · exact List.mem_of_getElem? (i := 27) rfl
  · exact List.mem_of_getElem? (i := 28) rfl
  · exact List.mem_of_getElem? (i := 29) rfl)
theorem own_ew {Z : State} {a0 : Array Value} (hw : ∀ d ∈ tables_1, d.before a0 Z = true) : EW Z a0 own_EL := EW.cons (hw _ (List.mem_of_getElem? (i := 22) rfl)) (by decide) EW.nil
set_option maxRecDepth 65536 in
set_option maxHeartbeats 40000000 in
theorem rm0 (l : Launch) (Z : State) (a0 : Array Value) (hw : ∀ d ∈ tables_1, d.before a0 Z = true) (ws : List Jvm.Cond) (p1 : Int32) (u0 u1 u2 u3 u4 u5 q0 q1 q2 q3 q4 q5 b0 b1 b2 b3 b4 b5 : Addr) (v0 v1 v2 v3 v4 : List Value) (cs : Int32) (h0 : Heap) (n0 : Nat) (Z0 : n0 ≤ h0.size) (S0 : Sta Z h0 "com/example/haversack/haversack/BagItVersion" "V0_93" "Lcom/example/haversack/haversack/BagItVersion;" (.ref u0)) (S1 : Sta Z h0 "com/example/haversack/haversack/BagItVersion" "V0_94" "Lcom/example/haversack/haversack/BagItVersion;" (.ref u1)) (S2 : Sta Z h0 "com/example/haversack/haversack/BagItVersion" "V0_95" "Lcom/example/haversack/haversack/BagItVersion;" (.ref u2)) (S3 : Sta Z h0 "com/example/haversack/haversack/BagItVersion" "V0_96" "Lcom/example/haversack/haversack/BagItVersion;" (.ref u3)) (S4 : Sta Z h0 "com/example/haversack/haversack/BagItVersion" "V0_97" "Lcom/example/haversack/haversack/BagItVersion;" (.ref u4)) (S5 : Sta Z h0 "com/example/haversack/haversack/BagItVersion" "V1_0" "Lcom/example/haversack/haversack/BagItVersion;" (.ref u5)) (E0 : Exa Z h0 u0 "com/example/haversack/haversack/BagItVersion") (E1 : Exa Z h0 u1 "com/example/haversack/haversack/BagItVersion") (E2 : Exa Z h0 u2 "com/example/haversack/haversack/BagItVersion") (E3 : Exa Z h0 u3 "com/example/haversack/haversack/BagItVersion") (E4 : Exa Z h0 u4 "com/example/haversack/haversack/BagItVersion") (E5 : Exa Z h0 u5 "com/example/haversack/haversack/BagItVersion") (ne0 : ¬ u0 = u5) (ne1 : ¬ u1 = u5) (ne2 : ¬ u2 = u5) (ne3 : ¬ u3 = u5) (ne4 : ¬ u4 = u5) (FN0 : Fld Z h0 u0 "com/example/haversack/haversack/BagItVersion" "number" "Ljava/lang/String;" (.ref q0)) (EN0 : Exa Z h0 q0 "java/lang/String") (CN0 : Fld Z h0 q0 "java/lang/String" "coder" "B" (.int (0 : Int32))) (VN0 : Fld Z h0 q0 "java/lang/String" "value" "[B" (.ref b0)) (AN0 : OwnA Z h0 b0 .byte v0) (hv0 : v0.length = 4) (FN1 : Fld Z h0 u1 "com/example/haversack/haversack/BagItVersion" "number" "Ljava/lang/String;" (.ref q1)) (EN1 : Exa Z h0 q1 "java/lang/String") (CN1 : Fld Z h0 q1 "java/lang/String" "coder" "B" (.int (0 : Int32))) (VN1 : Fld Z h0 q1 "java/lang/String" "value" "[B" (.ref b1)) (AN1 : OwnA Z h0 b1 .byte v1) (hv1 : v1.length = 4) (FN2 : Fld Z h0 u2 "com/example/haversack/haversack/BagItVersion" "number" "Ljava/lang/String;" (.ref q2)) (EN2 : Exa Z h0 q2 "java/lang/String") (CN2 : Fld Z h0 q2 "java/lang/String" "coder" "B" (.int (0 : Int32))) (VN2 : Fld Z h0 q2 "java/lang/String" "value" "[B" (.ref b2)) (AN2 : OwnA Z h0 b2 .byte v2) (hv2 : v2.length = 4) (FN3 : Fld Z h0 u3 "com/example/haversack/haversack/BagItVersion" "number" "Ljava/lang/String;" (.ref q3)) (EN3 : Exa Z h0 q3 "java/lang/String") (CN3 : Fld Z h0 q3 "java/lang/String" "coder" "B" (.int (0 : Int32))) (VN3 : Fld Z h0 q3 "java/lang/String" "value" "[B" (.ref b3)) (AN3 : OwnA Z h0 b3 .byte v3) (hv3 : v3.length = 4) (FN4 : Fld Z h0 u4 "com/example/haversack/haversack/BagItVersion" "number" "Ljava/lang/String;" (.ref q4)) (EN4 : Exa Z h0 q4 "java/lang/String") (CN4 : Fld Z h0 q4 "java/lang/String" "coder" "B" (.int (0 : Int32))) (VN4 : Fld Z h0 q4 "java/lang/String" "value" "[B" (.ref b4)) (AN4 : OwnA Z h0 b4 .byte v4) (hv4 : v4.length = 4) (FN5 : Fld Z h0 u5 "com/example/haversack/haversack/BagItVersion" "number" "Ljava/lang/String;" (.ref q5)) (EN5 : Exa Z h0 q5 "java/lang/String") (CN5 : Fld Z h0 q5 "java/lang/String" "coder" "B" (.int (0 : Int32))) (VN5 : Fld Z h0 q5 "java/lang/String" "value" "[B" (.ref b5)) (AN5 : OwnA Z h0 b5 .byte [(.int (49 : Int32)), (.int (46 : Int32)), (.int (48 : Int32))]) (SC : Sta Z h0 "java/lang/String" "COMPACT_STRINGS" "Z" (.int cs)) (hcs : ¬ cs = (0 : Int32)) :
    MetFree l x (head1 (Jvm.Cond.code x code maxLocals ret :: ws) room_1) (fun a U => a = #[(.int p1)] ∧ Z.Warmed39 U.vm ∧ U.heap = h0 ∧ CHv Z own_EL U.vm h0) (fun _ _ _ _ _ => True) (fun _ Uw_ ow_ Ue_ => ∃ vw_ Lw_, ow_ = .returned vw_ ∧ Q0 h0 n0 vw_ Ue_.heap Lw_ ∧ ReturnedEndW Uw_ ow_ Ue_ Lw_ room_1.cells room_1.slots) := by
  refine MetFree.of_bodySF (plainFor_of_name (by first | (simp [plainName, overriddenIn]; done) | decide +kernel)) hisR ?_
  intro p e s m args below meth c s₁ Bd hml0 hP hK
  obtain ⟨rfl, hZ, hh, hCH⟩ := hP
  have hx := Bd.exec
  have hby := Bd.bytes
  have hml : c.maxLocals = 4 := hml0
  have hown : s.vm.findClass "com/example/haversack/haversack/BagItVersionForbidsRepeatedEntriesPinLaw" = some m.cls := findClass_of_methodNamed Bd.named
  have hnm := (name_of_methodNamed Bd.named Bd.method).1
  have X0 : Stand p l e room_1 s m #[(.int p1)] below meth c s₁ [] 0 0 := Stand.of_body Bd
  have e0 : s₁.heap = h0 := by rw [← hh, Bd.state]; rfl
  have N0 := Fr.nil n0
  have ef : entryFrame m #[(.int p1)] maxLocals = (mkF m 0 #[.val (.int p1), .unset, .unset, .unset] []) := by first | (simp [entryFrame, mkF, argsToLocals, Value.category, maxLocals]; done) | rfl
  show OwnGoes p e below (fun ow_ Ue_ => ∃ vw_ Lw_, ow_ = .returned vw_ ∧ Q0 h0 n0 vw_ Ue_.heap Lw_ ∧ ReturnedEndW s ow_ Ue_ Lw_ room_1.cells room_1.slots) (s₁.setTop (entryFrame m #[(.int p1)] maxLocals))
  refine own_pre (fun t k => castTop ef k) ?_
  show OwnGoes p e below _ (s₁.setTop (mkF m 0 #[.val (.int p1), .unset, .unset, .unset] []))
  rcases own_mod p1 with hk | hk | hk | hk | hk | hk
  · show OwnGoes p e below _ (s₁.setTop (mkF m 0 #[.val (.int p1), .unset, .unset, .unset] []))
    refine own_pre (fun _ kz_ => XS.iloadN X0.here hx rfl (hb hby at_0) rfl kz_) ?_
    show OwnGoes p e below _ (s₁.setTop (mkF m 1 #[.val (.int p1), .unset, .unset, .unset] [(.int p1)]))
    obtain ⟨_, _, ⟨T1, L1, k1, n1⟩, -, X1, ⟨Lc1, hQ1, l1, y1, z1⟩, st1⟩ := Jvm.LawKit.callS X0 hx (y := (⟨"com/example/haversack/haversack/BagItVersionForbidsRepeatedEntriesPinLaw", "pick", "(I)Lcom/example/haversack/haversack/BagItVersion;"⟩ : MethodName)) hown (mvT hZ (hw _ (List.mem_of_getElem? (i := 0) rfl))) (mvT hZ (hw _ (List.mem_of_getElem? (i := 1) rfl))) (mvT hZ (hw _ (List.mem_of_getElem? (i := 2) rfl))) (mvT hZ (hw _ (List.mem_of_getElem? (i := 3) rfl))) (by decide) (backOf (W := 0) (rmP l Z a0 hw [] p1 (0 : Int32) u0 u1 u2 u3 u4 u5 u0 h0 n0 Z0 S0 S1 S2 S3 S4 S5 hk (by simp)) hZ (hw _ (List.mem_of_getElem? (i := 3) rfl)) (hw _ (List.mem_of_getElem? (i := 2) rfl)) (by decide) (by decide)) (g := (mkF m 1 #[.val (.int p1), .unset, .unset, .unset] [(.int p1)])) rfl (by rw [hml]; rfl) (argsL := [(.int p1)]) (rest := []) (lenOf (d := "(I)Lcom/example/haversack/haversack/BagItVersion;") (ps := [.int]) (r := some (.object "com/example/haversack/haversack/BagItVersion")) (by decide +kernel) rfl) rfl (by show 2 * 0 + _ ≤ _; exact Nat.le_of_eq rfl) (hb hby at_1) (fun _ _ => ⟨rfl, e0, (by decide : 0 + 0 ≤ _), (by decide : 0 + 0 ≤ _)⟩)
    dsimp only [Pt.U, Pt.locs, Pt.cells, Pt.slots] at X1 l1 y1 z1 st1 hQ1
    subst l1 y1 z1
    obtain ⟨rfl, N1q, e1⟩ := hQ1
    have N1 := Fr.app N0 N1q
    refine own_pre st1 ?_
    show OwnGoes p e below _ (T1.setTop (mkF m 4 #[.val (.int p1), .unset, .unset, .unset] [(.ref u0)]))
    refine own_pre (fun _ kz_ => XS.astoreN X1.here hx rfl (hb hby at_4) rfl rfl (l' := #[.val (.int p1), .val (.ref u0), .unset, .unset]) rfl kz_) ?_
    show OwnGoes p e below _ (T1.setTop (mkF m 5 #[.val (.int p1), .val (.ref u0), .unset, .unset] []))
    refine own_pre (fun _ kz_ => XS.aloadN X1.here hx rfl (hb hby at_5) rfl rfl kz_) ?_
    show OwnGoes p e below _ (T1.setTop (mkF m 6 #[.val (.int p1), .val (.ref u0), .unset, .unset] [(.ref u0)]))
    obtain ⟨cq2, kq2, q2a, q2b, q2c⟩ := isOf hZ e1 E0
    obtain ⟨_, _, ⟨T2, L2, k2, n2⟩, -, X2, ⟨Lc2, hQ2, l2, y2, z2⟩, st2⟩ := X1.virtualBack hx (y := (⟨"com/example/haversack/haversack/BagItVersion", "forbidsRepeatedEntries", "()Z"⟩ : MethodName)) (z := (⟨"com/example/haversack/haversack/BagItVersion", "forbidsRepeatedEntries", "()Z"⟩ : MethodName)) hown (mvT hZ (hw _ (List.mem_of_getElem? (i := 8) rfl))) (mvT hZ (hw _ (List.mem_of_getElem? (i := 9) rfl))) (notFace_of_selects (args := #[]) (mvT hZ (hw _ (List.mem_of_getElem? (i := 11) rfl)))) (mvT hZ (hw _ (List.mem_of_getElem? (i := 11) rfl))) (mvT hZ (hw _ (List.mem_of_getElem? (i := 10) rfl))) (by decide) (backOf (W := 0) (rm1 l Z a0 hw [] u0 u5 (0 : Int32) h0 n0 Z0 S5 (if_neg ne0).symm) hZ (hw _ (List.mem_of_getElem? (i := 12) rfl)) (hw _ (List.mem_of_getElem? (i := 6) rfl)) (by decide) (by decide)) q2a q2c (g := (mkF m 6 #[.val (.int p1), .val (.ref u0), .unset, .unset] [(.ref u0)])) rfl (by rw [hml]; rfl) (Steps.refl _) (argsL := []) (rest := []) (lenOf (d := "()Z") (ps := []) (r := some .boolean) (by decide +kernel) rfl) rfl (by show 2 * 0 + _ ≤ _; exact Nat.le_of_eq rfl) (hb hby at_6) (fun _ _ => ⟨rfl, e1, (by decide : 0 + 0 ≤ _), (by decide : 0 + 0 ≤ _)⟩)
    dsimp only [Pt.U, Pt.locs, Pt.cells, Pt.slots] at X2 l2 y2 z2 st2 hQ2
    subst l2 y2 z2
    obtain ⟨rfl, N2q, e2⟩ := hQ2
    have N2 := Fr.app N1 N2q
    refine own_tr st2 ?_
    show OwnGoes p e below _ (T2.setTop (mkF m 9 #[.val (.int p1), .val (.ref u0), .unset, .unset] [(.int (0 : Int32))]))
    refine own_pre (fun _ kz_ => XS.istoreN X2.here hx rfl (hb hby at_9) rfl (l' := #[.val (.int p1), .val (.ref u0), .val (.int (0 : Int32)), .unset]) rfl kz_) ?_
    show OwnGoes p e below _ (T2.setTop (mkF m 10 #[.val (.int p1), .val (.ref u0), .val (.int (0 : Int32)), .unset] []))
    refine own_pre (fun _ kz_ => XS.aloadN X2.here hx rfl (hb hby at_10) rfl rfl kz_) ?_
    show OwnGoes p e below _ (T2.setTop (mkF m 11 #[.val (.int p1), .val (.ref u0), .val (.int (0 : Int32)), .unset] [(.ref u0)]))
    obtain ⟨cq3, kq3, q3a, q3b, q3c⟩ := isOf hZ e2 E0
    obtain ⟨_, _, ⟨T3, L3, k3, n3⟩, -, X3, ⟨Lc3, hQ3, l3, y3, z3⟩, st3⟩ := X2.virtualBack hx (y := (⟨"com/example/haversack/haversack/BagItVersion", "number", "()Ljava/lang/String;"⟩ : MethodName)) (z := (⟨"com/example/haversack/haversack/BagItVersion", "number", "()Ljava/lang/String;"⟩ : MethodName)) hown (mvT hZ (hw _ (List.mem_of_getElem? (i := 15) rfl))) (mvT hZ (hw _ (List.mem_of_getElem? (i := 16) rfl))) (notFace_of_selects (args := #[]) (mvT hZ (hw _ (List.mem_of_getElem? (i := 18) rfl)))) (mvT hZ (hw _ (List.mem_of_getElem? (i := 18) rfl))) (mvT hZ (hw _ (List.mem_of_getElem? (i := 17) rfl))) (by decide) (backOf (W := 0) (rmNu l Z a0 hw [] u0 q0 h0 n0 Z0 FN0) hZ (hw _ (List.mem_of_getElem? (i := 19) rfl)) (hw _ (List.mem_of_getElem? (i := 6) rfl)) (by decide) (by decide)) q3a q3c (g := (mkF m 11 #[.val (.int p1), .val (.ref u0), .val (.int (0 : Int32)), .unset] [(.ref u0)])) rfl (by rw [hml]; rfl) (Steps.refl _) (argsL := []) (rest := []) (lenOf (d := "()Ljava/lang/String;") (ps := []) (r := some (.object "java/lang/String")) (by decide +kernel) rfl) rfl (by show 2 * 0 + _ ≤ _; exact Nat.le_of_eq rfl) (hb hby at_11) (fun _ _ => ⟨rfl, e2, (by decide : 0 + 0 ≤ _), (by decide : 0 + 0 ≤ _)⟩)
    dsimp only [Pt.U, Pt.locs, Pt.cells, Pt.slots] at X3 l3 y3 z3 st3 hQ3
    subst l3 y3 z3
    obtain ⟨rfl, N3q, e3⟩ := hQ3
    have N3 := Fr.app N2 N3q
    refine own_tr st3 ?_
    show OwnGoes p e below _ (T3.setTop (mkF m 14 #[.val (.int p1), .val (.ref u0), .val (.int (0 : Int32)), .unset] [(.ref q0)]))
    obtain ⟨gs, Tl, hl_, k1, gd, gk, Xl, el, El, hS1, hk1, hZ, hown, Eg, Cg, Vg, Ag, -, -, -, -, -, stl⟩ := ldcCH (s := s) (vm0 := s.vm) X3 hx hZ hown (hw _ (List.mem_of_getElem? (i := 22) rfl)) (own_atoms hw) e3 ((State.WarmedH.refl s).since 0) (Nat.zero_le _) (own_ew hw) (List.mem_singleton.mpr rfl) hCH (vs := [(.int (49 : Int32)), (.int (46 : Int32)), (.int (48 : Int32))]) (z := 3) ⟨by decide, rfl⟩ (by decide) rfl (g := (mkF m 14 #[.val (.int p1), .val (.ref u0), .val (.int (0 : Int32)), .unset] [(.ref q0)])) rfl (hb hby at_14) (n := 12) (by decide) (by decide) (by decide) (by decide)
    have Zl := Nat.le_trans Z0 El.1
    have Bg := own_ofArv Ag rfl
    refine own_pre stl ?_
    show OwnGoes p e below _ (Tl.setTop (mkF m 16 #[.val (.int p1), .val (.ref u0), .val (.int (0 : Int32)), .unset] [(.ref gs), (.ref q0)]))
    obtain ⟨cq4, kq4, q4a, q4b, q4c⟩ := isOf hZ el (EN0.ext El)
    obtain ⟨_, _, ⟨T4, L4, k4, n4⟩, -, X4, ⟨Lc4, hQ4, l4, y4, z4⟩, st4⟩ := Xl.virtualBack hx (y := (⟨"java/lang/String", "equals", "(Ljava/lang/Object;)Z"⟩ : MethodName)) (z := (⟨"java/lang/String", "equals", "(Ljava/lang/Object;)Z"⟩ : MethodName)) hown (mvT hZ (hw _ (List.mem_of_getElem? (i := 30) rfl))) (mvT hZ (hw _ (List.mem_of_getElem? (i := 31) rfl))) (notFace_of_selects (args := #[]) (mvT hZ (hw _ (List.mem_of_getElem? (i := 33) rfl)))) (mvT hZ (hw _ (List.mem_of_getElem? (i := 33) rfl))) (mvT hZ (hw _ (List.mem_of_getElem? (i := 32) rfl))) (by decide) (backOf (W := 0) (rmEq4 l Z a0 hw [] q0 gs b0 gd cs v0 hl_ n0 Zl (EN0.ext El) Eg (CN0.ext El) Cg (VN0.ext El) Vg (AN0.ext El) Bg hv0 (SC.ext El) hcs) hZ (hw _ (List.mem_of_getElem? (i := 34) rfl)) (hw _ (List.mem_of_getElem? (i := 23) rfl)) (by decide) (by decide)) q4a q4c (g := (mkF m 16 #[.val (.int p1), .val (.ref u0), .val (.int (0 : Int32)), .unset] [(.ref gs), (.ref q0)])) rfl (by rw [hml]; rfl) (Steps.refl _) (argsL := [(.ref gs)]) (rest := []) (lenOf (d := "(Ljava/lang/Object;)Z") (ps := [(.object "java/lang/Object")]) (r := some .boolean) (by decide +kernel) rfl) rfl (by show 2 * 0 + _ ≤ _; exact Nat.le_of_eq rfl) (hb hby at_16) (fun _ _ => ⟨rfl, el, (by decide : 2 + 0 ≤ _), (by decide : 16 + 0 ≤ _)⟩)
    dsimp only [Pt.U, Pt.locs, Pt.cells, Pt.slots] at X4 l4 y4 z4 st4 hQ4
    subst l4 y4 z4
    obtain ⟨rfl, N4q, e4⟩ := hQ4
    have N4 := Fr.app N3 N4q
    refine own_tr st4 ?_
    show OwnGoes p e below _ (T4.setTop (mkF m 19 #[.val (.int p1), .val (.ref u0), .val (.int (0 : Int32)), .unset] [(.int (0 : Int32))]))
    refine own_pre (fun _ kz_ => XS.istoreN X4.here hx rfl (hb hby at_19) rfl (l' := #[.val (.int p1), .val (.ref u0), .val (.int (0 : Int32)), .val (.int (0 : Int32))]) rfl kz_) ?_
    show OwnGoes p e below _ (T4.setTop (mkF m 20 #[.val (.int p1), .val (.ref u0), .val (.int (0 : Int32)), .val (.int (0 : Int32))] []))
    refine own_pre (fun _ kz_ => XS.iloadN X4.here hx rfl (hb hby at_20) rfl kz_) ?_
    show OwnGoes p e below _ (T4.setTop (mkF m 21 #[.val (.int p1), .val (.ref u0), .val (.int (0 : Int32)), .val (.int (0 : Int32))] [(.int (0 : Int32))]))
    refine own_pre (fun _ kz_ => XS.iloadN X4.here hx rfl (hb hby at_21) rfl kz_) ?_
    show OwnGoes p e below _ (T4.setTop (mkF m 22 #[.val (.int p1), .val (.ref u0), .val (.int (0 : Int32)), .val (.int (0 : Int32))] [(.int (0 : Int32)), (.int (0 : Int32))]))
    refine own_pre (fun _ kz_ => XS.icmpNo X4.here hx rfl (hb hby at_22) rfl (teq (by decide : (0 : Int32) = (0 : Int32))).2 kz_) ?_
    show OwnGoes p e below _ (T4.setTop (mkF m 25 #[.val (.int p1), .val (.ref u0), .val (.int (0 : Int32)), .val (.int (0 : Int32))] []))
    refine own_pre (fun _ kz_ => XS.iconst X4.here hx rfl (hb hby at_25) kz_) ?_
    show OwnGoes p e below _ (T4.setTop (mkF m 26 #[.val (.int p1), .val (.ref u0), .val (.int (0 : Int32)), .val (.int (0 : Int32))] [(.int (1 : Int32))]))
    refine own_pre (fun _ kz_ => XS.goto X4.here hx rfl (pc0 := 26) (pc' := 30) rfl (hb hby at_26) (by decide) (by decide) kz_) ?_
    show OwnGoes p e below _ (T4.setTop (mkF m 30 #[.val (.int p1), .val (.ref u0), .val (.int (0 : Int32)), .val (.int (0 : Int32))] [(.int (1 : Int32))]))
    exact own_retW X4 hx hS1 (by rw [e4]; exact hk1) Bd.returns rfl (Or.inl ⟨rfl, by simp, _, rfl⟩) Bd.notSynchronized (hb hby at_30) ⟨rfl, N4⟩ (by decide) (by decide)
  · show OwnGoes p e below _ (s₁.setTop (mkF m 0 #[.val (.int p1), .unset, .unset, .unset] []))
    refine own_pre (fun _ kz_ => XS.iloadN X0.here hx rfl (hb hby at_0) rfl kz_) ?_
    show OwnGoes p e below _ (s₁.setTop (mkF m 1 #[.val (.int p1), .unset, .unset, .unset] [(.int p1)]))
    obtain ⟨_, _, ⟨T5, L5, k5, n5⟩, -, X5, ⟨Lc5, hQ5, l5, y5, z5⟩, st5⟩ := Jvm.LawKit.callS X0 hx (y := (⟨"com/example/haversack/haversack/BagItVersionForbidsRepeatedEntriesPinLaw", "pick", "(I)Lcom/example/haversack/haversack/BagItVersion;"⟩ : MethodName)) hown (mvT hZ (hw _ (List.mem_of_getElem? (i := 0) rfl))) (mvT hZ (hw _ (List.mem_of_getElem? (i := 1) rfl))) (mvT hZ (hw _ (List.mem_of_getElem? (i := 2) rfl))) (mvT hZ (hw _ (List.mem_of_getElem? (i := 3) rfl))) (by decide) (backOf (W := 0) (rmP l Z a0 hw [] p1 (1 : Int32) u0 u1 u2 u3 u4 u5 u1 h0 n0 Z0 S0 S1 S2 S3 S4 S5 hk (by simp)) hZ (hw _ (List.mem_of_getElem? (i := 3) rfl)) (hw _ (List.mem_of_getElem? (i := 2) rfl)) (by decide) (by decide)) (g := (mkF m 1 #[.val (.int p1), .unset, .unset, .unset] [(.int p1)])) rfl (by rw [hml]; rfl) (argsL := [(.int p1)]) (rest := []) (lenOf (d := "(I)Lcom/example/haversack/haversack/BagItVersion;") (ps := [.int]) (r := some (.object "com/example/haversack/haversack/BagItVersion")) (by decide +kernel) rfl) rfl (by show 2 * 0 + _ ≤ _; exact Nat.le_of_eq rfl) (hb hby at_1) (fun _ _ => ⟨rfl, e0, (by decide : 0 + 0 ≤ _), (by decide : 0 + 0 ≤ _)⟩)
    dsimp only [Pt.U, Pt.locs, Pt.cells, Pt.slots] at X5 l5 y5 z5 st5 hQ5
    subst l5 y5 z5
    obtain ⟨rfl, N5q, e5⟩ := hQ5
    have N5 := Fr.app N0 N5q
    refine own_pre st5 ?_
    show OwnGoes p e below _ (T5.setTop (mkF m 4 #[.val (.int p1), .unset, .unset, .unset] [(.ref u1)]))
    refine own_pre (fun _ kz_ => XS.astoreN X5.here hx rfl (hb hby at_4) rfl rfl (l' := #[.val (.int p1), .val (.ref u1), .unset, .unset]) rfl kz_) ?_
    show OwnGoes p e below _ (T5.setTop (mkF m 5 #[.val (.int p1), .val (.ref u1), .unset, .unset] []))
    refine own_pre (fun _ kz_ => XS.aloadN X5.here hx rfl (hb hby at_5) rfl rfl kz_) ?_
    show OwnGoes p e below _ (T5.setTop (mkF m 6 #[.val (.int p1), .val (.ref u1), .unset, .unset] [(.ref u1)]))
    obtain ⟨cq6, kq6, q6a, q6b, q6c⟩ := isOf hZ e5 E1
    obtain ⟨_, _, ⟨T6, L6, k6, n6⟩, -, X6, ⟨Lc6, hQ6, l6, y6, z6⟩, st6⟩ := X5.virtualBack hx (y := (⟨"com/example/haversack/haversack/BagItVersion", "forbidsRepeatedEntries", "()Z"⟩ : MethodName)) (z := (⟨"com/example/haversack/haversack/BagItVersion", "forbidsRepeatedEntries", "()Z"⟩ : MethodName)) hown (mvT hZ (hw _ (List.mem_of_getElem? (i := 8) rfl))) (mvT hZ (hw _ (List.mem_of_getElem? (i := 9) rfl))) (notFace_of_selects (args := #[]) (mvT hZ (hw _ (List.mem_of_getElem? (i := 11) rfl)))) (mvT hZ (hw _ (List.mem_of_getElem? (i := 11) rfl))) (mvT hZ (hw _ (List.mem_of_getElem? (i := 10) rfl))) (by decide) (backOf (W := 0) (rm1 l Z a0 hw [] u1 u5 (0 : Int32) h0 n0 Z0 S5 (if_neg ne1).symm) hZ (hw _ (List.mem_of_getElem? (i := 12) rfl)) (hw _ (List.mem_of_getElem? (i := 6) rfl)) (by decide) (by decide)) q6a q6c (g := (mkF m 6 #[.val (.int p1), .val (.ref u1), .unset, .unset] [(.ref u1)])) rfl (by rw [hml]; rfl) (Steps.refl _) (argsL := []) (rest := []) (lenOf (d := "()Z") (ps := []) (r := some .boolean) (by decide +kernel) rfl) rfl (by show 2 * 0 + _ ≤ _; exact Nat.le_of_eq rfl) (hb hby at_6) (fun _ _ => ⟨rfl, e5, (by decide : 0 + 0 ≤ _), (by decide : 0 + 0 ≤ _)⟩)
    dsimp only [Pt.U, Pt.locs, Pt.cells, Pt.slots] at X6 l6 y6 z6 st6 hQ6
    subst l6 y6 z6
    obtain ⟨rfl, N6q, e6⟩ := hQ6
    have N6 := Fr.app N5 N6q
    refine own_tr st6 ?_
    show OwnGoes p e below _ (T6.setTop (mkF m 9 #[.val (.int p1), .val (.ref u1), .unset, .unset] [(.int (0 : Int32))]))
    refine own_pre (fun _ kz_ => XS.istoreN X6.here hx rfl (hb hby at_9) rfl (l' := #[.val (.int p1), .val (.ref u1), .val (.int (0 : Int32)), .unset]) rfl kz_) ?_
    show OwnGoes p e below _ (T6.setTop (mkF m 10 #[.val (.int p1), .val (.ref u1), .val (.int (0 : Int32)), .unset] []))
    refine own_pre (fun _ kz_ => XS.aloadN X6.here hx rfl (hb hby at_10) rfl rfl kz_) ?_
    show OwnGoes p e below _ (T6.setTop (mkF m 11 #[.val (.int p1), .val (.ref u1), .val (.int (0 : Int32)), .unset] [(.ref u1)]))
    obtain ⟨cq7, kq7, q7a, q7b, q7c⟩ := isOf hZ e6 E1
    obtain ⟨_, _, ⟨T7, L7, k7, n7⟩, -, X7, ⟨Lc7, hQ7, l7, y7, z7⟩, st7⟩ := X6.virtualBack hx (y := (⟨"com/example/haversack/haversack/BagItVersion", "number", "()Ljava/lang/String;"⟩ : MethodName)) (z := (⟨"com/example/haversack/haversack/BagItVersion", "number", "()Ljava/lang/String;"⟩ : MethodName)) hown (mvT hZ (hw _ (List.mem_of_getElem? (i := 15) rfl))) (mvT hZ (hw _ (List.mem_of_getElem? (i := 16) rfl))) (notFace_of_selects (args := #[]) (mvT hZ (hw _ (List.mem_of_getElem? (i := 18) rfl)))) (mvT hZ (hw _ (List.mem_of_getElem? (i := 18) rfl))) (mvT hZ (hw _ (List.mem_of_getElem? (i := 17) rfl))) (by decide) (backOf (W := 0) (rmNu l Z a0 hw [] u1 q1 h0 n0 Z0 FN1) hZ (hw _ (List.mem_of_getElem? (i := 19) rfl)) (hw _ (List.mem_of_getElem? (i := 6) rfl)) (by decide) (by decide)) q7a q7c (g := (mkF m 11 #[.val (.int p1), .val (.ref u1), .val (.int (0 : Int32)), .unset] [(.ref u1)])) rfl (by rw [hml]; rfl) (Steps.refl _) (argsL := []) (rest := []) (lenOf (d := "()Ljava/lang/String;") (ps := []) (r := some (.object "java/lang/String")) (by decide +kernel) rfl) rfl (by show 2 * 0 + _ ≤ _; exact Nat.le_of_eq rfl) (hb hby at_11) (fun _ _ => ⟨rfl, e6, (by decide : 0 + 0 ≤ _), (by decide : 0 + 0 ≤ _)⟩)
    dsimp only [Pt.U, Pt.locs, Pt.cells, Pt.slots] at X7 l7 y7 z7 st7 hQ7
    subst l7 y7 z7
    obtain ⟨rfl, N7q, e7⟩ := hQ7
    have N7 := Fr.app N6 N7q
    refine own_tr st7 ?_
    show OwnGoes p e below _ (T7.setTop (mkF m 14 #[.val (.int p1), .val (.ref u1), .val (.int (0 : Int32)), .unset] [(.ref q1)]))
    obtain ⟨gs, Tl, hl_, k1, gd, gk, Xl, el, El, hS1, hk1, hZ, hown, Eg, Cg, Vg, Ag, -, -, -, -, -, stl⟩ := ldcCH (s := s) (vm0 := s.vm) X7 hx hZ hown (hw _ (List.mem_of_getElem? (i := 22) rfl)) (own_atoms hw) e7 ((State.WarmedH.refl s).since 0) (Nat.zero_le _) (own_ew hw) (List.mem_singleton.mpr rfl) hCH (vs := [(.int (49 : Int32)), (.int (46 : Int32)), (.int (48 : Int32))]) (z := 3) ⟨by decide, rfl⟩ (by decide) rfl (g := (mkF m 14 #[.val (.int p1), .val (.ref u1), .val (.int (0 : Int32)), .unset] [(.ref q1)])) rfl (hb hby at_14) (n := 12) (by decide) (by decide) (by decide) (by decide)
    have Zl := Nat.le_trans Z0 El.1
    have Bg := own_ofArv Ag rfl
    refine own_pre stl ?_
    show OwnGoes p e below _ (Tl.setTop (mkF m 16 #[.val (.int p1), .val (.ref u1), .val (.int (0 : Int32)), .unset] [(.ref gs), (.ref q1)]))
    obtain ⟨cq8, kq8, q8a, q8b, q8c⟩ := isOf hZ el (EN1.ext El)
    obtain ⟨_, _, ⟨T8, L8, k8, n8⟩, -, X8, ⟨Lc8, hQ8, l8, y8, z8⟩, st8⟩ := Xl.virtualBack hx (y := (⟨"java/lang/String", "equals", "(Ljava/lang/Object;)Z"⟩ : MethodName)) (z := (⟨"java/lang/String", "equals", "(Ljava/lang/Object;)Z"⟩ : MethodName)) hown (mvT hZ (hw _ (List.mem_of_getElem? (i := 30) rfl))) (mvT hZ (hw _ (List.mem_of_getElem? (i := 31) rfl))) (notFace_of_selects (args := #[]) (mvT hZ (hw _ (List.mem_of_getElem? (i := 33) rfl)))) (mvT hZ (hw _ (List.mem_of_getElem? (i := 33) rfl))) (mvT hZ (hw _ (List.mem_of_getElem? (i := 32) rfl))) (by decide) (backOf (W := 0) (rmEq4 l Z a0 hw [] q1 gs b1 gd cs v1 hl_ n0 Zl (EN1.ext El) Eg (CN1.ext El) Cg (VN1.ext El) Vg (AN1.ext El) Bg hv1 (SC.ext El) hcs) hZ (hw _ (List.mem_of_getElem? (i := 34) rfl)) (hw _ (List.mem_of_getElem? (i := 23) rfl)) (by decide) (by decide)) q8a q8c (g := (mkF m 16 #[.val (.int p1), .val (.ref u1), .val (.int (0 : Int32)), .unset] [(.ref gs), (.ref q1)])) rfl (by rw [hml]; rfl) (Steps.refl _) (argsL := [(.ref gs)]) (rest := []) (lenOf (d := "(Ljava/lang/Object;)Z") (ps := [(.object "java/lang/Object")]) (r := some .boolean) (by decide +kernel) rfl) rfl (by show 2 * 0 + _ ≤ _; exact Nat.le_of_eq rfl) (hb hby at_16) (fun _ _ => ⟨rfl, el, (by decide : 2 + 0 ≤ _), (by decide : 16 + 0 ≤ _)⟩)
    dsimp only [Pt.U, Pt.locs, Pt.cells, Pt.slots] at X8 l8 y8 z8 st8 hQ8
    subst l8 y8 z8
    obtain ⟨rfl, N8q, e8⟩ := hQ8
    have N8 := Fr.app N7 N8q
    refine own_tr st8 ?_
    show OwnGoes p e below _ (T8.setTop (mkF m 19 #[.val (.int p1), .val (.ref u1), .val (.int (0 : Int32)), .unset] [(.int (0 : Int32))]))
    refine own_pre (fun _ kz_ => XS.istoreN X8.here hx rfl (hb hby at_19) rfl (l' := #[.val (.int p1), .val (.ref u1), .val (.int (0 : Int32)), .val (.int (0 : Int32))]) rfl kz_) ?_
    show OwnGoes p e below _ (T8.setTop (mkF m 20 #[.val (.int p1), .val (.ref u1), .val (.int (0 : Int32)), .val (.int (0 : Int32))] []))
    refine own_pre (fun _ kz_ => XS.iloadN X8.here hx rfl (hb hby at_20) rfl kz_) ?_
    show OwnGoes p e below _ (T8.setTop (mkF m 21 #[.val (.int p1), .val (.ref u1), .val (.int (0 : Int32)), .val (.int (0 : Int32))] [(.int (0 : Int32))]))
    refine own_pre (fun _ kz_ => XS.iloadN X8.here hx rfl (hb hby at_21) rfl kz_) ?_
    show OwnGoes p e below _ (T8.setTop (mkF m 22 #[.val (.int p1), .val (.ref u1), .val (.int (0 : Int32)), .val (.int (0 : Int32))] [(.int (0 : Int32)), (.int (0 : Int32))]))
    refine own_pre (fun _ kz_ => XS.icmpNo X8.here hx rfl (hb hby at_22) rfl (teq (by decide : (0 : Int32) = (0 : Int32))).2 kz_) ?_
    show OwnGoes p e below _ (T8.setTop (mkF m 25 #[.val (.int p1), .val (.ref u1), .val (.int (0 : Int32)), .val (.int (0 : Int32))] []))
    refine own_pre (fun _ kz_ => XS.iconst X8.here hx rfl (hb hby at_25) kz_) ?_
    show OwnGoes p e below _ (T8.setTop (mkF m 26 #[.val (.int p1), .val (.ref u1), .val (.int (0 : Int32)), .val (.int (0 : Int32))] [(.int (1 : Int32))]))
    refine own_pre (fun _ kz_ => XS.goto X8.here hx rfl (pc0 := 26) (pc' := 30) rfl (hb hby at_26) (by decide) (by decide) kz_) ?_
    show OwnGoes p e below _ (T8.setTop (mkF m 30 #[.val (.int p1), .val (.ref u1), .val (.int (0 : Int32)), .val (.int (0 : Int32))] [(.int (1 : Int32))]))
    exact own_retW X8 hx hS1 (by rw [e8]; exact hk1) Bd.returns rfl (Or.inl ⟨rfl, by simp, _, rfl⟩) Bd.notSynchronized (hb hby at_30) ⟨rfl, N8⟩ (by decide) (by decide)
  · show OwnGoes p e below _ (s₁.setTop (mkF m 0 #[.val (.int p1), .unset, .unset, .unset] []))
    refine own_pre (fun _ kz_ => XS.iloadN X0.here hx rfl (hb hby at_0) rfl kz_) ?_
    show OwnGoes p e below _ (s₁.setTop (mkF m 1 #[.val (.int p1), .unset, .unset, .unset] [(.int p1)]))
    obtain ⟨_, _, ⟨T9, L9, k9, n9⟩, -, X9, ⟨Lc9, hQ9, l9, y9, z9⟩, st9⟩ := Jvm.LawKit.callS X0 hx (y := (⟨"com/example/haversack/haversack/BagItVersionForbidsRepeatedEntriesPinLaw", "pick", "(I)Lcom/example/haversack/haversack/BagItVersion;"⟩ : MethodName)) hown (mvT hZ (hw _ (List.mem_of_getElem? (i := 0) rfl))) (mvT hZ (hw _ (List.mem_of_getElem? (i := 1) rfl))) (mvT hZ (hw _ (List.mem_of_getElem? (i := 2) rfl))) (mvT hZ (hw _ (List.mem_of_getElem? (i := 3) rfl))) (by decide) (backOf (W := 0) (rmP l Z a0 hw [] p1 (2 : Int32) u0 u1 u2 u3 u4 u5 u2 h0 n0 Z0 S0 S1 S2 S3 S4 S5 hk (by simp)) hZ (hw _ (List.mem_of_getElem? (i := 3) rfl)) (hw _ (List.mem_of_getElem? (i := 2) rfl)) (by decide) (by decide)) (g := (mkF m 1 #[.val (.int p1), .unset, .unset, .unset] [(.int p1)])) rfl (by rw [hml]; rfl) (argsL := [(.int p1)]) (rest := []) (lenOf (d := "(I)Lcom/example/haversack/haversack/BagItVersion;") (ps := [.int]) (r := some (.object "com/example/haversack/haversack/BagItVersion")) (by decide +kernel) rfl) rfl (by show 2 * 0 + _ ≤ _; exact Nat.le_of_eq rfl) (hb hby at_1) (fun _ _ => ⟨rfl, e0, (by decide : 0 + 0 ≤ _), (by decide : 0 + 0 ≤ _)⟩)
    dsimp only [Pt.U, Pt.locs, Pt.cells, Pt.slots] at X9 l9 y9 z9 st9 hQ9
    subst l9 y9 z9
    obtain ⟨rfl, N9q, e9⟩ := hQ9
    have N9 := Fr.app N0 N9q
    refine own_pre st9 ?_
    show OwnGoes p e below _ (T9.setTop (mkF m 4 #[.val (.int p1), .unset, .unset, .unset] [(.ref u2)]))
    refine own_pre (fun _ kz_ => XS.astoreN X9.here hx rfl (hb hby at_4) rfl rfl (l' := #[.val (.int p1), .val (.ref u2), .unset, .unset]) rfl kz_) ?_
    show OwnGoes p e below _ (T9.setTop (mkF m 5 #[.val (.int p1), .val (.ref u2), .unset, .unset] []))
    refine own_pre (fun _ kz_ => XS.aloadN X9.here hx rfl (hb hby at_5) rfl rfl kz_) ?_
    show OwnGoes p e below _ (T9.setTop (mkF m 6 #[.val (.int p1), .val (.ref u2), .unset, .unset] [(.ref u2)]))
    obtain ⟨cq10, kq10, q10a, q10b, q10c⟩ := isOf hZ e9 E2
    obtain ⟨_, _, ⟨T10, L10, k10, n10⟩, -, X10, ⟨Lc10, hQ10, l10, y10, z10⟩, st10⟩ := X9.virtualBack hx (y := (⟨"com/example/haversack/haversack/BagItVersion", "forbidsRepeatedEntries", "()Z"⟩ : MethodName)) (z := (⟨"com/example/haversack/haversack/BagItVersion", "forbidsRepeatedEntries", "()Z"⟩ : MethodName)) hown (mvT hZ (hw _ (List.mem_of_getElem? (i := 8) rfl))) (mvT hZ (hw _ (List.mem_of_getElem? (i := 9) rfl))) (notFace_of_selects (args := #[]) (mvT hZ (hw _ (List.mem_of_getElem? (i := 11) rfl)))) (mvT hZ (hw _ (List.mem_of_getElem? (i := 11) rfl))) (mvT hZ (hw _ (List.mem_of_getElem? (i := 10) rfl))) (by decide) (backOf (W := 0) (rm1 l Z a0 hw [] u2 u5 (0 : Int32) h0 n0 Z0 S5 (if_neg ne2).symm) hZ (hw _ (List.mem_of_getElem? (i := 12) rfl)) (hw _ (List.mem_of_getElem? (i := 6) rfl)) (by decide) (by decide)) q10a q10c (g := (mkF m 6 #[.val (.int p1), .val (.ref u2), .unset, .unset] [(.ref u2)])) rfl (by rw [hml]; rfl) (Steps.refl _) (argsL := []) (rest := []) (lenOf (d := "()Z") (ps := []) (r := some .boolean) (by decide +kernel) rfl) rfl (by show 2 * 0 + _ ≤ _; exact Nat.le_of_eq rfl) (hb hby at_6) (fun _ _ => ⟨rfl, e9, (by decide : 0 + 0 ≤ _), (by decide : 0 + 0 ≤ _)⟩)
    dsimp only [Pt.U, Pt.locs, Pt.cells, Pt.slots] at X10 l10 y10 z10 st10 hQ10
    subst l10 y10 z10
    obtain ⟨rfl, N10q, e10⟩ := hQ10
    have N10 := Fr.app N9 N10q
    refine own_tr st10 ?_
    show OwnGoes p e below _ (T10.setTop (mkF m 9 #[.val (.int p1), .val (.ref u2), .unset, .unset] [(.int (0 : Int32))]))
    refine own_pre (fun _ kz_ => XS.istoreN X10.here hx rfl (hb hby at_9) rfl (l' := #[.val (.int p1), .val (.ref u2), .val (.int (0 : Int32)), .unset]) rfl kz_) ?_
    show OwnGoes p e below _ (T10.setTop (mkF m 10 #[.val (.int p1), .val (.ref u2), .val (.int (0 : Int32)), .unset] []))
    refine own_pre (fun _ kz_ => XS.aloadN X10.here hx rfl (hb hby at_10) rfl rfl kz_) ?_
    show OwnGoes p e below _ (T10.setTop (mkF m 11 #[.val (.int p1), .val (.ref u2), .val (.int (0 : Int32)), .unset] [(.ref u2)]))
    obtain ⟨cq11, kq11, q11a, q11b, q11c⟩ := isOf hZ e10 E2
    obtain ⟨_, _, ⟨T11, L11, k11, n11⟩, -, X11, ⟨Lc11, hQ11, l11, y11, z11⟩, st11⟩ := X10.virtualBack hx (y := (⟨"com/example/haversack/haversack/BagItVersion", "number", "()Ljava/lang/String;"⟩ : MethodName)) (z := (⟨"com/example/haversack/haversack/BagItVersion", "number", "()Ljava/lang/String;"⟩ : MethodName)) hown (mvT hZ (hw _ (List.mem_of_getElem? (i := 15) rfl))) (mvT hZ (hw _ (List.mem_of_getElem? (i := 16) rfl))) (notFace_of_selects (args := #[]) (mvT hZ (hw _ (List.mem_of_getElem? (i := 18) rfl)))) (mvT hZ (hw _ (List.mem_of_getElem? (i := 18) rfl))) (mvT hZ (hw _ (List.mem_of_getElem? (i := 17) rfl))) (by decide) (backOf (W := 0) (rmNu l Z a0 hw [] u2 q2 h0 n0 Z0 FN2) hZ (hw _ (List.mem_of_getElem? (i := 19) rfl)) (hw _ (List.mem_of_getElem? (i := 6) rfl)) (by decide) (by decide)) q11a q11c (g := (mkF m 11 #[.val (.int p1), .val (.ref u2), .val (.int (0 : Int32)), .unset] [(.ref u2)])) rfl (by rw [hml]; rfl) (Steps.refl _) (argsL := []) (rest := []) (lenOf (d := "()Ljava/lang/String;") (ps := []) (r := some (.object "java/lang/String")) (by decide +kernel) rfl) rfl (by show 2 * 0 + _ ≤ _; exact Nat.le_of_eq rfl) (hb hby at_11) (fun _ _ => ⟨rfl, e10, (by decide : 0 + 0 ≤ _), (by decide : 0 + 0 ≤ _)⟩)
    dsimp only [Pt.U, Pt.locs, Pt.cells, Pt.slots] at X11 l11 y11 z11 st11 hQ11
    subst l11 y11 z11
    obtain ⟨rfl, N11q, e11⟩ := hQ11
    have N11 := Fr.app N10 N11q
    refine own_tr st11 ?_
    show OwnGoes p e below _ (T11.setTop (mkF m 14 #[.val (.int p1), .val (.ref u2), .val (.int (0 : Int32)), .unset] [(.ref q2)]))
    obtain ⟨gs, Tl, hl_, k1, gd, gk, Xl, el, El, hS1, hk1, hZ, hown, Eg, Cg, Vg, Ag, -, -, -, -, -, stl⟩ := ldcCH (s := s) (vm0 := s.vm) X11 hx hZ hown (hw _ (List.mem_of_getElem? (i := 22) rfl)) (own_atoms hw) e11 ((State.WarmedH.refl s).since 0) (Nat.zero_le _) (own_ew hw) (List.mem_singleton.mpr rfl) hCH (vs := [(.int (49 : Int32)), (.int (46 : Int32)), (.int (48 : Int32))]) (z := 3) ⟨by decide, rfl⟩ (by decide) rfl (g := (mkF m 14 #[.val (.int p1), .val (.ref u2), .val (.int (0 : Int32)), .unset] [(.ref q2)])) rfl (hb hby at_14) (n := 12) (by decide) (by decide) (by decide) (by decide)
    have Zl := Nat.le_trans Z0 El.1
    have Bg := own_ofArv Ag rfl
    refine own_pre stl ?_
    show OwnGoes p e below _ (Tl.setTop (mkF m 16 #[.val (.int p1), .val (.ref u2), .val (.int (0 : Int32)), .unset] [(.ref gs), (.ref q2)]))
    obtain ⟨cq12, kq12, q12a, q12b, q12c⟩ := isOf hZ el (EN2.ext El)
    obtain ⟨_, _, ⟨T12, L12, k12, n12⟩, -, X12, ⟨Lc12, hQ12, l12, y12, z12⟩, st12⟩ := Xl.virtualBack hx (y := (⟨"java/lang/String", "equals", "(Ljava/lang/Object;)Z"⟩ : MethodName)) (z := (⟨"java/lang/String", "equals", "(Ljava/lang/Object;)Z"⟩ : MethodName)) hown (mvT hZ (hw _ (List.mem_of_getElem? (i := 30) rfl))) (mvT hZ (hw _ (List.mem_of_getElem? (i := 31) rfl))) (notFace_of_selects (args := #[]) (mvT hZ (hw _ (List.mem_of_getElem? (i := 33) rfl)))) (mvT hZ (hw _ (List.mem_of_getElem? (i := 33) rfl))) (mvT hZ (hw _ (List.mem_of_getElem? (i := 32) rfl))) (by decide) (backOf (W := 0) (rmEq4 l Z a0 hw [] q2 gs b2 gd cs v2 hl_ n0 Zl (EN2.ext El) Eg (CN2.ext El) Cg (VN2.ext El) Vg (AN2.ext El) Bg hv2 (SC.ext El) hcs) hZ (hw _ (List.mem_of_getElem? (i := 34) rfl)) (hw _ (List.mem_of_getElem? (i := 23) rfl)) (by decide) (by decide)) q12a q12c (g := (mkF m 16 #[.val (.int p1), .val (.ref u2), .val (.int (0 : Int32)), .unset] [(.ref gs), (.ref q2)])) rfl (by rw [hml]; rfl) (Steps.refl _) (argsL := [(.ref gs)]) (rest := []) (lenOf (d := "(Ljava/lang/Object;)Z") (ps := [(.object "java/lang/Object")]) (r := some .boolean) (by decide +kernel) rfl) rfl (by show 2 * 0 + _ ≤ _; exact Nat.le_of_eq rfl) (hb hby at_16) (fun _ _ => ⟨rfl, el, (by decide : 2 + 0 ≤ _), (by decide : 16 + 0 ≤ _)⟩)
    dsimp only [Pt.U, Pt.locs, Pt.cells, Pt.slots] at X12 l12 y12 z12 st12 hQ12
    subst l12 y12 z12
    obtain ⟨rfl, N12q, e12⟩ := hQ12
    have N12 := Fr.app N11 N12q
    refine own_tr st12 ?_
    show OwnGoes p e below _ (T12.setTop (mkF m 19 #[.val (.int p1), .val (.ref u2), .val (.int (0 : Int32)), .unset] [(.int (0 : Int32))]))
    refine own_pre (fun _ kz_ => XS.istoreN X12.here hx rfl (hb hby at_19) rfl (l' := #[.val (.int p1), .val (.ref u2), .val (.int (0 : Int32)), .val (.int (0 : Int32))]) rfl kz_) ?_
    show OwnGoes p e below _ (T12.setTop (mkF m 20 #[.val (.int p1), .val (.ref u2), .val (.int (0 : Int32)), .val (.int (0 : Int32))] []))
    refine own_pre (fun _ kz_ => XS.iloadN X12.here hx rfl (hb hby at_20) rfl kz_) ?_
    show OwnGoes p e below _ (T12.setTop (mkF m 21 #[.val (.int p1), .val (.ref u2), .val (.int (0 : Int32)), .val (.int (0 : Int32))] [(.int (0 : Int32))]))
    refine own_pre (fun _ kz_ => XS.iloadN X12.here hx rfl (hb hby at_21) rfl kz_) ?_
    show OwnGoes p e below _ (T12.setTop (mkF m 22 #[.val (.int p1), .val (.ref u2), .val (.int (0 : Int32)), .val (.int (0 : Int32))] [(.int (0 : Int32)), (.int (0 : Int32))]))
    refine own_pre (fun _ kz_ => XS.icmpNo X12.here hx rfl (hb hby at_22) rfl (teq (by decide : (0 : Int32) = (0 : Int32))).2 kz_) ?_
    show OwnGoes p e below _ (T12.setTop (mkF m 25 #[.val (.int p1), .val (.ref u2), .val (.int (0 : Int32)), .val (.int (0 : Int32))] []))
    refine own_pre (fun _ kz_ => XS.iconst X12.here hx rfl (hb hby at_25) kz_) ?_
    show OwnGoes p e below _ (T12.setTop (mkF m 26 #[.val (.int p1), .val (.ref u2), .val (.int (0 : Int32)), .val (.int (0 : Int32))] [(.int (1 : Int32))]))
    refine own_pre (fun _ kz_ => XS.goto X12.here hx rfl (pc0 := 26) (pc' := 30) rfl (hb hby at_26) (by decide) (by decide) kz_) ?_
    show OwnGoes p e below _ (T12.setTop (mkF m 30 #[.val (.int p1), .val (.ref u2), .val (.int (0 : Int32)), .val (.int (0 : Int32))] [(.int (1 : Int32))]))
    exact own_retW X12 hx hS1 (by rw [e12]; exact hk1) Bd.returns rfl (Or.inl ⟨rfl, by simp, _, rfl⟩) Bd.notSynchronized (hb hby at_30) ⟨rfl, N12⟩ (by decide) (by decide)
  · show OwnGoes p e below _ (s₁.setTop (mkF m 0 #[.val (.int p1), .unset, .unset, .unset] []))
    refine own_pre (fun _ kz_ => XS.iloadN X0.here hx rfl (hb hby at_0) rfl kz_) ?_
    show OwnGoes p e below _ (s₁.setTop (mkF m 1 #[.val (.int p1), .unset, .unset, .unset] [(.int p1)]))
    obtain ⟨_, _, ⟨T13, L13, k13, n13⟩, -, X13, ⟨Lc13, hQ13, l13, y13, z13⟩, st13⟩ := Jvm.LawKit.callS X0 hx (y := (⟨"com/example/haversack/haversack/BagItVersionForbidsRepeatedEntriesPinLaw", "pick", "(I)Lcom/example/haversack/haversack/BagItVersion;"⟩ : MethodName)) hown (mvT hZ (hw _ (List.mem_of_getElem? (i := 0) rfl))) (mvT hZ (hw _ (List.mem_of_getElem? (i := 1) rfl))) (mvT hZ (hw _ (List.mem_of_getElem? (i := 2) rfl))) (mvT hZ (hw _ (List.mem_of_getElem? (i := 3) rfl))) (by decide) (backOf (W := 0) (rmP l Z a0 hw [] p1 (3 : Int32) u0 u1 u2 u3 u4 u5 u3 h0 n0 Z0 S0 S1 S2 S3 S4 S5 hk (by simp)) hZ (hw _ (List.mem_of_getElem? (i := 3) rfl)) (hw _ (List.mem_of_getElem? (i := 2) rfl)) (by decide) (by decide)) (g := (mkF m 1 #[.val (.int p1), .unset, .unset, .unset] [(.int p1)])) rfl (by rw [hml]; rfl) (argsL := [(.int p1)]) (rest := []) (lenOf (d := "(I)Lcom/example/haversack/haversack/BagItVersion;") (ps := [.int]) (r := some (.object "com/example/haversack/haversack/BagItVersion")) (by decide +kernel) rfl) rfl (by show 2 * 0 + _ ≤ _; exact Nat.le_of_eq rfl) (hb hby at_1) (fun _ _ => ⟨rfl, e0, (by decide : 0 + 0 ≤ _), (by decide : 0 + 0 ≤ _)⟩)
    dsimp only [Pt.U, Pt.locs, Pt.cells, Pt.slots] at X13 l13 y13 z13 st13 hQ13
    subst l13 y13 z13
    obtain ⟨rfl, N13q, e13⟩ := hQ13
    have N13 := Fr.app N0 N13q
    refine own_pre st13 ?_
    show OwnGoes p e below _ (T13.setTop (mkF m 4 #[.val (.int p1), .unset, .unset, .unset] [(.ref u3)]))
    refine own_pre (fun _ kz_ => XS.astoreN X13.here hx rfl (hb hby at_4) rfl rfl (l' := #[.val (.int p1), .val (.ref u3), .unset, .unset]) rfl kz_) ?_
    show OwnGoes p e below _ (T13.setTop (mkF m 5 #[.val (.int p1), .val (.ref u3), .unset, .unset] []))
    refine own_pre (fun _ kz_ => XS.aloadN X13.here hx rfl (hb hby at_5) rfl rfl kz_) ?_
    show OwnGoes p e below _ (T13.setTop (mkF m 6 #[.val (.int p1), .val (.ref u3), .unset, .unset] [(.ref u3)]))
    obtain ⟨cq14, kq14, q14a, q14b, q14c⟩ := isOf hZ e13 E3
    obtain ⟨_, _, ⟨T14, L14, k14, n14⟩, -, X14, ⟨Lc14, hQ14, l14, y14, z14⟩, st14⟩ := X13.virtualBack hx (y := (⟨"com/example/haversack/haversack/BagItVersion", "forbidsRepeatedEntries", "()Z"⟩ : MethodName)) (z := (⟨"com/example/haversack/haversack/BagItVersion", "forbidsRepeatedEntries", "()Z"⟩ : MethodName)) hown (mvT hZ (hw _ (List.mem_of_getElem? (i := 8) rfl))) (mvT hZ (hw _ (List.mem_of_getElem? (i := 9) rfl))) (notFace_of_selects (args := #[]) (mvT hZ (hw _ (List.mem_of_getElem? (i := 11) rfl)))) (mvT hZ (hw _ (List.mem_of_getElem? (i := 11) rfl))) (mvT hZ (hw _ (List.mem_of_getElem? (i := 10) rfl))) (by decide) (backOf (W := 0) (rm1 l Z a0 hw [] u3 u5 (0 : Int32) h0 n0 Z0 S5 (if_neg ne3).symm) hZ (hw _ (List.mem_of_getElem? (i := 12) rfl)) (hw _ (List.mem_of_getElem? (i := 6) rfl)) (by decide) (by decide)) q14a q14c (g := (mkF m 6 #[.val (.int p1), .val (.ref u3), .unset, .unset] [(.ref u3)])) rfl (by rw [hml]; rfl) (Steps.refl _) (argsL := []) (rest := []) (lenOf (d := "()Z") (ps := []) (r := some .boolean) (by decide +kernel) rfl) rfl (by show 2 * 0 + _ ≤ _; exact Nat.le_of_eq rfl) (hb hby at_6) (fun _ _ => ⟨rfl, e13, (by decide : 0 + 0 ≤ _), (by decide : 0 + 0 ≤ _)⟩)
    dsimp only [Pt.U, Pt.locs, Pt.cells, Pt.slots] at X14 l14 y14 z14 st14 hQ14
    subst l14 y14 z14
    obtain ⟨rfl, N14q, e14⟩ := hQ14
    have N14 := Fr.app N13 N14q
    refine own_tr st14 ?_
    show OwnGoes p e below _ (T14.setTop (mkF m 9 #[.val (.int p1), .val (.ref u3), .unset, .unset] [(.int (0 : Int32))]))
    refine own_pre (fun _ kz_ => XS.istoreN X14.here hx rfl (hb hby at_9) rfl (l' := #[.val (.int p1), .val (.ref u3), .val (.int (0 : Int32)), .unset]) rfl kz_) ?_
    show OwnGoes p e below _ (T14.setTop (mkF m 10 #[.val (.int p1), .val (.ref u3), .val (.int (0 : Int32)), .unset] []))
    refine own_pre (fun _ kz_ => XS.aloadN X14.here hx rfl (hb hby at_10) rfl rfl kz_) ?_
    show OwnGoes p e below _ (T14.setTop (mkF m 11 #[.val (.int p1), .val (.ref u3), .val (.int (0 : Int32)), .unset] [(.ref u3)]))
    obtain ⟨cq15, kq15, q15a, q15b, q15c⟩ := isOf hZ e14 E3
    obtain ⟨_, _, ⟨T15, L15, k15, n15⟩, -, X15, ⟨Lc15, hQ15, l15, y15, z15⟩, st15⟩ := X14.virtualBack hx (y := (⟨"com/example/haversack/haversack/BagItVersion", "number", "()Ljava/lang/String;"⟩ : MethodName)) (z := (⟨"com/example/haversack/haversack/BagItVersion", "number", "()Ljava/lang/String;"⟩ : MethodName)) hown (mvT hZ (hw _ (List.mem_of_getElem? (i := 15) rfl))) (mvT hZ (hw _ (List.mem_of_getElem? (i := 16) rfl))) (notFace_of_selects (args := #[]) (mvT hZ (hw _ (List.mem_of_getElem? (i := 18) rfl)))) (mvT hZ (hw _ (List.mem_of_getElem? (i := 18) rfl))) (mvT hZ (hw _ (List.mem_of_getElem? (i := 17) rfl))) (by decide) (backOf (W := 0) (rmNu l Z a0 hw [] u3 q3 h0 n0 Z0 FN3) hZ (hw _ (List.mem_of_getElem? (i := 19) rfl)) (hw _ (List.mem_of_getElem? (i := 6) rfl)) (by decide) (by decide)) q15a q15c (g := (mkF m 11 #[.val (.int p1), .val (.ref u3), .val (.int (0 : Int32)), .unset] [(.ref u3)])) rfl (by rw [hml]; rfl) (Steps.refl _) (argsL := []) (rest := []) (lenOf (d := "()Ljava/lang/String;") (ps := []) (r := some (.object "java/lang/String")) (by decide +kernel) rfl) rfl (by show 2 * 0 + _ ≤ _; exact Nat.le_of_eq rfl) (hb hby at_11) (fun _ _ => ⟨rfl, e14, (by decide : 0 + 0 ≤ _), (by decide : 0 + 0 ≤ _)⟩)
    dsimp only [Pt.U, Pt.locs, Pt.cells, Pt.slots] at X15 l15 y15 z15 st15 hQ15
    subst l15 y15 z15
    obtain ⟨rfl, N15q, e15⟩ := hQ15
    have N15 := Fr.app N14 N15q
    refine own_tr st15 ?_
    show OwnGoes p e below _ (T15.setTop (mkF m 14 #[.val (.int p1), .val (.ref u3), .val (.int (0 : Int32)), .unset] [(.ref q3)]))
    obtain ⟨gs, Tl, hl_, k1, gd, gk, Xl, el, El, hS1, hk1, hZ, hown, Eg, Cg, Vg, Ag, -, -, -, -, -, stl⟩ := ldcCH (s := s) (vm0 := s.vm) X15 hx hZ hown (hw _ (List.mem_of_getElem? (i := 22) rfl)) (own_atoms hw) e15 ((State.WarmedH.refl s).since 0) (Nat.zero_le _) (own_ew hw) (List.mem_singleton.mpr rfl) hCH (vs := [(.int (49 : Int32)), (.int (46 : Int32)), (.int (48 : Int32))]) (z := 3) ⟨by decide, rfl⟩ (by decide) rfl (g := (mkF m 14 #[.val (.int p1), .val (.ref u3), .val (.int (0 : Int32)), .unset] [(.ref q3)])) rfl (hb hby at_14) (n := 12) (by decide) (by decide) (by decide) (by decide)
    have Zl := Nat.le_trans Z0 El.1
    have Bg := own_ofArv Ag rfl
    refine own_pre stl ?_
    show OwnGoes p e below _ (Tl.setTop (mkF m 16 #[.val (.int p1), .val (.ref u3), .val (.int (0 : Int32)), .unset] [(.ref gs), (.ref q3)]))
    obtain ⟨cq16, kq16, q16a, q16b, q16c⟩ := isOf hZ el (EN3.ext El)
    obtain ⟨_, _, ⟨T16, L16, k16, n16⟩, -, X16, ⟨Lc16, hQ16, l16, y16, z16⟩, st16⟩ := Xl.virtualBack hx (y := (⟨"java/lang/String", "equals", "(Ljava/lang/Object;)Z"⟩ : MethodName)) (z := (⟨"java/lang/String", "equals", "(Ljava/lang/Object;)Z"⟩ : MethodName)) hown (mvT hZ (hw _ (List.mem_of_getElem? (i := 30) rfl))) (mvT hZ (hw _ (List.mem_of_getElem? (i := 31) rfl))) (notFace_of_selects (args := #[]) (mvT hZ (hw _ (List.mem_of_getElem? (i := 33) rfl)))) (mvT hZ (hw _ (List.mem_of_getElem? (i := 33) rfl))) (mvT hZ (hw _ (List.mem_of_getElem? (i := 32) rfl))) (by decide) (backOf (W := 0) (rmEq4 l Z a0 hw [] q3 gs b3 gd cs v3 hl_ n0 Zl (EN3.ext El) Eg (CN3.ext El) Cg (VN3.ext El) Vg (AN3.ext El) Bg hv3 (SC.ext El) hcs) hZ (hw _ (List.mem_of_getElem? (i := 34) rfl)) (hw _ (List.mem_of_getElem? (i := 23) rfl)) (by decide) (by decide)) q16a q16c (g := (mkF m 16 #[.val (.int p1), .val (.ref u3), .val (.int (0 : Int32)), .unset] [(.ref gs), (.ref q3)])) rfl (by rw [hml]; rfl) (Steps.refl _) (argsL := [(.ref gs)]) (rest := []) (lenOf (d := "(Ljava/lang/Object;)Z") (ps := [(.object "java/lang/Object")]) (r := some .boolean) (by decide +kernel) rfl) rfl (by show 2 * 0 + _ ≤ _; exact Nat.le_of_eq rfl) (hb hby at_16) (fun _ _ => ⟨rfl, el, (by decide : 2 + 0 ≤ _), (by decide : 16 + 0 ≤ _)⟩)
    dsimp only [Pt.U, Pt.locs, Pt.cells, Pt.slots] at X16 l16 y16 z16 st16 hQ16
    subst l16 y16 z16
    obtain ⟨rfl, N16q, e16⟩ := hQ16
    have N16 := Fr.app N15 N16q
    refine own_tr st16 ?_
    show OwnGoes p e below _ (T16.setTop (mkF m 19 #[.val (.int p1), .val (.ref u3), .val (.int (0 : Int32)), .unset] [(.int (0 : Int32))]))
    refine own_pre (fun _ kz_ => XS.istoreN X16.here hx rfl (hb hby at_19) rfl (l' := #[.val (.int p1), .val (.ref u3), .val (.int (0 : Int32)), .val (.int (0 : Int32))]) rfl kz_) ?_
    show OwnGoes p e below _ (T16.setTop (mkF m 20 #[.val (.int p1), .val (.ref u3), .val (.int (0 : Int32)), .val (.int (0 : Int32))] []))
    refine own_pre (fun _ kz_ => XS.iloadN X16.here hx rfl (hb hby at_20) rfl kz_) ?_
    show OwnGoes p e below _ (T16.setTop (mkF m 21 #[.val (.int p1), .val (.ref u3), .val (.int (0 : Int32)), .val (.int (0 : Int32))] [(.int (0 : Int32))]))
    refine own_pre (fun _ kz_ => XS.iloadN X16.here hx rfl (hb hby at_21) rfl kz_) ?_
    show OwnGoes p e below _ (T16.setTop (mkF m 22 #[.val (.int p1), .val (.ref u3), .val (.int (0 : Int32)), .val (.int (0 : Int32))] [(.int (0 : Int32)), (.int (0 : Int32))]))
    refine own_pre (fun _ kz_ => XS.icmpNo X16.here hx rfl (hb hby at_22) rfl (teq (by decide : (0 : Int32) = (0 : Int32))).2 kz_) ?_
    show OwnGoes p e below _ (T16.setTop (mkF m 25 #[.val (.int p1), .val (.ref u3), .val (.int (0 : Int32)), .val (.int (0 : Int32))] []))
    refine own_pre (fun _ kz_ => XS.iconst X16.here hx rfl (hb hby at_25) kz_) ?_
    show OwnGoes p e below _ (T16.setTop (mkF m 26 #[.val (.int p1), .val (.ref u3), .val (.int (0 : Int32)), .val (.int (0 : Int32))] [(.int (1 : Int32))]))
    refine own_pre (fun _ kz_ => XS.goto X16.here hx rfl (pc0 := 26) (pc' := 30) rfl (hb hby at_26) (by decide) (by decide) kz_) ?_
    show OwnGoes p e below _ (T16.setTop (mkF m 30 #[.val (.int p1), .val (.ref u3), .val (.int (0 : Int32)), .val (.int (0 : Int32))] [(.int (1 : Int32))]))
    exact own_retW X16 hx hS1 (by rw [e16]; exact hk1) Bd.returns rfl (Or.inl ⟨rfl, by simp, _, rfl⟩) Bd.notSynchronized (hb hby at_30) ⟨rfl, N16⟩ (by decide) (by decide)
  · show OwnGoes p e below _ (s₁.setTop (mkF m 0 #[.val (.int p1), .unset, .unset, .unset] []))
    refine own_pre (fun _ kz_ => XS.iloadN X0.here hx rfl (hb hby at_0) rfl kz_) ?_
    show OwnGoes p e below _ (s₁.setTop (mkF m 1 #[.val (.int p1), .unset, .unset, .unset] [(.int p1)]))
    obtain ⟨_, _, ⟨T17, L17, k17, n17⟩, -, X17, ⟨Lc17, hQ17, l17, y17, z17⟩, st17⟩ := Jvm.LawKit.callS X0 hx (y := (⟨"com/example/haversack/haversack/BagItVersionForbidsRepeatedEntriesPinLaw", "pick", "(I)Lcom/example/haversack/haversack/BagItVersion;"⟩ : MethodName)) hown (mvT hZ (hw _ (List.mem_of_getElem? (i := 0) rfl))) (mvT hZ (hw _ (List.mem_of_getElem? (i := 1) rfl))) (mvT hZ (hw _ (List.mem_of_getElem? (i := 2) rfl))) (mvT hZ (hw _ (List.mem_of_getElem? (i := 3) rfl))) (by decide) (backOf (W := 0) (rmP l Z a0 hw [] p1 (4 : Int32) u0 u1 u2 u3 u4 u5 u4 h0 n0 Z0 S0 S1 S2 S3 S4 S5 hk (by simp)) hZ (hw _ (List.mem_of_getElem? (i := 3) rfl)) (hw _ (List.mem_of_getElem? (i := 2) rfl)) (by decide) (by decide)) (g := (mkF m 1 #[.val (.int p1), .unset, .unset, .unset] [(.int p1)])) rfl (by rw [hml]; rfl) (argsL := [(.int p1)]) (rest := []) (lenOf (d := "(I)Lcom/example/haversack/haversack/BagItVersion;") (ps := [.int]) (r := some (.object "com/example/haversack/haversack/BagItVersion")) (by decide +kernel) rfl) rfl (by show 2 * 0 + _ ≤ _; exact Nat.le_of_eq rfl) (hb hby at_1) (fun _ _ => ⟨rfl, e0, (by decide : 0 + 0 ≤ _), (by decide : 0 + 0 ≤ _)⟩)
    dsimp only [Pt.U, Pt.locs, Pt.cells, Pt.slots] at X17 l17 y17 z17 st17 hQ17
    subst l17 y17 z17
    obtain ⟨rfl, N17q, e17⟩ := hQ17
    have N17 := Fr.app N0 N17q
    refine own_pre st17 ?_
    show OwnGoes p e below _ (T17.setTop (mkF m 4 #[.val (.int p1), .unset, .unset, .unset] [(.ref u4)]))
    refine own_pre (fun _ kz_ => XS.astoreN X17.here hx rfl (hb hby at_4) rfl rfl (l' := #[.val (.int p1), .val (.ref u4), .unset, .unset]) rfl kz_) ?_
    show OwnGoes p e below _ (T17.setTop (mkF m 5 #[.val (.int p1), .val (.ref u4), .unset, .unset] []))
    refine own_pre (fun _ kz_ => XS.aloadN X17.here hx rfl (hb hby at_5) rfl rfl kz_) ?_
    show OwnGoes p e below _ (T17.setTop (mkF m 6 #[.val (.int p1), .val (.ref u4), .unset, .unset] [(.ref u4)]))
    obtain ⟨cq18, kq18, q18a, q18b, q18c⟩ := isOf hZ e17 E4
    obtain ⟨_, _, ⟨T18, L18, k18, n18⟩, -, X18, ⟨Lc18, hQ18, l18, y18, z18⟩, st18⟩ := X17.virtualBack hx (y := (⟨"com/example/haversack/haversack/BagItVersion", "forbidsRepeatedEntries", "()Z"⟩ : MethodName)) (z := (⟨"com/example/haversack/haversack/BagItVersion", "forbidsRepeatedEntries", "()Z"⟩ : MethodName)) hown (mvT hZ (hw _ (List.mem_of_getElem? (i := 8) rfl))) (mvT hZ (hw _ (List.mem_of_getElem? (i := 9) rfl))) (notFace_of_selects (args := #[]) (mvT hZ (hw _ (List.mem_of_getElem? (i := 11) rfl)))) (mvT hZ (hw _ (List.mem_of_getElem? (i := 11) rfl))) (mvT hZ (hw _ (List.mem_of_getElem? (i := 10) rfl))) (by decide) (backOf (W := 0) (rm1 l Z a0 hw [] u4 u5 (0 : Int32) h0 n0 Z0 S5 (if_neg ne4).symm) hZ (hw _ (List.mem_of_getElem? (i := 12) rfl)) (hw _ (List.mem_of_getElem? (i := 6) rfl)) (by decide) (by decide)) q18a q18c (g := (mkF m 6 #[.val (.int p1), .val (.ref u4), .unset, .unset] [(.ref u4)])) rfl (by rw [hml]; rfl) (Steps.refl _) (argsL := []) (rest := []) (lenOf (d := "()Z") (ps := []) (r := some .boolean) (by decide +kernel) rfl) rfl (by show 2 * 0 + _ ≤ _; exact Nat.le_of_eq rfl) (hb hby at_6) (fun _ _ => ⟨rfl, e17, (by decide : 0 + 0 ≤ _), (by decide : 0 + 0 ≤ _)⟩)
    dsimp only [Pt.U, Pt.locs, Pt.cells, Pt.slots] at X18 l18 y18 z18 st18 hQ18
    subst l18 y18 z18
    obtain ⟨rfl, N18q, e18⟩ := hQ18
    have N18 := Fr.app N17 N18q
    refine own_tr st18 ?_
    show OwnGoes p e below _ (T18.setTop (mkF m 9 #[.val (.int p1), .val (.ref u4), .unset, .unset] [(.int (0 : Int32))]))
    refine own_pre (fun _ kz_ => XS.istoreN X18.here hx rfl (hb hby at_9) rfl (l' := #[.val (.int p1), .val (.ref u4), .val (.int (0 : Int32)), .unset]) rfl kz_) ?_
    show OwnGoes p e below _ (T18.setTop (mkF m 10 #[.val (.int p1), .val (.ref u4), .val (.int (0 : Int32)), .unset] []))
    refine own_pre (fun _ kz_ => XS.aloadN X18.here hx rfl (hb hby at_10) rfl rfl kz_) ?_
    show OwnGoes p e below _ (T18.setTop (mkF m 11 #[.val (.int p1), .val (.ref u4), .val (.int (0 : Int32)), .unset] [(.ref u4)]))
    obtain ⟨cq19, kq19, q19a, q19b, q19c⟩ := isOf hZ e18 E4
    obtain ⟨_, _, ⟨T19, L19, k19, n19⟩, -, X19, ⟨Lc19, hQ19, l19, y19, z19⟩, st19⟩ := X18.virtualBack hx (y := (⟨"com/example/haversack/haversack/BagItVersion", "number", "()Ljava/lang/String;"⟩ : MethodName)) (z := (⟨"com/example/haversack/haversack/BagItVersion", "number", "()Ljava/lang/String;"⟩ : MethodName)) hown (mvT hZ (hw _ (List.mem_of_getElem? (i := 15) rfl))) (mvT hZ (hw _ (List.mem_of_getElem? (i := 16) rfl))) (notFace_of_selects (args := #[]) (mvT hZ (hw _ (List.mem_of_getElem? (i := 18) rfl)))) (mvT hZ (hw _ (List.mem_of_getElem? (i := 18) rfl))) (mvT hZ (hw _ (List.mem_of_getElem? (i := 17) rfl))) (by decide) (backOf (W := 0) (rmNu l Z a0 hw [] u4 q4 h0 n0 Z0 FN4) hZ (hw _ (List.mem_of_getElem? (i := 19) rfl)) (hw _ (List.mem_of_getElem? (i := 6) rfl)) (by decide) (by decide)) q19a q19c (g := (mkF m 11 #[.val (.int p1), .val (.ref u4), .val (.int (0 : Int32)), .unset] [(.ref u4)])) rfl (by rw [hml]; rfl) (Steps.refl _) (argsL := []) (rest := []) (lenOf (d := "()Ljava/lang/String;") (ps := []) (r := some (.object "java/lang/String")) (by decide +kernel) rfl) rfl (by show 2 * 0 + _ ≤ _; exact Nat.le_of_eq rfl) (hb hby at_11) (fun _ _ => ⟨rfl, e18, (by decide : 0 + 0 ≤ _), (by decide : 0 + 0 ≤ _)⟩)
    dsimp only [Pt.U, Pt.locs, Pt.cells, Pt.slots] at X19 l19 y19 z19 st19 hQ19
    subst l19 y19 z19
    obtain ⟨rfl, N19q, e19⟩ := hQ19
    have N19 := Fr.app N18 N19q
    refine own_tr st19 ?_
    show OwnGoes p e below _ (T19.setTop (mkF m 14 #[.val (.int p1), .val (.ref u4), .val (.int (0 : Int32)), .unset] [(.ref q4)]))
    obtain ⟨gs, Tl, hl_, k1, gd, gk, Xl, el, El, hS1, hk1, hZ, hown, Eg, Cg, Vg, Ag, -, -, -, -, -, stl⟩ := ldcCH (s := s) (vm0 := s.vm) X19 hx hZ hown (hw _ (List.mem_of_getElem? (i := 22) rfl)) (own_atoms hw) e19 ((State.WarmedH.refl s).since 0) (Nat.zero_le _) (own_ew hw) (List.mem_singleton.mpr rfl) hCH (vs := [(.int (49 : Int32)), (.int (46 : Int32)), (.int (48 : Int32))]) (z := 3) ⟨by decide, rfl⟩ (by decide) rfl (g := (mkF m 14 #[.val (.int p1), .val (.ref u4), .val (.int (0 : Int32)), .unset] [(.ref q4)])) rfl (hb hby at_14) (n := 12) (by decide) (by decide) (by decide) (by decide)
    have Zl := Nat.le_trans Z0 El.1
    have Bg := own_ofArv Ag rfl
    refine own_pre stl ?_
    show OwnGoes p e below _ (Tl.setTop (mkF m 16 #[.val (.int p1), .val (.ref u4), .val (.int (0 : Int32)), .unset] [(.ref gs), (.ref q4)]))
    obtain ⟨cq20, kq20, q20a, q20b, q20c⟩ := isOf hZ el (EN4.ext El)
    obtain ⟨_, _, ⟨T20, L20, k20, n20⟩, -, X20, ⟨Lc20, hQ20, l20, y20, z20⟩, st20⟩ := Xl.virtualBack hx (y := (⟨"java/lang/String", "equals", "(Ljava/lang/Object;)Z"⟩ : MethodName)) (z := (⟨"java/lang/String", "equals", "(Ljava/lang/Object;)Z"⟩ : MethodName)) hown (mvT hZ (hw _ (List.mem_of_getElem? (i := 30) rfl))) (mvT hZ (hw _ (List.mem_of_getElem? (i := 31) rfl))) (notFace_of_selects (args := #[]) (mvT hZ (hw _ (List.mem_of_getElem? (i := 33) rfl)))) (mvT hZ (hw _ (List.mem_of_getElem? (i := 33) rfl))) (mvT hZ (hw _ (List.mem_of_getElem? (i := 32) rfl))) (by decide) (backOf (W := 0) (rmEq4 l Z a0 hw [] q4 gs b4 gd cs v4 hl_ n0 Zl (EN4.ext El) Eg (CN4.ext El) Cg (VN4.ext El) Vg (AN4.ext El) Bg hv4 (SC.ext El) hcs) hZ (hw _ (List.mem_of_getElem? (i := 34) rfl)) (hw _ (List.mem_of_getElem? (i := 23) rfl)) (by decide) (by decide)) q20a q20c (g := (mkF m 16 #[.val (.int p1), .val (.ref u4), .val (.int (0 : Int32)), .unset] [(.ref gs), (.ref q4)])) rfl (by rw [hml]; rfl) (Steps.refl _) (argsL := [(.ref gs)]) (rest := []) (lenOf (d := "(Ljava/lang/Object;)Z") (ps := [(.object "java/lang/Object")]) (r := some .boolean) (by decide +kernel) rfl) rfl (by show 2 * 0 + _ ≤ _; exact Nat.le_of_eq rfl) (hb hby at_16) (fun _ _ => ⟨rfl, el, (by decide : 2 + 0 ≤ _), (by decide : 16 + 0 ≤ _)⟩)
    dsimp only [Pt.U, Pt.locs, Pt.cells, Pt.slots] at X20 l20 y20 z20 st20 hQ20
    subst l20 y20 z20
    obtain ⟨rfl, N20q, e20⟩ := hQ20
    have N20 := Fr.app N19 N20q
    refine own_tr st20 ?_
    show OwnGoes p e below _ (T20.setTop (mkF m 19 #[.val (.int p1), .val (.ref u4), .val (.int (0 : Int32)), .unset] [(.int (0 : Int32))]))
    refine own_pre (fun _ kz_ => XS.istoreN X20.here hx rfl (hb hby at_19) rfl (l' := #[.val (.int p1), .val (.ref u4), .val (.int (0 : Int32)), .val (.int (0 : Int32))]) rfl kz_) ?_
    show OwnGoes p e below _ (T20.setTop (mkF m 20 #[.val (.int p1), .val (.ref u4), .val (.int (0 : Int32)), .val (.int (0 : Int32))] []))
    refine own_pre (fun _ kz_ => XS.iloadN X20.here hx rfl (hb hby at_20) rfl kz_) ?_
    show OwnGoes p e below _ (T20.setTop (mkF m 21 #[.val (.int p1), .val (.ref u4), .val (.int (0 : Int32)), .val (.int (0 : Int32))] [(.int (0 : Int32))]))
    refine own_pre (fun _ kz_ => XS.iloadN X20.here hx rfl (hb hby at_21) rfl kz_) ?_
    show OwnGoes p e below _ (T20.setTop (mkF m 22 #[.val (.int p1), .val (.ref u4), .val (.int (0 : Int32)), .val (.int (0 : Int32))] [(.int (0 : Int32)), (.int (0 : Int32))]))
    refine own_pre (fun _ kz_ => XS.icmpNo X20.here hx rfl (hb hby at_22) rfl (teq (by decide : (0 : Int32) = (0 : Int32))).2 kz_) ?_
    show OwnGoes p e below _ (T20.setTop (mkF m 25 #[.val (.int p1), .val (.ref u4), .val (.int (0 : Int32)), .val (.int (0 : Int32))] []))
    refine own_pre (fun _ kz_ => XS.iconst X20.here hx rfl (hb hby at_25) kz_) ?_
    show OwnGoes p e below _ (T20.setTop (mkF m 26 #[.val (.int p1), .val (.ref u4), .val (.int (0 : Int32)), .val (.int (0 : Int32))] [(.int (1 : Int32))]))
    refine own_pre (fun _ kz_ => XS.goto X20.here hx rfl (pc0 := 26) (pc' := 30) rfl (hb hby at_26) (by decide) (by decide) kz_) ?_
    show OwnGoes p e below _ (T20.setTop (mkF m 30 #[.val (.int p1), .val (.ref u4), .val (.int (0 : Int32)), .val (.int (0 : Int32))] [(.int (1 : Int32))]))
    exact own_retW X20 hx hS1 (by rw [e20]; exact hk1) Bd.returns rfl (Or.inl ⟨rfl, by simp, _, rfl⟩) Bd.notSynchronized (hb hby at_30) ⟨rfl, N20⟩ (by decide) (by decide)
  · show OwnGoes p e below _ (s₁.setTop (mkF m 0 #[.val (.int p1), .unset, .unset, .unset] []))
    refine own_pre (fun _ kz_ => XS.iloadN X0.here hx rfl (hb hby at_0) rfl kz_) ?_
    show OwnGoes p e below _ (s₁.setTop (mkF m 1 #[.val (.int p1), .unset, .unset, .unset] [(.int p1)]))
    obtain ⟨_, _, ⟨T21, L21, k21, n21⟩, -, X21, ⟨Lc21, hQ21, l21, y21, z21⟩, st21⟩ := Jvm.LawKit.callS X0 hx (y := (⟨"com/example/haversack/haversack/BagItVersionForbidsRepeatedEntriesPinLaw", "pick", "(I)Lcom/example/haversack/haversack/BagItVersion;"⟩ : MethodName)) hown (mvT hZ (hw _ (List.mem_of_getElem? (i := 0) rfl))) (mvT hZ (hw _ (List.mem_of_getElem? (i := 1) rfl))) (mvT hZ (hw _ (List.mem_of_getElem? (i := 2) rfl))) (mvT hZ (hw _ (List.mem_of_getElem? (i := 3) rfl))) (by decide) (backOf (W := 0) (rmP l Z a0 hw [] p1 (5 : Int32) u0 u1 u2 u3 u4 u5 u5 h0 n0 Z0 S0 S1 S2 S3 S4 S5 hk (by simp)) hZ (hw _ (List.mem_of_getElem? (i := 3) rfl)) (hw _ (List.mem_of_getElem? (i := 2) rfl)) (by decide) (by decide)) (g := (mkF m 1 #[.val (.int p1), .unset, .unset, .unset] [(.int p1)])) rfl (by rw [hml]; rfl) (argsL := [(.int p1)]) (rest := []) (lenOf (d := "(I)Lcom/example/haversack/haversack/BagItVersion;") (ps := [.int]) (r := some (.object "com/example/haversack/haversack/BagItVersion")) (by decide +kernel) rfl) rfl (by show 2 * 0 + _ ≤ _; exact Nat.le_of_eq rfl) (hb hby at_1) (fun _ _ => ⟨rfl, e0, (by decide : 0 + 0 ≤ _), (by decide : 0 + 0 ≤ _)⟩)
    dsimp only [Pt.U, Pt.locs, Pt.cells, Pt.slots] at X21 l21 y21 z21 st21 hQ21
    subst l21 y21 z21
    obtain ⟨rfl, N21q, e21⟩ := hQ21
    have N21 := Fr.app N0 N21q
    refine own_pre st21 ?_
    show OwnGoes p e below _ (T21.setTop (mkF m 4 #[.val (.int p1), .unset, .unset, .unset] [(.ref u5)]))
    refine own_pre (fun _ kz_ => XS.astoreN X21.here hx rfl (hb hby at_4) rfl rfl (l' := #[.val (.int p1), .val (.ref u5), .unset, .unset]) rfl kz_) ?_
    show OwnGoes p e below _ (T21.setTop (mkF m 5 #[.val (.int p1), .val (.ref u5), .unset, .unset] []))
    refine own_pre (fun _ kz_ => XS.aloadN X21.here hx rfl (hb hby at_5) rfl rfl kz_) ?_
    show OwnGoes p e below _ (T21.setTop (mkF m 6 #[.val (.int p1), .val (.ref u5), .unset, .unset] [(.ref u5)]))
    obtain ⟨cq22, kq22, q22a, q22b, q22c⟩ := isOf hZ e21 E5
    obtain ⟨_, _, ⟨T22, L22, k22, n22⟩, -, X22, ⟨Lc22, hQ22, l22, y22, z22⟩, st22⟩ := X21.virtualBack hx (y := (⟨"com/example/haversack/haversack/BagItVersion", "forbidsRepeatedEntries", "()Z"⟩ : MethodName)) (z := (⟨"com/example/haversack/haversack/BagItVersion", "forbidsRepeatedEntries", "()Z"⟩ : MethodName)) hown (mvT hZ (hw _ (List.mem_of_getElem? (i := 8) rfl))) (mvT hZ (hw _ (List.mem_of_getElem? (i := 9) rfl))) (notFace_of_selects (args := #[]) (mvT hZ (hw _ (List.mem_of_getElem? (i := 11) rfl)))) (mvT hZ (hw _ (List.mem_of_getElem? (i := 11) rfl))) (mvT hZ (hw _ (List.mem_of_getElem? (i := 10) rfl))) (by decide) (backOf (W := 0) (rm1 l Z a0 hw [] u5 u5 (1 : Int32) h0 n0 Z0 S5 (if_pos rfl).symm) hZ (hw _ (List.mem_of_getElem? (i := 12) rfl)) (hw _ (List.mem_of_getElem? (i := 6) rfl)) (by decide) (by decide)) q22a q22c (g := (mkF m 6 #[.val (.int p1), .val (.ref u5), .unset, .unset] [(.ref u5)])) rfl (by rw [hml]; rfl) (Steps.refl _) (argsL := []) (rest := []) (lenOf (d := "()Z") (ps := []) (r := some .boolean) (by decide +kernel) rfl) rfl (by show 2 * 0 + _ ≤ _; exact Nat.le_of_eq rfl) (hb hby at_6) (fun _ _ => ⟨rfl, e21, (by decide : 0 + 0 ≤ _), (by decide : 0 + 0 ≤ _)⟩)
    dsimp only [Pt.U, Pt.locs, Pt.cells, Pt.slots] at X22 l22 y22 z22 st22 hQ22
    subst l22 y22 z22
    obtain ⟨rfl, N22q, e22⟩ := hQ22
    have N22 := Fr.app N21 N22q
    refine own_tr st22 ?_
    show OwnGoes p e below _ (T22.setTop (mkF m 9 #[.val (.int p1), .val (.ref u5), .unset, .unset] [(.int (1 : Int32))]))
    refine own_pre (fun _ kz_ => XS.istoreN X22.here hx rfl (hb hby at_9) rfl (l' := #[.val (.int p1), .val (.ref u5), .val (.int (1 : Int32)), .unset]) rfl kz_) ?_
    show OwnGoes p e below _ (T22.setTop (mkF m 10 #[.val (.int p1), .val (.ref u5), .val (.int (1 : Int32)), .unset] []))
    refine own_pre (fun _ kz_ => XS.aloadN X22.here hx rfl (hb hby at_10) rfl rfl kz_) ?_
    show OwnGoes p e below _ (T22.setTop (mkF m 11 #[.val (.int p1), .val (.ref u5), .val (.int (1 : Int32)), .unset] [(.ref u5)]))
    obtain ⟨cq23, kq23, q23a, q23b, q23c⟩ := isOf hZ e22 E5
    obtain ⟨_, _, ⟨T23, L23, k23, n23⟩, -, X23, ⟨Lc23, hQ23, l23, y23, z23⟩, st23⟩ := X22.virtualBack hx (y := (⟨"com/example/haversack/haversack/BagItVersion", "number", "()Ljava/lang/String;"⟩ : MethodName)) (z := (⟨"com/example/haversack/haversack/BagItVersion", "number", "()Ljava/lang/String;"⟩ : MethodName)) hown (mvT hZ (hw _ (List.mem_of_getElem? (i := 15) rfl))) (mvT hZ (hw _ (List.mem_of_getElem? (i := 16) rfl))) (notFace_of_selects (args := #[]) (mvT hZ (hw _ (List.mem_of_getElem? (i := 18) rfl)))) (mvT hZ (hw _ (List.mem_of_getElem? (i := 18) rfl))) (mvT hZ (hw _ (List.mem_of_getElem? (i := 17) rfl))) (by decide) (backOf (W := 0) (rmNu l Z a0 hw [] u5 q5 h0 n0 Z0 FN5) hZ (hw _ (List.mem_of_getElem? (i := 19) rfl)) (hw _ (List.mem_of_getElem? (i := 6) rfl)) (by decide) (by decide)) q23a q23c (g := (mkF m 11 #[.val (.int p1), .val (.ref u5), .val (.int (1 : Int32)), .unset] [(.ref u5)])) rfl (by rw [hml]; rfl) (Steps.refl _) (argsL := []) (rest := []) (lenOf (d := "()Ljava/lang/String;") (ps := []) (r := some (.object "java/lang/String")) (by decide +kernel) rfl) rfl (by show 2 * 0 + _ ≤ _; exact Nat.le_of_eq rfl) (hb hby at_11) (fun _ _ => ⟨rfl, e22, (by decide : 0 + 0 ≤ _), (by decide : 0 + 0 ≤ _)⟩)
    dsimp only [Pt.U, Pt.locs, Pt.cells, Pt.slots] at X23 l23 y23 z23 st23 hQ23
    subst l23 y23 z23
    obtain ⟨rfl, N23q, e23⟩ := hQ23
    have N23 := Fr.app N22 N23q
    refine own_tr st23 ?_
    show OwnGoes p e below _ (T23.setTop (mkF m 14 #[.val (.int p1), .val (.ref u5), .val (.int (1 : Int32)), .unset] [(.ref q5)]))
    obtain ⟨gs, Tl, hl_, k1, gd, gk, Xl, el, El, hS1, hk1, hZ, hown, Eg, Cg, Vg, Ag, -, -, -, -, -, stl⟩ := ldcCH (s := s) (vm0 := s.vm) X23 hx hZ hown (hw _ (List.mem_of_getElem? (i := 22) rfl)) (own_atoms hw) e23 ((State.WarmedH.refl s).since 0) (Nat.zero_le _) (own_ew hw) (List.mem_singleton.mpr rfl) hCH (vs := [(.int (49 : Int32)), (.int (46 : Int32)), (.int (48 : Int32))]) (z := 3) ⟨by decide, rfl⟩ (by decide) rfl (g := (mkF m 14 #[.val (.int p1), .val (.ref u5), .val (.int (1 : Int32)), .unset] [(.ref q5)])) rfl (hb hby at_14) (n := 12) (by decide) (by decide) (by decide) (by decide)
    have Zl := Nat.le_trans Z0 El.1
    have Bg := own_ofArv Ag rfl
    refine own_pre stl ?_
    show OwnGoes p e below _ (Tl.setTop (mkF m 16 #[.val (.int p1), .val (.ref u5), .val (.int (1 : Int32)), .unset] [(.ref gs), (.ref q5)]))
    obtain ⟨cq24, kq24, q24a, q24b, q24c⟩ := isOf hZ el (EN5.ext El)
    obtain ⟨_, _, ⟨T24, L24, k24, n24⟩, -, X24, ⟨Lc24, hQ24, l24, y24, z24⟩, st24⟩ := Xl.virtualBack hx (y := (⟨"java/lang/String", "equals", "(Ljava/lang/Object;)Z"⟩ : MethodName)) (z := (⟨"java/lang/String", "equals", "(Ljava/lang/Object;)Z"⟩ : MethodName)) hown (mvT hZ (hw _ (List.mem_of_getElem? (i := 30) rfl))) (mvT hZ (hw _ (List.mem_of_getElem? (i := 31) rfl))) (notFace_of_selects (args := #[]) (mvT hZ (hw _ (List.mem_of_getElem? (i := 33) rfl)))) (mvT hZ (hw _ (List.mem_of_getElem? (i := 33) rfl))) (mvT hZ (hw _ (List.mem_of_getElem? (i := 32) rfl))) (by decide) (backOf (W := 0) (rmEq3 l Z a0 hw [] q5 gs b5 gd cs  hl_ n0 Zl (EN5.ext El) Eg (CN5.ext El) Cg (VN5.ext El) Vg (AN5.ext El) Bg (SC.ext El) hcs) hZ (hw _ (List.mem_of_getElem? (i := 34) rfl)) (hw _ (List.mem_of_getElem? (i := 23) rfl)) (by decide) (by decide)) q24a q24c (g := (mkF m 16 #[.val (.int p1), .val (.ref u5), .val (.int (1 : Int32)), .unset] [(.ref gs), (.ref q5)])) rfl (by rw [hml]; rfl) (Steps.refl _) (argsL := [(.ref gs)]) (rest := []) (lenOf (d := "(Ljava/lang/Object;)Z") (ps := [(.object "java/lang/Object")]) (r := some .boolean) (by decide +kernel) rfl) rfl (by show 2 * 0 + _ ≤ _; exact Nat.le_of_eq rfl) (hb hby at_16) (fun _ _ => ⟨rfl, el, (by decide : 2 + 0 ≤ _), (by decide : 16 + 0 ≤ _)⟩)
    dsimp only [Pt.U, Pt.locs, Pt.cells, Pt.slots] at X24 l24 y24 z24 st24 hQ24
    subst l24 y24 z24
    obtain ⟨rfl, N24q, e24⟩ := hQ24
    have N24 := Fr.app N23 N24q
    refine own_tr st24 ?_
    show OwnGoes p e below _ (T24.setTop (mkF m 19 #[.val (.int p1), .val (.ref u5), .val (.int (1 : Int32)), .unset] [(.int (1 : Int32))]))
    refine own_pre (fun _ kz_ => XS.istoreN X24.here hx rfl (hb hby at_19) rfl (l' := #[.val (.int p1), .val (.ref u5), .val (.int (1 : Int32)), .val (.int (1 : Int32))]) rfl kz_) ?_
    show OwnGoes p e below _ (T24.setTop (mkF m 20 #[.val (.int p1), .val (.ref u5), .val (.int (1 : Int32)), .val (.int (1 : Int32))] []))
    refine own_pre (fun _ kz_ => XS.iloadN X24.here hx rfl (hb hby at_20) rfl kz_) ?_
    show OwnGoes p e below _ (T24.setTop (mkF m 21 #[.val (.int p1), .val (.ref u5), .val (.int (1 : Int32)), .val (.int (1 : Int32))] [(.int (1 : Int32))]))
    refine own_pre (fun _ kz_ => XS.iloadN X24.here hx rfl (hb hby at_21) rfl kz_) ?_
    show OwnGoes p e below _ (T24.setTop (mkF m 22 #[.val (.int p1), .val (.ref u5), .val (.int (1 : Int32)), .val (.int (1 : Int32))] [(.int (1 : Int32)), (.int (1 : Int32))]))
    refine own_pre (fun _ kz_ => XS.icmpNo X24.here hx rfl (hb hby at_22) rfl (teq (by decide : (1 : Int32) = (1 : Int32))).2 kz_) ?_
    show OwnGoes p e below _ (T24.setTop (mkF m 25 #[.val (.int p1), .val (.ref u5), .val (.int (1 : Int32)), .val (.int (1 : Int32))] []))
    refine own_pre (fun _ kz_ => XS.iconst X24.here hx rfl (hb hby at_25) kz_) ?_
    show OwnGoes p e below _ (T24.setTop (mkF m 26 #[.val (.int p1), .val (.ref u5), .val (.int (1 : Int32)), .val (.int (1 : Int32))] [(.int (1 : Int32))]))
    refine own_pre (fun _ kz_ => XS.goto X24.here hx rfl (pc0 := 26) (pc' := 30) rfl (hb hby at_26) (by decide) (by decide) kz_) ?_
    show OwnGoes p e below _ (T24.setTop (mkF m 30 #[.val (.int p1), .val (.ref u5), .val (.int (1 : Int32)), .val (.int (1 : Int32))] [(.int (1 : Int32))]))
    exact own_retW X24 hx hS1 (by rw [e24]; exact hk1) Bd.returns rfl (Or.inl ⟨rfl, by simp, _, rfl⟩) Bd.notSynchronized (hb hby at_30) ⟨rfl, N24⟩ (by decide) (by decide)
set_option maxRecDepth 65536 in
set_option maxHeartbeats 40000000 in
theorem comes_1 {Post : Tables → Env → Array Value → State → Outcome → State → Prop} (hpost : ∀ tb e args s v u, (limb_1_1.after args s (.returned v) u = true ∧ limb_1_2.after args s (.returned v) u = true ∧ True) → ReturnedEndW s (.returned v) u (Jvm.fieldLocs frame_1_writes args s ++ Jvm.arrayLocs frame_1_arrays args s ++ Jvm.staticLocs frame_1_statics s) 8 1088 → Post tb e args s (.returned v) u) :
    ArmFor flags0 classFile x code maxLocals ret World_1 tables_1 room_1 Calls_1 rest_1 Pre_1 Post := by
  intro l hfl _ _ p e ha hc hk s m args below hf hA hF happ hP
  obtain ⟨hcalls, hrest, hpre⟩ := hP
  obtain ⟨-, -, -, hnamed, -, -, -, hat⟩ := (Spec.applies_iff hf).mp happ
  obtain ⟨hg, hn⟩ := and_e (Cond.before_iff.mp (show (Jvm.Cond.and given_1 narrow_1).before args s = true from hpre))
  obtain ⟨hcount, hgs⟩ := and_e hg
  have ha0 := hgs
  obtain ⟨w0, rfl⟩ : ∃ w0 : Value, args = #[w0] := by
    have hs : args.size = 1 := by simpa [Cond.value, given_1] using hcount
    obtain ⟨L⟩ := args
    match L, hs with
    | [w0], _ => exact ⟨w0, rfl⟩
  have hw := fun d (hd : d ∈ tables_1) => atoms_spec (ws := Jvm.Cond.code x code maxLocals ret :: tables_1) hat d (List.mem_cons_of_mem _ hd)
  have hfit : Fit s := fun {y c} hc i hi => by
    obtain ⟨ha, rfl⟩ := Array.getElem?_eq_some_iff.mp hc
    have q := List.all_eq_true.mp ((Array.all_eq_true_iff_forall_mem.mp hF) _ (Array.getElem_mem ha)) i (List.mem_range.mpr hi)
    simpa [Array.getElem?_eq_getElem hi] using q
  obtain ⟨hsets, hown0⟩ := atoms_of _ (rest_1_c_eq ▸ (show rest_1_c.before _ s = true from hrest))
  have hr0 := Cond.before_iff.mp hown0
  obtain ⟨i0, ei0⟩ := is_v ha0
  obtain rfl : w0 = (.int i0) := Option.some.inj ei0
  obtain ⟨m0, hn0⟩ := and_e hn
  obtain ⟨m1, hn1⟩ := and_e hn0
  obtain ⟨m2, hn2⟩ := and_e hn1
  obtain ⟨m3, hn3⟩ := and_e hn2
  obtain ⟨m4, hn4⟩ := and_e hn3
  obtain ⟨m5, hn5⟩ := and_e hn4
  obtain ⟨m6, hn6⟩ := and_e hn5
  obtain ⟨m7, hn7⟩ := and_e hn6
  obtain ⟨m8, hn8⟩ := and_e hn7
  obtain ⟨m9, hn9⟩ := and_e hn8
  obtain ⟨m10, hn10⟩ := and_e hn9
  obtain ⟨m11, hn11⟩ := and_e hn10
  obtain ⟨m12, hn12⟩ := and_e hn11
  obtain ⟨m13, hn13⟩ := and_e hn12
  obtain ⟨m14, hn14⟩ := and_e hn13
  obtain ⟨m15, hn15⟩ := and_e hn14
  obtain ⟨m16, hn16⟩ := and_e hn15
  obtain ⟨m17, hn17⟩ := and_e hn16
  obtain ⟨m18, hn18⟩ := and_e hn17
  obtain ⟨m19, hn19⟩ := and_e hn18
  obtain ⟨m20, hn20⟩ := and_e hn19
  obtain ⟨m21, hn21⟩ := and_e hn20
  obtain ⟨m22, hn22⟩ := and_e hn21
  obtain ⟨m23, hn23⟩ := and_e hn22
  obtain ⟨m24, hn24⟩ := and_e hn23
  obtain ⟨m25, hn25⟩ := and_e hn24
  obtain ⟨m26, hn26⟩ := and_e hn25
  obtain ⟨m27, hn27⟩ := and_e hn26
  obtain ⟨m28, hn28⟩ := and_e hn27
  obtain ⟨m29, hn29⟩ := and_e hn28
  obtain ⟨m30, hn30⟩ := and_e hn29
  obtain ⟨m31, hn31⟩ := and_e hn30
  obtain ⟨m32, hn32⟩ := and_e hn31
  obtain ⟨m33, hn33⟩ := and_e hn32
  obtain ⟨m34, hn34⟩ := and_e hn33
  obtain ⟨m35, hn35⟩ := and_e hn34
  obtain ⟨m36, hn36⟩ := and_e hn35
  obtain ⟨m37, hn37⟩ := and_e hn36
  obtain ⟨m38, hn38⟩ := and_e hn37
  obtain ⟨m39, hn39⟩ := and_e hn38
  obtain ⟨m40, hn40⟩ := and_e hn39
  obtain ⟨m41, hn41⟩ := and_e hn40
  obtain ⟨m42, hn42⟩ := and_e hn41
  obtain ⟨m43, hn43⟩ := and_e hn42
  obtain ⟨m44, hn44⟩ := and_e hn43
  obtain ⟨m45, hn45⟩ := and_e hn44
  obtain ⟨m46, hn46⟩ := and_e hn45
  obtain ⟨m47, hn47⟩ := and_e hn46
  obtain ⟨m48, hn48⟩ := and_e hn47
  obtain ⟨m49, hn49⟩ := and_e hn48
  obtain ⟨m50, hn50⟩ := and_e hn49
  obtain ⟨m51, hn51⟩ := and_e hn50
  obtain ⟨m52, hn52⟩ := and_e hn51
  obtain ⟨m53, hn53⟩ := and_e hn52
  obtain ⟨m54, hn54⟩ := and_e hn53
  obtain ⟨m55, hn55⟩ := and_e hn54
  obtain ⟨m56, hn56⟩ := and_e hn55
  obtain ⟨m57, hn57⟩ := and_e hn56
  have m58 := hn57
  obtain ⟨u0, S0, E0, o0⟩ := own_enum m0 m2 (hw _ (List.mem_of_getElem? (i := 6) rfl)) (hw _ (List.mem_of_getElem? (i := 7) rfl))
  obtain ⟨u1, S1, E1, o1⟩ := own_enum m20 m21 (hw _ (List.mem_of_getElem? (i := 6) rfl)) (hw _ (List.mem_of_getElem? (i := 49) rfl))
  obtain ⟨u2, S2, E2, o2⟩ := own_enum m14 m15 (hw _ (List.mem_of_getElem? (i := 6) rfl)) (hw _ (List.mem_of_getElem? (i := 47) rfl))
  obtain ⟨u3, S3, E3, o3⟩ := own_enum m8 m9 (hw _ (List.mem_of_getElem? (i := 6) rfl)) (hw _ (List.mem_of_getElem? (i := 45) rfl))
  obtain ⟨u4, S4, E4, o4⟩ := own_enum m33 m34 (hw _ (List.mem_of_getElem? (i := 6) rfl)) (hw _ (List.mem_of_getElem? (i := 52) rfl))
  obtain ⟨u5, S5, E5, o5⟩ := own_enum m1 m3 (hw _ (List.mem_of_getElem? (i := 6) rfl)) (hw _ (List.mem_of_getElem? (i := 14) rfl))
  obtain ⟨q0, b0, cl0, FN0, EN0, CN0, VN0, eb0, AA0, hlt0, hsz0⟩ := own_str (S0.fin (Vm.Alike.refl _)) m4 m5 m6 m7
  have AN0 : OwnA s s.heap b0 .byte cl0.slots.toList := ⟨cl0, AA0, by simp⟩
  have hv0 : cl0.slots.toList.length = 4 := by rw [Array.length_toList]; exact own_size hlt0 hsz0 rfl
  obtain ⟨q1, b1, cl1, FN1, EN1, CN1, VN1, eb1, AA1, hlt1, hsz1⟩ := own_str (S1.fin (Vm.Alike.refl _)) m22 m23 m24 m25
  have AN1 : OwnA s s.heap b1 .byte cl1.slots.toList := ⟨cl1, AA1, by simp⟩
  have hv1 : cl1.slots.toList.length = 4 := by rw [Array.length_toList]; exact own_size hlt1 hsz1 rfl
  obtain ⟨q2, b2, cl2, FN2, EN2, CN2, VN2, eb2, AA2, hlt2, hsz2⟩ := own_str (S2.fin (Vm.Alike.refl _)) m16 m17 m18 m19
  have AN2 : OwnA s s.heap b2 .byte cl2.slots.toList := ⟨cl2, AA2, by simp⟩
  have hv2 : cl2.slots.toList.length = 4 := by rw [Array.length_toList]; exact own_size hlt2 hsz2 rfl
  obtain ⟨q3, b3, cl3, FN3, EN3, CN3, VN3, eb3, AA3, hlt3, hsz3⟩ := own_str (S3.fin (Vm.Alike.refl _)) m10 m11 m12 m13
  have AN3 : OwnA s s.heap b3 .byte cl3.slots.toList := ⟨cl3, AA3, by simp⟩
  have hv3 : cl3.slots.toList.length = 4 := by rw [Array.length_toList]; exact own_size hlt3 hsz3 rfl
  obtain ⟨q4, b4, cl4, FN4, EN4, CN4, VN4, eb4, AA4, hlt4, hsz4⟩ := own_str (S4.fin (Vm.Alike.refl _)) m35 m36 m37 m38
  have AN4 : OwnA s s.heap b4 .byte cl4.slots.toList := ⟨cl4, AA4, by simp⟩
  have hv4 : cl4.slots.toList.length = 4 := by rw [Array.length_toList]; exact own_size hlt4 hsz4 rfl
  obtain ⟨q5, b5, cl5, FN5, EN5, CN5, VN5, eb5, AA5, hlt5, hsz5⟩ := own_str (S5.fin (Vm.Alike.refl _)) m26 m27 m28 m29
  have y0 := (elem_in (eqv_i (Term.int_eval 49) m30) eb5 (Term.int_eval 0) AA5.1).2
  have y1 := (elem_in (eqv_i (Term.int_eval 46) m31) eb5 (Term.int_eval 1) AA5.1).2
  have y2 := (elem_in (eqv_i (Term.int_eval 48) m32) eb5 (Term.int_eval 2) AA5.1).2
  have AN5 : OwnA s s.heap b5 .byte [(.int (49 : Int32)), (.int (46 : Int32)), (.int (48 : Int32))] := ⟨cl5, AA5, own_three (own_size hlt5 hsz5 rfl) y0 y1 y2⟩
  obtain ⟨cs, evc⟩ := is_v (Cond.before_iff.mp (hsets _ (List.mem_of_getElem? (i := 1) rfl)))
  have SC := Sta.start evc (Or.inl (hsets _ (List.mem_of_getElem? (i := 0) rfl)))
  have hcw := hsets _ (List.mem_of_getElem? (i := 2) rfl)
  have hcs : ¬ cs = (0 : Int32) := fun z => by
    have q := Cond.before_iff.mp hcw
    subst z
    simp only [Cond.value, evc, Term.int_eval] at q
    simp at q
  have hCH : CHv s own_EL s.vm s.heap := CHv.start (own_ew hw) (fun pz hpz => hcalls.1 pz hpz) hcw (hw _ (List.mem_of_getElem? (i := 25) rfl)) (hw _ (List.mem_of_getElem? (i := 24) rfl))
  obtain ⟨n, o, h1, h2, h3, _, L, rfl, ⟨rfl, N⟩, hq⟩ := rm0 l s _ hw tables_1 i0 u0 u1 u2 u3 u4 u5 q0 q1 q2 q3 q4 q5 b0 b1 b2 b3 b4 b5 _ _ _ _ _ cs s.heap s.heap.size (Nat.le_refl _) S0 S1 S2 S3 S4 S5 E0 E1 E2 E3 E4 E5 (own_ne o0 o5 (by decide)) (own_ne o1 o5 (by decide)) (own_ne o2 o5 (by decide)) (own_ne o3 o5 (by decide)) (own_ne o4 o5 (by decide)) FN0 EN0 CN0 VN0 AN0 hv0 FN1 EN1 CN1 VN1 AN1 hv1 FN2 EN2 CN2 VN2 AN2 hv2 FN3 EN3 CN3 VN3 AN3 hv3 FN4 EN4 CN4 VN4 AN4 hv4 FN5 EN5 CN5 VN5 AN5 SC hcs p e ha hc hk s m _ below hf ((Spec.applies_iff_loose hf).mp happ).1 ⟨rfl, State.Warmed39.refl s, rfl, hCH⟩ trivial
  refine ⟨n, _, h1, h2, h3, hpost _ _ _ _ _ _ ⟨Cond.after_iff.mpr rfl, Cond.after_iff.mpr (eq_i res_at (Term.int_eval (1)) rfl), trivial⟩ ⟨hq.1, hq.2.1, hq.2.2.1, (hq.2.2.2.sift fun y hy => Or.inr (N y hy)).mono (by decide) (by decide)⟩⟩
theorem main_1_1 : Claimed_1_1 := comes_1 fun _ _ _ _ _ _ h hF => ⟨h.1, hF⟩
theorem main_1_2 : Claimed_1_2 := comes_1 fun _ _ _ _ _ _ h hF => ⟨h.2.1, hF⟩
end Jvm.Pilot.@@N@@
namespace Jvm.Pilot.@@N@@
open Jvm Jvm.ClassFile Sem Op Lib Jvm.Free Jvm.Stand Jvm.Pilot.@@N@@.Jvm.D
/-! MADE BY PROGRAM (witnessworld.py) out of the Statement's table words and the real class files: 18 classes; the members and pool entries that the words name. The judged class is class 1, her method 2. -/
namespace start1
open Jvm.ClassFile
def u (s : String) : CpInfo := .utf8 (stringToUtf16 s)
/-- a pool by its gaps: so many unusable entries, then the entry; so many at the end -/
def gap : Nat → List CpInfo → List CpInfo
  | 0, r => r
  | n + 1, r => .unusable :: gap n r
def poolList (es : List (Nat × CpInfo)) (last : Nat) : List CpInfo := es.foldr (fun e r => gap e.1 (e.2 :: r)) (gap last [])
def pool (es : List (Nat × CpInfo)) (last : Nat) : Array CpInfo := ⟨poolList es last⟩
def fileOf (pool : Array CpInfo) (this : Nat) (attrs : Array Attribute := #[]) (ms : Array MethodInfo := #[]) (fl : Nat := 33) (sup : Nat := 0) (ifs : Array Nat := #[]) (fds : Array FieldInfo := #[]) : ClassFile where
  minorVersion := 0
  majorVersion := 65
  constantPool := pool
  accessFlags := fl
  thisClass := this
  superClass := sup
  interfaces := ifs
  fields := fds
  methods := ms
  attributes := attrs
def plain (name : String) (sup : Option ClassId) : Class where
  name := name
  kind := .ordinary
  loader := none
  accessFlags := 33
  super := sup
  interfaces := #[]
  cf := none
  fields := #[]
  methods := #[]
  instanceTypes := #[]
  staticTypes := #[]
  resolved := #[]
  callSites := []
  init := .initialized
  statics := none
  mirror := none

def pool0 : Array CpInfo := pool [(5, u "<init>"), (0, u "()V"), (1, .class_ 10), (1, u "java/lang/Object")] 113

def k0m0 : Method := { name := "<init>", desc := "()V", sig := { parameters := [], returnType := none }, accessFlags := 1, code := none }
/-- java/lang/Object -/
def k0 : Class := { plain "java/lang/Object" none with
  accessFlags := 33
  interfaces := #[]
  cf := some (fileOf pool0 8 #[] #[{ accessFlags := 1, nameIndex := 5, descriptorIndex := 6, attributes := #[] }] 33 0 #[] #[])
  fields := #[]
  methods := #[k0m0]
  instanceTypes := #[]
  staticTypes := #[]
  resolved := Array.replicate 124 none
  statics := none }

def pool1 : Array CpInfo := pool [(2, .class_ 4), (1, u "java/lang/Object"), (0, u "<init>"), (0, u "()V"), (0, .integer 2147483647), (0, .fieldref 9 10), (0, .class_ 11), (0, .nameAndType 12 13), (0, u "com/example/haversack/haversack/BagItVersion"), (0, u "V0_93"), (0, u "Lcom/example/haversack/haversack/BagItVersion;"), (0, .fieldref 9 15), (0, .nameAndType 16 13), (0, u "V0_94"), (0, .fieldref 9 18), (0, .nameAndType 19 13), (0, u "V0_95"), (0, .fieldref 9 21), (0, .nameAndType 22 13), (0, u "V0_96"), (0, .fieldref 9 24), (0, .nameAndType 25 13), (0, u "V0_97"), (0, .fieldref 9 27), (0, .nameAndType 28 13), (0, u "V1_0"), (0, .methodref 30 31), (0, .class_ 32), (0, .nameAndType 33 34), (0, u "com/example/haversack/haversack/BagItVersionForbidsRepeatedEntriesPinLaw"), (0, u "pick"), (0, u "(I)Lcom/example/haversack/haversack/BagItVersion;"), (0, .methodref 9 36), (0, .nameAndType 37 38), (0, u "forbidsRepeatedEntries"), (0, u "()Z"), (0, .methodref 9 40), (0, .nameAndType 41 42), (0, u "number"), (0, u "()Ljava/lang/String;"), (0, .string 44), (0, u "1.0"), (0, .methodref 46 47), (0, .class_ 48), (0, .nameAndType 49 50), (0, u "java/lang/String"), (0, u "equals"), (0, u "(Ljava/lang/Object;)Z"), (3, u "law"), (0, u "(I)Z")] 2

def k1m0 : Method := { name := "<init>", desc := "()V", sig := { parameters := [], returnType := none }, accessFlags := 1, code := none }
def k1c1 : Code := { maxStack := 2, maxLocals := 2, code := method_2_code, exceptionTable := #[], attributes := #[] }
def k1m1 : Method := { name := "pick", desc := "(I)Lcom/example/haversack/haversack/BagItVersion;", sig := { parameters := [.int], returnType := some (.object "com/example/haversack/haversack/BagItVersion") }, accessFlags := 10, code := some k1c1 }
def k1c2 : Code := { maxStack := 2, maxLocals := 4, code := code, exceptionTable := #[], attributes := #[] }
def k1m2 : Method := { name := "law", desc := "(I)Z", sig := { parameters := [.int], returnType := some .boolean }, accessFlags := 9, code := some k1c2 }
/-- com/example/haversack/haversack/BagItVersionForbidsRepeatedEntriesPinLaw -/
def k1 : Class := { plain "com/example/haversack/haversack/BagItVersionForbidsRepeatedEntriesPinLaw" (some 0) with
  accessFlags := 49
  interfaces := #[]
  cf := some (fileOf pool1 30 #[] #[{ accessFlags := 1, nameIndex := 5, descriptorIndex := 6, attributes := #[] }, { accessFlags := 10, nameIndex := 33, descriptorIndex := 34, attributes := #[] }, { accessFlags := 9, nameIndex := 54, descriptorIndex := 55, attributes := #[] }] 49 2 #[] #[])
  fields := #[]
  methods := #[k1m0, k1m1, k1m2]
  instanceTypes := #[]
  staticTypes := #[]
  resolved := Array.replicate 58 none
  statics := none }

def pool2 : Array CpInfo := pool [(1, .class_ 2), (0, u "java/lang/constant/Constable"), (0, .class_ 4), (0, u "java/lang/Object")] 6

/-- java/lang/constant/Constable -/
def k2 : Class := { plain "java/lang/constant/Constable" (some 0) with
  accessFlags := 1537
  interfaces := #[]
  cf := some (fileOf pool2 1 #[] #[] 1537 3 #[] #[])
  fields := #[]
  methods := #[]
  instanceTypes := #[]
  staticTypes := #[]
  resolved := Array.replicate 11 none
  statics := none }

def pool3 : Array CpInfo := pool [(1, .class_ 2), (0, u "java/lang/Comparable"), (0, .class_ 4), (0, u "java/lang/Object")] 7

/-- java/lang/Comparable -/
def k3 : Class := { plain "java/lang/Comparable" (some 0) with
  accessFlags := 1537
  interfaces := #[]
  cf := some (fileOf pool3 1 #[] #[] 1537 3 #[] #[])
  fields := #[]
  methods := #[]
  instanceTypes := #[]
  staticTypes := #[]
  resolved := Array.replicate 12 none
  statics := none }

def pool4 : Array CpInfo := pool [(1, .class_ 2), (0, u "java/io/Serializable"), (0, .class_ 4), (0, u "java/lang/Object")] 2

/-- java/io/Serializable -/
def k4 : Class := { plain "java/io/Serializable" (some 0) with
  accessFlags := 1537
  interfaces := #[]
  cf := some (fileOf pool4 1 #[] #[] 1537 3 #[] #[])
  fields := #[]
  methods := #[]
  instanceTypes := #[]
  staticTypes := #[]
  resolved := Array.replicate 7 none
  statics := none }

def pool5 : Array CpInfo := pool [(2, .class_ 4), (1, u "java/lang/Enum"), (0, u "name"), (0, u "Ljava/lang/String;"), (2, u "ordinal"), (0, u "I"), (1, .class_ 14), (1, u "java/lang/Object"), (4, u "hash"), (86, .class_ 108), (1, u "java/lang/Enum$EnumDesc"), (2, .class_ 112), (0, u "java/lang/constant/Constable"), (0, .class_ 114), (0, u "java/lang/Comparable"), (0, .class_ 116), (0, u "java/io/Serializable")] 87

/-- java/lang/Enum -/
def k5 : Class := { plain "java/lang/Enum" (some 0) with
  accessFlags := 1057
  interfaces := #[2, 3, 4]
  cf := some (fileOf pool5 2 #[.nestMembers #[106]] #[] 1057 12 #[111, 113, 115] #[{ accessFlags := 18, nameIndex := 5, descriptorIndex := 6, attributes := #[] }, { accessFlags := 18, nameIndex := 9, descriptorIndex := 10, attributes := #[] }, { accessFlags := 2, nameIndex := 19, descriptorIndex := 10, attributes := #[] }])
  fields := #[{ name := "name", type := (.object "java/lang/String"), accessFlags := 18, slot := 0, constantValue := 0 }, { name := "ordinal", type := .int, accessFlags := 18, slot := 1, constantValue := 0 }, { name := "hash", type := .int, accessFlags := 2, slot := 2, constantValue := 0 }]
  methods := #[]
  instanceTypes := #[(.object "java/lang/String"), .int, .int]
  staticTypes := #[]
  resolved := Array.replicate 204 none
  statics := none }

def pool6 : Array CpInfo := pool [(1, .class_ 2), (0, u "com/example/haversack/haversack/BagItVersion"), (2, u "V0_93"), (0, u "Lcom/example/haversack/haversack/BagItVersion;"), (2, u "V0_94"), (2, u "V0_95"), (2, u "V0_96"), (2, u "V0_97"), (0, .fieldref 1 20), (0, .nameAndType 21 6), (0, u "V1_0"), (2, u "$VALUES"), (0, u "[Lcom/example/haversack/haversack/BagItVersion;"), (6, .class_ 34), (1, u "java/lang/Enum"), (6, .fieldref 1 42), (0, .nameAndType 43 44), (0, u "number"), (0, u "Ljava/lang/String;"), (70, u "NEWEST"), (6, u "()Ljava/lang/String;"), (7, u "()Z"), (0, u "forbidsRepeatedEntries")] 6

def k6c0 : Code := { maxStack := 1, maxLocals := 1, code := prog_12_method_4_code, exceptionTable := #[], attributes := #[] }
def k6m0 : Method := { name := "number", desc := "()Ljava/lang/String;", sig := { parameters := [], returnType := some (.object "java/lang/String") }, accessFlags := 0, code := some k6c0 }
def k6c1 : Code := { maxStack := 2, maxLocals := 1, code := prog_12_method_9_code, exceptionTable := #[], attributes := #[] }
def k6m1 : Method := { name := "forbidsRepeatedEntries", desc := "()Z", sig := { parameters := [], returnType := some .boolean }, accessFlags := 0, code := some k6c1 }
/-- com/example/haversack/haversack/BagItVersion -/
def k6 : Class := { plain "com/example/haversack/haversack/BagItVersion" (some 5) with
  accessFlags := 16432
  interfaces := #[]
  cf := some (fileOf pool6 1 #[] #[{ accessFlags := 0, nameIndex := 43, descriptorIndex := 122, attributes := #[] }, { accessFlags := 0, nameIndex := 131, descriptorIndex := 130, attributes := #[] }] 16432 32 #[] #[{ accessFlags := 16409, nameIndex := 5, descriptorIndex := 6, attributes := #[] }, { accessFlags := 16409, nameIndex := 9, descriptorIndex := 6, attributes := #[] }, { accessFlags := 16409, nameIndex := 12, descriptorIndex := 6, attributes := #[] }, { accessFlags := 16409, nameIndex := 15, descriptorIndex := 6, attributes := #[] }, { accessFlags := 16409, nameIndex := 18, descriptorIndex := 6, attributes := #[] }, { accessFlags := 16409, nameIndex := 21, descriptorIndex := 6, attributes := #[] }, { accessFlags := 24, nameIndex := 115, descriptorIndex := 6, attributes := #[] }, { accessFlags := 18, nameIndex := 43, descriptorIndex := 44, attributes := #[] }, { accessFlags := 4122, nameIndex := 24, descriptorIndex := 25, attributes := #[] }])
  fields := #[{ name := "V0_93", type := (.object "com/example/haversack/haversack/BagItVersion"), accessFlags := 16409, slot := 0, constantValue := 0 }, { name := "V0_94", type := (.object "com/example/haversack/haversack/BagItVersion"), accessFlags := 16409, slot := 1, constantValue := 0 }, { name := "V0_95", type := (.object "com/example/haversack/haversack/BagItVersion"), accessFlags := 16409, slot := 2, constantValue := 0 }, { name := "V0_96", type := (.object "com/example/haversack/haversack/BagItVersion"), accessFlags := 16409, slot := 3, constantValue := 0 }, { name := "V0_97", type := (.object "com/example/haversack/haversack/BagItVersion"), accessFlags := 16409, slot := 4, constantValue := 0 }, { name := "V1_0", type := (.object "com/example/haversack/haversack/BagItVersion"), accessFlags := 16409, slot := 5, constantValue := 0 }, { name := "NEWEST", type := (.object "com/example/haversack/haversack/BagItVersion"), accessFlags := 24, slot := 6, constantValue := 0 }, { name := "number", type := (.object "java/lang/String"), accessFlags := 18, slot := 3, constantValue := 0 }, { name := "$VALUES", type := (.array (.object "com/example/haversack/haversack/BagItVersion")), accessFlags := 4122, slot := 7, constantValue := 0 }]
  methods := #[k6m0, k6m1]
  instanceTypes := #[(.object "java/lang/String"), .int, .int, (.object "java/lang/String")]
  staticTypes := #[(.object "com/example/haversack/haversack/BagItVersion"), (.object "com/example/haversack/haversack/BagItVersion"), (.object "com/example/haversack/haversack/BagItVersion"), (.object "com/example/haversack/haversack/BagItVersion"), (.object "com/example/haversack/haversack/BagItVersion"), (.object "com/example/haversack/haversack/BagItVersion"), (.object "com/example/haversack/haversack/BagItVersion"), (.array (.object "com/example/haversack/haversack/BagItVersion"))]
  resolved := Array.replicate 138 none
  statics := some 0 }

def pool7 : Array CpInfo := pool [(2, .class_ 4), (1, u "java/lang/CharSequence"), (42, .class_ 48), (0, u "java/lang/CharSequence$1CodePointIterator"), (10, .class_ 60), (0, u "java/lang/CharSequence$1CharIterator"), (5, .class_ 67), (0, u "java/lang/Object")] 63

/-- java/lang/CharSequence -/
def k7 : Class := { plain "java/lang/CharSequence" (some 0) with
  accessFlags := 1537
  interfaces := #[]
  cf := some (fileOf pool7 2 #[.nestMembers #[47, 59]] #[] 1537 66 #[] #[])
  fields := #[]
  methods := #[]
  instanceTypes := #[]
  staticTypes := #[]
  resolved := Array.replicate 131 none
  statics := none }

def pool8 : Array CpInfo := pool [(1, .class_ 2), (0, u "java/lang/constant/ConstantDesc"), (0, .class_ 4), (0, u "java/lang/Object")] 32

/-- java/lang/constant/ConstantDesc -/
def k8 : Class := { plain "java/lang/constant/ConstantDesc" (some 0) with
  accessFlags := 1537
  interfaces := #[]
  cf := some (fileOf pool8 1 #[] #[] 1537 3 #[] #[])
  fields := #[]
  methods := #[]
  instanceTypes := #[]
  staticTypes := #[]
  resolved := Array.replicate 37 none
  statics := none }

def pool9 : Array CpInfo := pool [(2, .class_ 4), (1, u "java/lang/Object"), (0, u "<init>"), (0, u "()V"), (2, .fieldref 10 11), (0, .class_ 12), (0, .nameAndType 13 14), (0, u "java/lang/String"), (0, u "value"), (0, u "[B"), (0, .fieldref 10 16), (0, .nameAndType 17 18), (0, u "coder"), (0, u "B"), (2, u "hash"), (0, u "I"), (2, u "hashIsZero"), (0, u "Z"), (11, .fieldref 10 39), (0, .nameAndType 40 26), (0, u "COMPACT_STRINGS"), (66, .class_ 109), (1, u "java/lang/StringLatin1"), (431, .methodref 107 542), (0, .nameAndType 543 544), (0, u "equals"), (0, u "([B[B)Z"), (28, u "(Ljava/lang/Object;)Z"), (1, .class_ 576), (0, u "java/lang/CharSequence"), (22, u "CASE_INSENSITIVE_ORDER"), (0, u "Ljava/util/Comparator;"), (500, u "serialPersistentFields"), (0, u "[Ljava/io/ObjectStreamField;"), (0, .class_ 1104), (0, u "java/lang/String$CaseInsensitiveComparator"), (1, .class_ 1107), (0, u "java/io/Serializable"), (0, .class_ 1109), (0, u "java/lang/Comparable"), (0, .class_ 1111), (0, u "java/lang/constant/Constable"), (0, .class_ 1113), (0, u "java/lang/constant/ConstantDesc"), (2, u "serialVersionUID"), (0, u "J"), (3, u "REPL"), (0, u "C"), (2, u "LATIN1"), (1, u "UTF16")] 323

def k9m0 : Method := { name := "<init>", desc := "()V", sig := { parameters := [], returnType := none }, accessFlags := 1, code := none }
def k9c1 : Code := { maxStack := 2, maxLocals := 3, code := jdk_42_method_66_code, exceptionTable := #[], attributes := #[] }
def k9m1 : Method := { name := "equals", desc := "(Ljava/lang/Object;)Z", sig := { parameters := [(.object "java/lang/Object")], returnType := some .boolean }, accessFlags := 1, code := some k9c1 }
/-- java/lang/String -/
def k9 : Class := { plain "java/lang/String" (some 0) with
  accessFlags := 49
  interfaces := #[4, 3, 7, 2, 8]
  cf := some (fileOf pool9 10 #[.nestMembers #[1103]] #[{ accessFlags := 1, nameIndex := 5, descriptorIndex := 6, attributes := #[] }, { accessFlags := 1, nameIndex := 543, descriptorIndex := 573, attributes := #[] }] 49 2 #[1106, 1108, 575, 1110, 1112] #[{ accessFlags := 18, nameIndex := 13, descriptorIndex := 14, attributes := #[] }, { accessFlags := 18, nameIndex := 17, descriptorIndex := 18, attributes := #[] }, { accessFlags := 2, nameIndex := 21, descriptorIndex := 22, attributes := #[] }, { accessFlags := 2, nameIndex := 25, descriptorIndex := 26, attributes := #[] }, { accessFlags := 26, nameIndex := 1116, descriptorIndex := 1117, attributes := #[] }, { accessFlags := 24, nameIndex := 40, descriptorIndex := 26, attributes := #[] }, { accessFlags := 26, nameIndex := 1101, descriptorIndex := 1102, attributes := #[] }, { accessFlags := 26, nameIndex := 1121, descriptorIndex := 1122, attributes := #[] }, { accessFlags := 25, nameIndex := 599, descriptorIndex := 600, attributes := #[] }, { accessFlags := 24, nameIndex := 1125, descriptorIndex := 18, attributes := #[] }, { accessFlags := 24, nameIndex := 1127, descriptorIndex := 18, attributes := #[] }])
  fields := #[{ name := "value", type := (.array .byte), accessFlags := 18, slot := 0, constantValue := 0 }, { name := "coder", type := .byte, accessFlags := 18, slot := 1, constantValue := 0 }, { name := "hash", type := .int, accessFlags := 2, slot := 2, constantValue := 0 }, { name := "hashIsZero", type := .boolean, accessFlags := 2, slot := 3, constantValue := 0 }, { name := "serialVersionUID", type := .long, accessFlags := 26, slot := 0, constantValue := 0 }, { name := "COMPACT_STRINGS", type := .boolean, accessFlags := 24, slot := 1, constantValue := 0 }, { name := "serialPersistentFields", type := (.array (.object "java/io/ObjectStreamField")), accessFlags := 26, slot := 2, constantValue := 0 }, { name := "REPL", type := .char, accessFlags := 26, slot := 3, constantValue := 0 }, { name := "CASE_INSENSITIVE_ORDER", type := (.object "java/util/Comparator"), accessFlags := 25, slot := 4, constantValue := 0 }, { name := "LATIN1", type := .byte, accessFlags := 24, slot := 5, constantValue := 0 }, { name := "UTF16", type := .byte, accessFlags := 24, slot := 6, constantValue := 0 }]
  methods := #[k9m0, k9m1]
  instanceTypes := #[(.array .byte), .byte, .int, .boolean]
  staticTypes := #[.long, .boolean, (.array (.object "java/io/ObjectStreamField")), .char, (.object "java/util/Comparator"), .byte, .byte]
  resolved := Array.replicate 1451 none
  statics := some 1 }

def pool10 : Array CpInfo := pool [(4, .class_ 6), (1, u "java/lang/Object"), (0, u "<init>"), (0, u "()V"), (5, .class_ 16), (1, u "java/lang/StringLatin1"), (104, u "$assertionsDisabled"), (0, u "Z"), (98, .class_ 223), (1, u "java/lang/StringLatin1$LinesSpliterator"), (57, u "equals"), (0, u "([B[B)Z"), (107, .class_ 391), (0, u "java/lang/StringLatin1$CharsSpliterator")] 3

def k10m0 : Method := { name := "<init>", desc := "()V", sig := { parameters := [], returnType := none }, accessFlags := 0, code := none }
def k10c1 : Code := { maxStack := 3, maxLocals := 3, code := jdk_43_method_13_code, exceptionTable := #[], attributes := #[] }
def k10m1 : Method := { name := "equals", desc := "([B[B)Z", sig := { parameters := [(.array .byte), (.array .byte)], returnType := some .boolean }, accessFlags := 9, code := some k10c1 }
/-- java/lang/StringLatin1 -/
def k10 : Class := { plain "java/lang/StringLatin1" (some 0) with
  accessFlags := 48
  interfaces := #[]
  cf := some (fileOf pool10 14 #[.nestMembers #[390, 221]] #[{ accessFlags := 0, nameIndex := 7, descriptorIndex := 8, attributes := #[] }, { accessFlags := 9, nameIndex := 281, descriptorIndex := 282, attributes := #[] }] 48 4 #[] #[{ accessFlags := 4120, nameIndex := 121, descriptorIndex := 122, attributes := #[] }])
  fields := #[{ name := "$assertionsDisabled", type := .boolean, accessFlags := 4120, slot := 0, constantValue := 0 }]
  methods := #[k10m0, k10m1]
  instanceTypes := #[]
  staticTypes := #[.boolean]
  resolved := Array.replicate 395 none
  statics := none }

def pool11 : Array CpInfo := pool [(2, .class_ 4), (1, u "java/lang/Object"), (0, u "<init>"), (0, u "()V"), (17, .class_ 26), (1, u "jdk/internal/util/Preconditions"), (28, .class_ 56), (0, u "jdk/internal/util/Preconditions$4"), (57, .class_ 115), (0, u "jdk/internal/util/Preconditions$1"), (7, u "SIOOBE_FORMATTER"), (0, u "Ljava/util/function/BiFunction;"), (0, .class_ 126), (0, u "jdk/internal/util/Preconditions$2"), (3, u "AIOOBE_FORMATTER"), (0, .class_ 132), (0, u "jdk/internal/util/Preconditions$3"), (3, u "IOOBE_FORMATTER")] 57

def k11m0 : Method := { name := "<init>", desc := "()V", sig := { parameters := [], returnType := none }, accessFlags := 1, code := none }
/-- jdk/internal/util/Preconditions -/
def k11 : Class := { plain "jdk/internal/util/Preconditions" (some 0) with
  accessFlags := 33
  interfaces := #[]
  cf := some (fileOf pool11 24 #[.nestMembers #[55, 131, 125, 114]] #[{ accessFlags := 1, nameIndex := 5, descriptorIndex := 6, attributes := #[] }] 33 2 #[] #[{ accessFlags := 25, nameIndex := 123, descriptorIndex := 124, attributes := #[] }, { accessFlags := 25, nameIndex := 130, descriptorIndex := 124, attributes := #[] }, { accessFlags := 25, nameIndex := 136, descriptorIndex := 124, attributes := #[] }])
  fields := #[{ name := "SIOOBE_FORMATTER", type := (.object "java/util/function/BiFunction"), accessFlags := 25, slot := 0, constantValue := 0 }, { name := "AIOOBE_FORMATTER", type := (.object "java/util/function/BiFunction"), accessFlags := 25, slot := 1, constantValue := 0 }, { name := "IOOBE_FORMATTER", type := (.object "java/util/function/BiFunction"), accessFlags := 25, slot := 2, constantValue := 0 }]
  methods := #[k11m0]
  instanceTypes := #[]
  staticTypes := #[(.object "java/util/function/BiFunction"), (.object "java/util/function/BiFunction"), (.object "java/util/function/BiFunction")]
  resolved := Array.replicate 194 none
  statics := some 2 }

def pool12 : Array CpInfo := pool [(9, u "<init>"), (6, .class_ 18), (1, u "java/lang/Object"), (0, u "()V"), (1, .class_ 23), (1, u "jdk/internal/util/ArraysSupport"), (0, u "LOG2_ARRAY_LONG_INDEX_SCALE"), (0, u "I"), (2, u "U"), (0, u "Ljdk/internal/misc/Unsafe;"), (8, u "BIG_ENDIAN"), (0, u "Z"), (8, u "LOG2_BYTE_BIT_SIZE"), (4, u "LOG2_ARRAY_INT_INDEX_SCALE"), (54, u "JLA"), (0, u "Ljdk/internal/access/JavaLangAccess;"), (11, u "LOG2_ARRAY_BOOLEAN_INDEX_SCALE"), (9, u "LOG2_ARRAY_BYTE_INDEX_SCALE"), (5, u "LOG2_ARRAY_CHAR_INDEX_SCALE"), (5, u "LOG2_ARRAY_SHORT_INDEX_SCALE"), (18, u "LOG2_ARRAY_FLOAT_INDEX_SCALE"), (24, u "LOG2_ARRAY_DOUBLE_INDEX_SCALE"), (89, u "T_BOOLEAN"), (2, u "T_CHAR"), (1, u "T_FLOAT"), (1, u "T_DOUBLE"), (1, u "T_BYTE"), (1, u "T_SHORT"), (1, u "T_INT"), (1, u "T_LONG"), (1, u "SOFT_MAX_ARRAY_LENGTH")] 83

def k12m0 : Method := { name := "<init>", desc := "()V", sig := { parameters := [], returnType := none }, accessFlags := 2, code := none }
/-- jdk/internal/util/ArraysSupport -/
def k12 : Class := { plain "jdk/internal/util/ArraysSupport" (some 0) with
  accessFlags := 33
  interfaces := #[]
  cf := some (fileOf pool12 21 #[] #[{ accessFlags := 2, nameIndex := 9, descriptorIndex := 19, attributes := #[] }] 33 16 #[] #[{ accessFlags := 24, nameIndex := 28, descriptorIndex := 29, attributes := #[] }, { accessFlags := 26, nameIndex := 38, descriptorIndex := 39, attributes := #[] }, { accessFlags := 25, nameIndex := 121, descriptorIndex := 25, attributes := #[] }, { accessFlags := 25, nameIndex := 131, descriptorIndex := 25, attributes := #[] }, { accessFlags := 25, nameIndex := 137, descriptorIndex := 25, attributes := #[] }, { accessFlags := 25, nameIndex := 143, descriptorIndex := 25, attributes := #[] }, { accessFlags := 25, nameIndex := 53, descriptorIndex := 25, attributes := #[] }, { accessFlags := 25, nameIndex := 24, descriptorIndex := 25, attributes := #[] }, { accessFlags := 25, nameIndex := 162, descriptorIndex := 25, attributes := #[] }, { accessFlags := 25, nameIndex := 187, descriptorIndex := 25, attributes := #[] }, { accessFlags := 26, nameIndex := 48, descriptorIndex := 25, attributes := #[] }, { accessFlags := 25, nameIndex := 277, descriptorIndex := 25, attributes := #[] }, { accessFlags := 25, nameIndex := 280, descriptorIndex := 25, attributes := #[] }, { accessFlags := 25, nameIndex := 282, descriptorIndex := 25, attributes := #[] }, { accessFlags := 25, nameIndex := 284, descriptorIndex := 25, attributes := #[] }, { accessFlags := 25, nameIndex := 286, descriptorIndex := 25, attributes := #[] }, { accessFlags := 25, nameIndex := 288, descriptorIndex := 25, attributes := #[] }, { accessFlags := 25, nameIndex := 290, descriptorIndex := 25, attributes := #[] }, { accessFlags := 25, nameIndex := 292, descriptorIndex := 25, attributes := #[] }, { accessFlags := 26, nameIndex := 108, descriptorIndex := 109, attributes := #[] }, { accessFlags := 25, nameIndex := 294, descriptorIndex := 25, attributes := #[] }])
  fields := #[{ name := "U", type := (.object "jdk/internal/misc/Unsafe"), accessFlags := 24, slot := 0, constantValue := 0 }, { name := "BIG_ENDIAN", type := .boolean, accessFlags := 26, slot := 1, constantValue := 0 }, { name := "LOG2_ARRAY_BOOLEAN_INDEX_SCALE", type := .int, accessFlags := 25, slot := 2, constantValue := 0 }, { name := "LOG2_ARRAY_BYTE_INDEX_SCALE", type := .int, accessFlags := 25, slot := 3, constantValue := 0 }, { name := "LOG2_ARRAY_CHAR_INDEX_SCALE", type := .int, accessFlags := 25, slot := 4, constantValue := 0 }, { name := "LOG2_ARRAY_SHORT_INDEX_SCALE", type := .int, accessFlags := 25, slot := 5, constantValue := 0 }, { name := "LOG2_ARRAY_INT_INDEX_SCALE", type := .int, accessFlags := 25, slot := 6, constantValue := 0 }, { name := "LOG2_ARRAY_LONG_INDEX_SCALE", type := .int, accessFlags := 25, slot := 7, constantValue := 0 }, { name := "LOG2_ARRAY_FLOAT_INDEX_SCALE", type := .int, accessFlags := 25, slot := 8, constantValue := 0 }, { name := "LOG2_ARRAY_DOUBLE_INDEX_SCALE", type := .int, accessFlags := 25, slot := 9, constantValue := 0 }, { name := "LOG2_BYTE_BIT_SIZE", type := .int, accessFlags := 26, slot := 10, constantValue := 0 }, { name := "T_BOOLEAN", type := .int, accessFlags := 25, slot := 11, constantValue := 0 }, { name := "T_CHAR", type := .int, accessFlags := 25, slot := 12, constantValue := 0 }, { name := "T_FLOAT", type := .int, accessFlags := 25, slot := 13, constantValue := 0 }, { name := "T_DOUBLE", type := .int, accessFlags := 25, slot := 14, constantValue := 0 }, { name := "T_BYTE", type := .int, accessFlags := 25, slot := 15, constantValue := 0 }, { name := "T_SHORT", type := .int, accessFlags := 25, slot := 16, constantValue := 0 }, { name := "T_INT", type := .int, accessFlags := 25, slot := 17, constantValue := 0 }, { name := "T_LONG", type := .int, accessFlags := 25, slot := 18, constantValue := 0 }, { name := "JLA", type := (.object "jdk/internal/access/JavaLangAccess"), accessFlags := 26, slot := 19, constantValue := 0 }, { name := "SOFT_MAX_ARRAY_LENGTH", type := .int, accessFlags := 25, slot := 20, constantValue := 0 }]
  methods := #[k12m0]
  instanceTypes := #[]
  staticTypes := #[(.object "jdk/internal/misc/Unsafe"), .boolean, .int, .int, .int, .int, .int, .int, .int, .int, .int, .int, .int, .int, .int, .int, .int, .int, .int, (.object "jdk/internal/access/JavaLangAccess"), .int]
  resolved := Array.replicate 378 none
  statics := none }

def pool13 : Array CpInfo := pool [(1, u "java/lang/Cloneable"), (0, .class_ 1), (0, u "java/lang/Object"), (0, .class_ 3)] 3

/-- java/lang/Cloneable -/
def k13 : Class := { plain "java/lang/Cloneable" (some 0) with
  accessFlags := 1537
  interfaces := #[]
  cf := some (fileOf pool13 2 #[] #[] 1537 4 #[] #[])
  fields := #[]
  methods := #[]
  instanceTypes := #[]
  staticTypes := #[]
  resolved := Array.replicate 8 none
  statics := none }

/-- the primitive byte -/
def k14 : Class := { plain "byte" none with kind := .primitive 'B', accessFlags := 0x411 }
/-- [B -/
def k15 : Class := { plain "[B" (some 0) with kind := .array 14 .byte, interfaces := #[13, 4], accessFlags := 1041 }

/-- the primitive int -/
def k16 : Class := { plain "int" none with kind := .primitive 'I', accessFlags := 0x411 }
/-- [I -/
def k17 : Class := { plain "[I" (some 0) with kind := .array 16 .int, interfaces := #[13, 4], accessFlags := 1041 }

def heap : Heap := #[{ cls := 6, slots := #[.ref 3, .ref 4, .ref 5, .ref 6, .ref 7, .ref 8, .null, .null], vm := .statics 6 },
  { cls := 9, slots := #[.long 0, .int 1, .null, .int 0, .null, .int 0, .int 0], vm := .statics 9 },
  { cls := 11, slots := #[.null, .null, .null], vm := .statics 11 },
  { cls := 6, slots := #[.null, .int 0, .int 0, .ref 9], vm := .none },
  { cls := 6, slots := #[.null, .int 1, .int 0, .ref 10], vm := .none },
  { cls := 6, slots := #[.null, .int 2, .int 0, .ref 11], vm := .none },
  { cls := 6, slots := #[.null, .int 3, .int 0, .ref 12], vm := .none },
  { cls := 6, slots := #[.null, .int 4, .int 0, .ref 13], vm := .none },
  { cls := 6, slots := #[.null, .int 5, .int 0, .ref 14], vm := .none },
  { cls := 9, slots := #[.ref 15, .int 0, .int 0, .int 0], vm := .none },
  { cls := 9, slots := #[.ref 16, .int 0, .int 0, .int 0], vm := .none },
  { cls := 9, slots := #[.ref 17, .int 0, .int 0, .int 0], vm := .none },
  { cls := 9, slots := #[.ref 18, .int 0, .int 0, .int 0], vm := .none },
  { cls := 9, slots := #[.ref 19, .int 0, .int 0, .int 0], vm := .none },
  { cls := 9, slots := #[.ref 20, .int 0, .int 0, .int 0], vm := .none },
  { cls := 15, slots := #[.int 48, .int 46, .int 57, .int 51], vm := .none },
  { cls := 15, slots := #[.int 48, .int 46, .int 57, .int 52], vm := .none },
  { cls := 15, slots := #[.int 48, .int 46, .int 57, .int 53], vm := .none },
  { cls := 15, slots := #[.int 48, .int 46, .int 57, .int 54], vm := .none },
  { cls := 15, slots := #[.int 48, .int 46, .int 57, .int 55], vm := .none },
  { cls := 15, slots := #[.int 49, .int 46, .int 48], vm := .none }]
def classes : Array Class := #[k0, k1, k2, k3, k4, k5, k6, k7, k8, k9, k10, k11, k12, k13, k14, k15, k16, k17]
def interned : List (Array UInt16 × Addr) := []
def slotsUsed : Nat := 89
def theMethod : MethodId := ⟨1, 2⟩
def args0 : Array Value := #[.int 5]
def aboutOver (below : List Frame) : State where
  vm := { classes := classes, interned := interned.toArray }
  heap := heap
  slotsUsed := slotsUsed
  threads := #[{ frames := .invoking theMethod args0 :: below }]
def below0 : List Frame := [.native { method := ⟨0, 0⟩, args := #[] }]
def about1 : State := aboutOver below0
def p0 : Program := .bare "" "" ""
def e0 : Env := launch0.env 0 0 0
theorem w_frames : about1.frames = Frame.invoking theMethod args0 :: below0 := rfl
set_option maxRecDepth 65536 in
theorem w_args : argsFit about1.vm theMethod args0 = true := by decide +kernel
set_option maxRecDepth 65536 in
theorem w_heap : heapFits about1 = true := by decide +kernel
set_option maxRecDepth 65536 in
theorem w_runnable : about1.curStatus? = some .runnable := by decide +kernel
set_option maxRecDepth 65536 in
theorem w_alone : about1.alone = true := by decide +kernel
set_option maxRecDepth 65536 in
theorem w_named : about1.methodNamed? x = some theMethod := by decide +kernel
set_option maxRecDepth 65536 in
theorem w_hears : about1.hears theMethod below0 = true := by decide +kernel
set_option maxRecDepth 65536 in
theorem w_ripe : about1.ripe theMethod args0 below0 = true := by decide +kernel
theorem w_running : about1.status = .running := rfl
set_option maxRecDepth 65536 in
theorem w_room : about1.hasRoom e0.platform room_1 = true :=
  launch0.hasRoom_least _ room_1 (by decide +kernel) (by decide +kernel) (by decide +kernel) (by decide +kernel) (by decide +kernel) (by decide +kernel)
theorem allAtoms_all (ts : List Jvm.Cond) (a : Array Jvm.Value) (st : Jvm.State) : (allAtoms ts).before a st = ts.all (fun c => c.before a st) := by
  induction ts with
  | nil => rfl
  | cons c t ih =>
    show (Jvm.Cond.and c (allAtoms t)).before a st = _
    rw [Jvm.Cond.before_and, ih, List.all_cons]
def words1 : List Jvm.Cond := Jvm.Cond.code x code maxLocals ret :: tables_1
/-- a 'code' word, met by the world's own term for the bytes: nothing is compared byte by byte -/
theorem code_word {y : MethodName} {bytes : ByteArray} {mx : Nat} {rt : Option FieldType} {a : Array Value} {s : State} {m : MethodId} {meth : Method} {c : Code} (h1 : s.methodNamed? y = some m) (h2 : s.vm.method? m = some meth) (h3 : meth.code = some c) (h4 : c.code = bytes)
    (h5 : (c.maxLocals == mx && c.exceptionTable.isEmpty && decide (c.maxStack ≤ mostOperands) && decide (meth.sig.returnType = rt) && !meth.locks && decide (parseMethodDescriptor y.desc = some meth.sig)) = true) : (Jvm.Cond.code y bytes mx rt).before a s = true := by
  simp only [Bool.and_eq_true, beq_iff_eq, Bool.not_eq_true', decide_eq_true_eq] at h5
  obtain ⟨⟨⟨⟨⟨g1, g2⟩, g3⟩, g4⟩, g5⟩, g6⟩ := h5
  simp [Cond.before, Cond.holds, Cond.value, h1, h2, h3, h4, g1, g2, g3, g4, g5, g6]
def isCode : Jvm.Cond → Bool
  | .code _ _ _ _ => true
  | _ => false
theorem all_split {L : List Jvm.Cond} {P : Jvm.Cond → Bool} (h1 : L.all (fun c => isCode c || P c) = true) (h2 : ∀ c ∈ L.filter isCode, P c = true) : L.all P = true := by
  refine List.all_eq_true.mpr fun c hc => ?_
  have h := List.all_eq_true.mp h1 c hc
  rcases Bool.eq_false_or_eq_true (isCode c) with hi | hi
  · exact h2 c (List.mem_filter.mpr ⟨hc, hi⟩)
  · simpa [hi] using h
set_option maxRecDepth 65536 in
theorem w_c0 : (Jvm.Cond.code x code maxLocals ret).before args0 about1 = true := code_word (m := ⟨1, 2⟩) (meth := k1m2) (c := k1c2) (by decide +kernel) rfl rfl rfl (by decide +kernel)
set_option maxRecDepth 65536 in
theorem w_c1 : (Jvm.Cond.code ({ cls := "com/example/haversack/haversack/BagItVersionForbidsRepeatedEntriesPinLaw", name := "pick", desc := "(I)Lcom/example/haversack/haversack/BagItVersion;" } : Jvm.MethodName) method_2_code (2 : Nat) (Option.some (Jvm.ClassFile.FieldType.object "com/example/haversack/haversack/BagItVersion"))).before args0 about1 = true := code_word (m := ⟨1, 1⟩) (meth := k1m1) (c := k1c1) (by decide +kernel) rfl rfl rfl (by decide +kernel)
set_option maxRecDepth 65536 in
theorem w_c2 : (Jvm.Cond.code ({ cls := "com/example/haversack/haversack/BagItVersion", name := "forbidsRepeatedEntries", desc := "()Z" } : Jvm.MethodName) prog_12_method_9_code (1 : Nat) (Option.some Jvm.ClassFile.FieldType.boolean)).before args0 about1 = true := code_word (m := ⟨6, 1⟩) (meth := k6m1) (c := k6c1) (by decide +kernel) rfl rfl rfl (by decide +kernel)
set_option maxRecDepth 65536 in
theorem w_c3 : (Jvm.Cond.code ({ cls := "com/example/haversack/haversack/BagItVersion", name := "number", desc := "()Ljava/lang/String;" } : Jvm.MethodName) prog_12_method_4_code (1 : Nat) (Option.some (Jvm.ClassFile.FieldType.object "java/lang/String"))).before args0 about1 = true := code_word (m := ⟨6, 0⟩) (meth := k6m0) (c := k6c0) (by decide +kernel) rfl rfl rfl (by decide +kernel)
set_option maxRecDepth 65536 in
theorem w_c4 : (Jvm.Cond.code ({ cls := "java/lang/String", name := "equals", desc := "(Ljava/lang/Object;)Z" } : Jvm.MethodName) jdk_42_method_66_code (3 : Nat) (Option.some Jvm.ClassFile.FieldType.boolean)).before args0 about1 = true := code_word (m := ⟨9, 1⟩) (meth := k9m1) (c := k9c1) (by decide +kernel) rfl rfl rfl (by decide +kernel)
set_option maxRecDepth 65536 in
theorem w_c5 : (Jvm.Cond.code ({ cls := "java/lang/StringLatin1", name := "equals", desc := "([B[B)Z" } : Jvm.MethodName) jdk_43_method_13_code (3 : Nat) (Option.some Jvm.ClassFile.FieldType.boolean)).before args0 about1 = true := code_word (m := ⟨10, 1⟩) (meth := k10m1) (c := k10c1) (by decide +kernel) rfl rfl rfl (by decide +kernel)
def codes1 : List Jvm.Cond := [Jvm.Cond.code x code maxLocals ret, Jvm.Cond.code ({ cls := "com/example/haversack/haversack/BagItVersionForbidsRepeatedEntriesPinLaw", name := "pick", desc := "(I)Lcom/example/haversack/haversack/BagItVersion;" } : Jvm.MethodName) method_2_code (2 : Nat) (Option.some (Jvm.ClassFile.FieldType.object "com/example/haversack/haversack/BagItVersion")), Jvm.Cond.code ({ cls := "com/example/haversack/haversack/BagItVersion", name := "forbidsRepeatedEntries", desc := "()Z" } : Jvm.MethodName) prog_12_method_9_code (1 : Nat) (Option.some Jvm.ClassFile.FieldType.boolean), Jvm.Cond.code ({ cls := "com/example/haversack/haversack/BagItVersion", name := "number", desc := "()Ljava/lang/String;" } : Jvm.MethodName) prog_12_method_4_code (1 : Nat) (Option.some (Jvm.ClassFile.FieldType.object "java/lang/String")), Jvm.Cond.code ({ cls := "java/lang/String", name := "equals", desc := "(Ljava/lang/Object;)Z" } : Jvm.MethodName) jdk_42_method_66_code (3 : Nat) (Option.some Jvm.ClassFile.FieldType.boolean), Jvm.Cond.code ({ cls := "java/lang/StringLatin1", name := "equals", desc := "([B[B)Z" } : Jvm.MethodName) jdk_43_method_13_code (3 : Nat) (Option.some Jvm.ClassFile.FieldType.boolean)]
set_option maxRecDepth 65536 in
theorem codes_eq : words1.filter isCode = codes1 := rfl
theorem w_codes : ∀ c ∈ words1.filter isCode, c.before args0 about1 = true := by
  rw [codes_eq]
  intro c hc
  simp only [codes1, List.mem_cons, List.not_mem_nil, or_false] at hc
  rcases hc with rfl | rfl | rfl | rfl | rfl | rfl
  · exact w_c0
  · exact w_c1
  · exact w_c2
  · exact w_c3
  · exact w_c4
  · exact w_c5
set_option maxRecDepth 65536 in
theorem w_t1 : (words1.take 24).all (fun c => isCode c || c.before args0 about1) = true := by decide +kernel
set_option maxRecDepth 65536 in
theorem w_t2 : ((words1.drop 24).take 24).all (fun c => isCode c || c.before args0 about1) = true := by decide +kernel
set_option maxRecDepth 65536 in
theorem w_t3 : ((words1.drop 24).drop 24).all (fun c => isCode c || c.before args0 about1) = true := by decide +kernel
theorem w_tables : (allAtoms (Jvm.Cond.code x code maxLocals ret :: tables_1)).before args0 about1 = true := by
  rw [allAtoms_all]
  show words1.all (fun c => c.before args0 about1) = true
  refine all_split ?_ w_codes
  rw [← List.take_append_drop 24 words1, List.all_append, w_t1, ← List.take_append_drop 24 (words1.drop 24), List.all_append, w_t2, w_t3]
  rfl
set_option maxRecDepth 65536 in
theorem w_rest : rest_1_c.before args0 about1 = true := by decide +kernel
set_option maxRecDepth 65536 in
theorem w_case : (Jvm.Cond.and given_1 narrow_1).before args0 about1 = true := by decide +kernel
set_option maxRecDepth 65536 in
theorem w_consts : constsHeld consts_1 about1 := Jvm.Lit.constsHeldB_iff.mp (by decide +kernel)
theorem w_applies : (headSpec (Jvm.Cond.code x code maxLocals ret :: tables_1) room_1).applies x e0.platform about1 = true :=
  (Spec.applies_iff w_frames).mpr ⟨w_running, w_runnable, w_alone, w_named, w_hears, w_ripe, w_room, w_tables⟩
theorem atStart : AtStart classFile x code maxLocals ret World_1 tables_1 room_1 Calls_1 rest_1 Pre_1 launch0 p0 e0 about1 theMethod args0 below0 :=
  ⟨lists_1, trivial, launch0.admits_env _ _ _, launch0.least_env, fairChoices_fair.cas, fairChoices_fair.clock, w_frames, w_args, w_heap, w_applies, ⟨w_consts, trivial⟩, w_rest, w_case⟩
end start1
theorem witness_1 : WitnessClaimed_1 := ⟨start1.p0, start1.e0, start1.about1, start1.theMethod, start1.args0, start1.below0, start1.atStart⟩
end Jvm.Pilot.@@N@@

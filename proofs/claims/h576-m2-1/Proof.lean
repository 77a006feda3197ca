import JvmDerived
import JvmDerived.Pilot.@@N@@Statement
import JvmDerived.Pilot.@@N@@Code
set_option linter.unusedVariables false
set_option linter.unusedSimpArgs false
namespace Jvm.Pilot.@@N@@
open Jvm Jvm.ClassFile Sem Op Lib Jvm.Free Jvm.Stand Jvm.LawKit Jvm.RoadKit Bundle Jvm.Pilot.@@N@@.Jvm.D
/-! the walk in continuation style: 'from U the run comes to an end of which P holds' -/
def OwnGoes (p : Program) (e : Env) (below : List Frame) (P : Outcome → State → Prop) (U : State) : Prop := ∃ s₂ o, Steps p.tables e below U s₂ ∧ s₂.status = .running ∧ Ended s₂ below o ∧ P o s₂
theorem own_pre {p : Program} {e : Env} {below : List Frame} {P : Outcome → State → Prop} {U U' : State} (h : ∀ t, Steps p.tables e below U' t → Steps p.tables e below U t) (k : OwnGoes p e below P U') : OwnGoes p e below P U := by
  obtain ⟨s₂, o, h1, h2⟩ := k
  exact ⟨s₂, o, h _ h1, h2⟩
theorem own_tr {p : Program} {e : Env} {below : List Frame} {P : Outcome → State → Prop} {U U' : State} (h : Steps p.tables e below U U') (k : OwnGoes p e below P U') : OwnGoes p e below P U := own_pre (fun _ q => h.trans q) k
theorem own_ret {p : Program} {l : Launch} {e : Env} {R : Room} {s : State} {m : MethodId} {args : Array Value} {below : List Frame} {meth : Method} {c : Code} {T : State} {locs : List Loc} {cells slots : Nat}
    (X : Stand p l e R s m args below meth c T locs cells slots) (hx : p.tables.exec = Jvm.exec) {pc : Nat} {Ls : Array Slot} {w : Value} {t : FieldType} {i : Instr} {rest : List Value} (hret : meth.sig.returnType = some t) (hn : narrow t w = w)
    (hi : (i = .ireturn ∧ (t = .int ∨ t = .boolean ∨ t = .byte ∨ t = .char ∨ t = .short) ∧ ∃ z, w = .int z) ∨ (i = .lreturn ∧ t = .long ∧ ∃ z, w = .long z) ∨ (i = .dreturn ∧ t = .double ∧ ∃ z, w = .double z) ∨ (i = .freturn ∧ t = .float ∧ ∃ z, w = .float z) ∨ (i = .areturn ∧ t.isReference = true ∧ w.isRef = true))
    (hlocks : meth.locks = false) (hd : decode c.code pc = .ok (i, 1)) {Qh : Option Value → Heap → List Loc → Prop} {rc rs : Nat} (hQ : Qh (some w) T.heap locs) (hc : cells ≤ rc) (hs : slots ≤ rs) :
    OwnGoes p e below (fun o U' => ∃ v L, o = .returned v ∧ Qh v U'.heap L ∧ FrameEnd s o U' L rc rs) (T.setTop (mkF m pc Ls (w :: rest))) := by
  obtain ⟨fs, hr, hrun, hended, hW, hsame⟩ := X.leave (v := some w) (fun h => by rw [hret] at h; cases h) hlocks
  exact ⟨_, _, retOut X hx hret hn hi hd hr, hrun, hended, _, _, rfl, hQ, ⟨_, rfl⟩, hW, hsame.mono hc hs⟩
theorem own_retV {p : Program} {l : Launch} {e : Env} {R : Room} {s : State} {m : MethodId} {args : Array Value} {below : List Frame} {meth : Method} {c : Code} {T : State} {locs : List Loc} {cells slots : Nat}
    (X : Stand p l e R s m args below meth c T locs cells slots) (hx : p.tables.exec = Jvm.exec) {pc : Nat} {Ls : Array Slot} (hret : meth.sig.returnType = none) (hlocks : meth.locks = false) (hd : decode c.code pc = .ok (.return_, 1)) {Qh : Option Value → Heap → List Loc → Prop} {rc rs : Nat} (hQ : Qh none T.heap locs) (hc : cells ≤ rc) (hs : slots ≤ rs) :
    OwnGoes p e below (fun o U' => ∃ v L, o = .returned v ∧ Qh v U'.heap L ∧ FrameEnd s o U' L rc rs) (T.setTop (mkF m pc Ls [])) := by
  obtain ⟨fs, hr, hrun, hended, hW, hsame⟩ := X.leave (v := none) (fun _ => rfl) hlocks
  exact ⟨_, _, X.returnOut hx hret hd hr, hrun, hended, _, _, rfl, hQ, ⟨_, rfl⟩, hW, hsame.mono hc hs⟩

def own_vs (k : Nat) (x0 x1 x2 x3 : Int32) : List Value := ([x0, x1, x2, x3].take k).map Value.int
theorem own_and3 (x : Int32) : x &&& 3 = 0 ∨ x &&& 3 = 1 ∨ x &&& 3 = 2 ∨ x &&& 3 = 3 := by
  have h1 := c_mask x 3 2 (by decide) (by decide)
  have h3 : (x &&& 3).toInt = 0 ∨ (x &&& 3).toInt = 1 ∨ (x &&& 3).toInt = 2 ∨ (x &&& 3).toInt = 3 := by omega
  rcases h3 with h | h | h | h
  · exact Or.inl (Int32.toInt_inj.mp h)
  · exact Or.inr (Or.inl (Int32.toInt_inj.mp h))
  · exact Or.inr (Or.inr (Or.inl (Int32.toInt_inj.mp h)))
  · exact Or.inr (Or.inr (Or.inr (Int32.toInt_inj.mp h)))
theorem own_jlt {vs : List Value} {j : Int32} {v : Value} (h0 : ¬ j < 0) (hv : vs[j.toNatClampNeg]? = some v) (hl : vs.length < 2 ^ 31) : j < Int32.ofNat vs.length := by
  have h1 := (List.getElem?_eq_some_iff.mp hv).1
  rw [Int32.lt_iff_toInt_lt] at h0 ⊢
  have e0 : (0 : Int32).toInt = 0 := rfl
  rw [Int32.toInt_ofNat_small hl]
  simp only [Int32.toNatClampNeg] at h1
  omega
theorem own_used (k : Nat) (hk : k = 1 ∨ k = 2 ∨ k = 3 ∨ k = 4) (u : Int32) : ∃ j : Nat, j ≤ k ∧ (u &&& 2147483647) % (Int32.ofNat k + 1) = Int32.ofNat j := by
  have h1 := c_mask u 2147483647 31 (by decide) (by decide)
  have e1 : (Int32.ofNat k + 1).toInt = k + 1 := by rcases hk with rfl | rfl | rfl | rfl <;> decide
  have h2 := (c_irem (u &&& 2147483647) (Int32.ofNat k + 1) (k + 1) e1).1 (by rw [h1]; omega)
  have h3 : 0 ≤ ((u &&& 2147483647) % (Int32.ofNat k + 1)).toInt ∧ ((u &&& 2147483647) % (Int32.ofNat k + 1)).toInt ≤ k := by
    rw [h2]; exact ⟨Int.emod_nonneg _ (by omega), by have := Int.emod_lt_of_pos (u &&& 2147483647).toInt (show (0 : Int) < k + 1 by omega); omega⟩
  refine ⟨((u &&& 2147483647) % (Int32.ofNat k + 1)).toInt.toNat, by omega, ?_⟩
  apply Int32.toInt_inj.mp
  rw [Int32.toInt_ofNat_small (by omega)]
  omega

/-! an array by the list of what it holds -/
def OwnA (Z : State) (h : Heap) (b : Addr) (ty : FieldType) (vs : List Value) : Prop := ∃ c : Cell, Jvm.RoadKit.Arr Z h b c ty ∧ c.slots = vs.toArray
section OwnArrays
variable {Z : State} {h h' : Heap} {a b : Addr} {ty : FieldType} {vs ws : List Value} {v : Value} {sl : Nat} {as : List Addr}
theorem OwnA.lt (F : OwnA Z h b ty vs) : b < h.size := by obtain ⟨c, A, -⟩ := F; exact A.lt
theorem OwnA.ext (F : OwnA Z h b ty vs) (E : Ext h h') : OwnA Z h' b ty vs := by obtain ⟨c, A, r⟩ := F; exact ⟨c, A.ext E, r⟩
theorem OwnA.other (F : OwnA Z h b ty vs) (W : Wr h h' a sl v) (q : b ≠ a) : OwnA Z h' b ty vs := by obtain ⟨c, A, r⟩ := F; exact ⟨c, A.other W q, r⟩
theorem OwnA.keep (F : OwnA Z h b ty vs) (K : Keep h h' as) (q : b ∉ as) : OwnA Z h' b ty vs := by obtain ⟨c, A, r⟩ := F; exact ⟨c, ⟨K.2.1 _ _ A.1 q, A.2⟩, r⟩
theorem OwnA.same (F : OwnA Z h a ty vs) (W : Wr h h' a sl v) : OwnA Z h' a ty (vs.set sl v) := by
  obtain ⟨c, A, r⟩ := F
  refine ⟨_, A.same W, ?_⟩
  show c.slots.setIfInBounds sl v = _
  rw [r]; simp
theorem OwnA.plain (F : OwnA Z h a ty vs) : ∀ cell : Cell, h[a]? = some cell → cell.vm.isStatics = false := fun cell hc => by
  obtain ⟨c, A, r⟩ := F
  cases hc.symm.trans A.1
  exact A.plain
variable {p : Program} {l : Launch} {e : Env} {R : Room} {s : State} {m : MethodId} {args : Array Value} {below : List Frame} {meth : Method} {c : Code} {T : State} {locs : List Loc} {cells slots : Nat} {a0 : Array Value}
theorem own_hin {c : Cell} {vs : List Value} {j : Int32} (hs : c.slots = vs.toArray) (h0 : ¬ j < 0) (h1 : j.toNatClampNeg < vs.length) : ¬ (j < 0 ∨ c.slots.size ≤ j.toNatClampNeg) := by
  rw [hs]; simp only [List.size_toArray]; intro q; rcases q with q | q
  · exact h0 q
  · omega
theorem own_alen (X : Stand p l e R s m args below meth c T locs cells slots) (hx : p.tables.exec = Jvm.exec) (hZ : Z.Warmed39 s.vm) (eT : T.heap = h) (A : OwnA Z h a ty vs) {n : Int32} (hn : n = Int32.ofNat vs.length)
    {g : JFrame} (hg : g.method = m) {rest : List Value} (hs : g.stack = .ref a :: rest) (hd : decode c.code g.pc = .ok (.arraylength, 1)) :
    ∀ t, Steps p.tables e below (T.setTop { g with pc := g.pc + 1, stack := .int n :: rest }) t → Steps p.tables e below (T.setTop g) t := fun t k => by
  obtain ⟨c, A, r⟩ := A
  refine X.arraylength hx (by rw [eT]; exact A.1) (State.isArrayOf_alike hZ.alike A.2.1) hg hs hd t ?_
  have q : c.slots.size.toInt32 = n := by rw [r, hn, List.size_toArray]
  rw [q]; exact k
theorem own_iald (X : Stand p l e R s m args below meth c T locs cells slots) (hx : p.tables.exec = Jvm.exec) (hZ : Z.Warmed39 s.vm) (eT : T.heap = h) (A : OwnA Z h a .int vs) {j : Int32} {v : Value} (h0 : ¬ j < 0) (hv : vs[j.toNatClampNeg]? = some v)
    {g : JFrame} (hg : g.method = m) {rest : List Value} (hs : g.stack = .int j :: .ref a :: rest) (hd : decode c.code g.pc = .ok (.iaload, 1)) :
    ∀ t, Steps p.tables e below (T.setTop { g with pc := g.pc + 1, stack := v :: rest }) t → Steps p.tables e below (T.setTop g) t := fun t k => by
  obtain ⟨c, A, r⟩ := A
  exact X.iaload hx (by rw [eT]; exact A.1) (State.isArrayOf_alike hZ.alike A.2.1) A.2.2 (own_hin r h0 (List.getElem?_eq_some_iff.mp hv).1) (by rw [r]; simpa using hv) hg hs hd t k
theorem own_lald (X : Stand p l e R s m args below meth c T locs cells slots) (hx : p.tables.exec = Jvm.exec) (hZ : Z.Warmed39 s.vm) (eT : T.heap = h) (A : OwnA Z h a .long vs) {j : Int32} {v : Value} (h0 : ¬ j < 0) (hv : vs[j.toNatClampNeg]? = some v)
    {g : JFrame} (hg : g.method = m) {rest : List Value} (hs : g.stack = .int j :: .ref a :: rest) (hd : decode c.code g.pc = .ok (.laload, 1)) :
    ∀ t, Steps p.tables e below (T.setTop { g with pc := g.pc + 1, stack := v :: rest }) t → Steps p.tables e below (T.setTop g) t := fun t k => by
  obtain ⟨c, A, r⟩ := A
  exact X.laload hx (by rw [eT]; exact A.1) (State.isArrayOf_alike hZ.alike A.2.1) A.2.2 (own_hin r h0 (List.getElem?_eq_some_iff.mp hv).1) (by rw [r]; simpa using hv) hg hs hd t k
theorem own_ist (X : Stand p l e R s m args below meth c T locs cells slots) (hx : p.tables.exec = Jvm.exec) (hZ : Z.Warmed39 s.vm) (eT : T.heap = h) (A : OwnA Z h a .int vs) {j x : Int32} (h0 : ¬ j < 0) (h1 : j.toNatClampNeg < vs.length)
    {g : JFrame} (hg : g.method = m) {rest : List Value} (hs : g.stack = .int x :: .int j :: .ref a :: rest) (hd : decode c.code g.pc = .ok (.iastore, 1)) :
    ∃ T' h', Stand p l e R s m args below meth c T' (locs ++ [⟨a, j.toNatClampNeg⟩]) cells slots ∧ T'.heap = h' ∧ Wr h h' a j.toNatClampNeg (.int x) ∧ OwnA Z h' a .int (vs.set j.toNatClampNeg (.int x)) ∧
      ∀ t, Steps p.tables e below (T'.setTop { g with pc := g.pc + 1, stack := rest }) t → Steps p.tables e below (T.setTop g) t := by
  have F := A
  obtain ⟨c, A, r⟩ := A
  obtain ⟨T', h', X', e', W, st⟩ := stI X hx hZ eT A (own_hin r h0 h1) hg hs hd
  exact ⟨T', h', X', e', W, F.same W, st⟩
theorem own_jst (X : Stand p l e R s m args below meth c T locs cells slots) (hx : p.tables.exec = Jvm.exec) (hZ : Z.Warmed39 s.vm) (eT : T.heap = h) (A : OwnA Z h a .long vs) {j : Int32} {x : Int64} (h0 : ¬ j < 0) (h1 : j.toNatClampNeg < vs.length)
    {g : JFrame} (hg : g.method = m) {rest : List Value} (hs : g.stack = .long x :: .int j :: .ref a :: rest) (hd : decode c.code g.pc = .ok (.lastore, 1)) :
    ∃ T' h', Stand p l e R s m args below meth c T' (locs ++ [⟨a, j.toNatClampNeg⟩]) cells slots ∧ T'.heap = h' ∧ Wr h h' a j.toNatClampNeg (.long x) ∧ OwnA Z h' a .long (vs.set j.toNatClampNeg (.long x)) ∧
      ∀ t, Steps p.tables e below (T'.setTop { g with pc := g.pc + 1, stack := rest }) t → Steps p.tables e below (T.setTop g) t := by
  have F := A
  obtain ⟨c, A, r⟩ := A
  obtain ⟨T', h', X', e', W, st⟩ := stJ X hx hZ eT A (own_hin r h0 h1) hg hs hd
  exact ⟨T', h', X', e', W, F.same W, st⟩
theorem own_dald (X : Stand p l e R s m args below meth c T locs cells slots) (hx : p.tables.exec = Jvm.exec) (hZ : Z.Warmed39 s.vm) (eT : T.heap = h) (A : OwnA Z h a .double vs) {j : Int32} {v : Value} (h0 : ¬ j < 0) (hv : vs[j.toNatClampNeg]? = some v)
    {g : JFrame} (hg : g.method = m) {rest : List Value} (hs : g.stack = .int j :: .ref a :: rest) (hd : decode c.code g.pc = .ok (.daload, 1)) :
    ∀ t, Steps p.tables e below (T.setTop { g with pc := g.pc + 1, stack := v :: rest }) t → Steps p.tables e below (T.setTop g) t := fun t k => by
  obtain ⟨c, A, r⟩ := A
  exact X.daload hx (by rw [eT]; exact A.1) (State.isArrayOf_alike hZ.alike A.2.1) A.2.2 (own_hin r h0 (List.getElem?_eq_some_iff.mp hv).1) (by rw [r]; simpa using hv) hg hs hd t k
theorem own_dst (X : Stand p l e R s m args below meth c T locs cells slots) (hx : p.tables.exec = Jvm.exec) (hZ : Z.Warmed39 s.vm) (eT : T.heap = h) (A : OwnA Z h a .double vs) {j : Int32} {x : UInt64} (h0 : ¬ j < 0) (h1 : j.toNatClampNeg < vs.length)
    {g : JFrame} (hg : g.method = m) {rest : List Value} (hs : g.stack = .double x :: .int j :: .ref a :: rest) (hd : decode c.code g.pc = .ok (.dastore, 1)) :
    ∃ T' h', Stand p l e R s m args below meth c T' (locs ++ [⟨a, j.toNatClampNeg⟩]) cells slots ∧ T'.heap = h' ∧ Wr h h' a j.toNatClampNeg (.double x) ∧ OwnA Z h' a .double (vs.set j.toNatClampNeg (.double x)) ∧
      ∀ t, Steps p.tables e below (T'.setTop { g with pc := g.pc + 1, stack := rest }) t → Steps p.tables e below (T.setTop g) t := by
  have F := A
  obtain ⟨c, A, r⟩ := A
  obtain ⟨T', h', X', e', W, st⟩ := stD X hx hZ eT A (own_hin r h0 h1) hg hs hd
  exact ⟨T', h', X', e', W, F.same W, st⟩
theorem own_newa (X : Stand p l e R s m args below meth c T locs cells slots) (hx : p.tables.exec = Jvm.exec) (hZ : Z.Warmed39 s.vm) {aty : ArrayType} (w : (Jvm.Cond.arrayClass (newarray.typeOf aty)).before a0 Z = true) (eT : T.heap = h) {g : JFrame} (hg : g.method = m) (hd : decode c.code g.pc = .ok (.newarray aty, 2)) {n : Int32} {rest : List Value} (hs : g.stack = .int n :: rest)
    (hn : ¬ n < 0) {cap : Nat} (hcap : n.toNatClampNeg ≤ cap) (hb : cap * 8 ≤ 536870912) (hc : cells + 1 ≤ R.cells) (hl : slots + cap ≤ R.slots) :
    ∃ T' h', Stand p l e R s m args below meth c T' locs (cells + 1) (slots + cap) ∧ T'.heap = h' ∧ Ext h h' ∧ OwnA Z h' h.size (newarray.typeOf aty) (List.replicate n.toNatClampNeg (defaultValue (newarray.typeOf aty))) ∧
      ∀ t, Steps p.tables e below (T'.setTop { g with pc := g.pc + 2, stack := .ref h.size :: rest }) t → Steps p.tables e below (T.setTop g) t := by
  obtain ⟨T', h', cA, X', e', E, A, st⟩ := newP X hx hZ w eT hg hd hs hn hcap hb hc hl
  exact ⟨T', h', X', e', E, ⟨_, A, by simp [newA]⟩, st⟩
/-- System.arraycopy from place 0 to place 0 of another array of the same plain kind -/
theorem own_acopy (X : Stand p l e R s m args below meth c T locs cells slots) (hx : p.tables.exec = Jvm.exec) (hZ : Z.Warmed39 s.vm) {own : String} {index : Nat} (hown : s.vm.findClass own = some m.cls) (hwz : ∀ w ∈ XT.acW own index, w.before args s = true)
    (eT : T.heap = h) (A : OwnA Z h a ty vs) (B : OwnA Z h b ty ws) (hty : refKind ty = false) (href : ty.isReference = false) (hfit : ∀ x ∈ vs, fits ty x = true) (h1 : vs.length < 2 ^ 31) (h2 : ws.length < 2 ^ 31) {n : Nat} {jn : Int32} (hjn : jn = Int32.ofNat n) (hn1 : n ≤ vs.length) (hn2 : n ≤ ws.length)
    {g : JFrame} (hg : g.method = m) (hsize : g.locals.size = c.maxLocals) {rest : List Value} (hs : g.stack = .int jn :: .int 0 :: .ref b :: .int 0 :: .ref a :: rest) (hd : decode c.code g.pc = .ok (.invokestatic index, 3))
    {W : Nat} (hW : 2 * g.monitorRoom + (rest.map fun v => v.category).sum ≤ W) (hfr : 1 ≤ R.frames) (hlo : W + 40 ≤ R.locals) :
    ∃ T' h', Stand p l e R s m args below meth c T' (locs ++ copyLocs b 0 n) cells slots ∧ T'.heap = h' ∧ Keep h h' [b] ∧ OwnA Z h' b ty (vs.take n ++ ws.drop n) ∧
      ∀ t, Steps p.tables e below (T'.setTop { g with pc := g.pc + 3, stack := rest }) t → Steps p.tables e below (T.setTop g) t := by
  obtain ⟨cA, A, rA⟩ := A
  obtain ⟨cB, B, rB⟩ := B
  have hU : Z.Warmed39 T.vm := wtrans hZ X.warmed
  have A' : XT.Arr ty a cA T := ⟨by rw [eT]; exact A.1, State.isArrayOf_alike hU.alike A.2.1, A.2.2, by rw [rA]; simpa using h1⟩
  have B' : XT.Arr ty b cB T := ⟨by rw [eT]; exact B.1, State.isArrayOf_alike hU.alike B.2.1, B.2.2, by rw [rB]; simpa using h2⟩
  obtain ⟨T', B1, X', P, c1, c2, c3, c4, st⟩ := X.acopy hx hown hwz A' B' (by simp [hty]) (o := 0) (q := 0) (n := n) (jo := 0) (jq := 0) rfl rfl hjn (by rw [rA]; simpa using hn1) (by rw [rB]; simpa using hn2)
    (fun i hi => ⟨hfit _ (by
      rw [rA, Array.getD_eq_getD_getElem?]
      have hi' : 0 + i < vs.length := by omega
      simp only [List.getElem?_toArray, List.getElem?_eq_getElem hi', Option.getD_some]
      exact List.getElem_mem hi'), fun q => by rw [href] at q; cases q⟩) hg hsize hs hd hW hfr hlo
  refine ⟨T', _, X', rfl, ⟨?_, fun x cx hx hne => ?_, fun x cx hx => ?_⟩, ⟨B1, ⟨P.1, ?_, by rw [c2]; exact B.2.2⟩, ?_⟩, st⟩
  · rw [P.2.2, eT]; exact Nat.le_refl _
  · rw [P.2.1 x (fun q => hne (by rw [q]; exact List.mem_singleton.mpr rfl)), eT]; exact hx
  · by_cases q : x = b
    · subst q
      cases hx.symm.trans B.1
      exact ⟨B1, P.1, c1, c2, c3⟩
    · exact ⟨cx, by rw [P.2.1 x q, eT]; exact hx, rfl, rfl, rfl⟩
  · obtain ⟨q1, k, q2, q3⟩ := B.2.1
    exact ⟨by rw [c2]; exact q1, k, by rw [c1]; exact q2, q3⟩
  · apply Array.ext_getElem?
    intro j
    rw [c4 j]
    rw [rA, rB, Array.getD_eq_getD_getElem?]
    simp only [List.getElem?_toArray]
    by_cases q : j < n
    · have q2 : j < vs.length := by omega
      rw [if_pos ⟨Nat.zero_le _, by omega⟩, List.getElem?_append_left (by rw [List.length_take]; omega), List.getElem?_take_of_lt q]
      simp [List.getElem?_eq_getElem q2]
    · rw [if_neg (by omega), List.getElem?_append_right (by rw [List.length_take]; omega), List.getElem?_drop, List.length_take]
      congr 1
      omega
theorem own_frcopy {n0 : Nat} {locs : List Loc} (N : Fr n0 locs) {b : Addr} (hb : n0 ≤ b) (k : Nat) : Fr n0 (locs ++ copyLocs b 0 k) := Fr.app N (fun y hy => by
  simp only [copyLocs, List.mem_map] at hy
  obtain ⟨i, -, rfl⟩ := hy
  exact hb)
end OwnArrays

def QMin (r : Int32) (h0 : Heap) (n0 : Nat) (v : Option Value) (h : Heap) (L : List Loc) : Prop := v = some (.int r) ∧ Fr n0 L ∧ h = h0
theorem d3_0 : decode jdk_29_method_69_code 0 = .ok (.iload_n 0, 1) := by decide +kernel
theorem d3_1 : decode jdk_29_method_69_code 1 = .ok (.iload_n 1, 1) := by decide +kernel
theorem d3_2 : decode jdk_29_method_69_code 2 = .ok (.if_icmp .gt 7, 3) := by decide +kernel
theorem d3_5 : decode jdk_29_method_69_code 5 = .ok (.iload_n 0, 1) := by decide +kernel
theorem d3_6 : decode jdk_29_method_69_code 6 = .ok (.goto 4, 3) := by decide +kernel
theorem d3_9 : decode jdk_29_method_69_code 9 = .ok (.iload_n 1, 1) := by decide +kernel
theorem d3_10 : decode jdk_29_method_69_code 10 = .ok (.ireturn, 1) := by decide +kernel
set_option maxRecDepth 65536 in
set_option maxHeartbeats 40000000 in
theorem rmMin (l : Launch) (Z : State) (a0 : Array Value) (hw : ∀ d ∈ tables_1, d.before a0 Z = true) (ws : List Jvm.Cond) (x y r : Int32) (h0 : Heap) (n0 : Nat) (Z0 : n0 ≤ h0.size) (hr : r = if y < x then y else x) :
    MetFree l (⟨"java/lang/Math", "min", "(II)I"⟩ : MethodName) (head1 (Jvm.Cond.code (⟨"java/lang/Math", "min", "(II)I"⟩ : MethodName) jdk_29_method_69_code 2 (some .int) :: ws) ({ frames := 0, cells := 0, slots := 0, locals := 0 } : Room)) (fun a U => a = #[(.int x), (.int y)] ∧ Z.Warmed39 U.vm ∧ U.heap = h0) (fun _ _ _ _ _ => True) (fun _ U o U' => ∃ v L, o = .returned v ∧ QMin r h0 n0 v U'.heap L ∧ FrameEnd U o U' L ({ frames := 0, cells := 0, slots := 0, locals := 0 } : Room).cells ({ frames := 0, cells := 0, slots := 0, locals := 0 } : Room).slots) := by
  refine MetFree.of_bodySF (Jvm.Free.JP.mathPlain rfl (by decide +kernel)) hisR ?_
  intro p e s m args below meth c s₁ Bd hml0 hP hK
  obtain ⟨rfl, hZ, hh⟩ := hP
  have hx := Bd.exec
  have hby := Bd.bytes
  have hml : c.maxLocals = 2 := hml0
  have hown : s.vm.findClass "java/lang/Math" = some m.cls := findClass_of_methodNamed Bd.named
  have hnm := (name_of_methodNamed Bd.named Bd.method).1
  have X0 : Stand p l e ({ frames := 0, cells := 0, slots := 0, locals := 0 } : Room) s m #[(.int x), (.int y)] below meth c s₁ [] 0 0 := Stand.of_body Bd
  have e0 : s₁.heap = h0 := by rw [← hh, Bd.state]; rfl
  have N0 := Fr.nil n0
  have ef : entryFrame m #[(.int x), (.int y)] 2 = (mkF m 0 #[.val (.int x), .val (.int y)] []) := by first | (simp [entryFrame, mkF, argsToLocals, Value.category]; done) | rfl
  show OwnGoes p e below (fun o U' => ∃ v L, o = .returned v ∧ QMin r h0 n0 v U'.heap L ∧ FrameEnd s o U' L ({ frames := 0, cells := 0, slots := 0, locals := 0 } : Room).cells ({ frames := 0, cells := 0, slots := 0, locals := 0 } : Room).slots) (s₁.setTop (entryFrame m #[(.int x), (.int y)] 2))
  refine own_pre (fun t k => castTop ef k) ?_
  show OwnGoes p e below _ (s₁.setTop (mkF m 0 #[.val (.int x), .val (.int y)] []))
  refine own_pre (fun _ kz_ => XS.iloadN X0.here hx rfl (hb hby d3_0) rfl kz_) ?_
  show OwnGoes p e below _ (s₁.setTop (mkF m 1 #[.val (.int x), .val (.int y)] [(.int x)]))
  refine own_pre (fun _ kz_ => XS.iloadN X0.here hx rfl (hb hby d3_1) rfl kz_) ?_
  show OwnGoes p e below _ (s₁.setTop (mkF m 2 #[.val (.int x), .val (.int y)] [(.int y), (.int x)]))
  by_cases h2 : y < x
  · refine own_pre (fun _ kz_ => XS.icmpYes X0.here hx rfl (pc0 := 2) (pc' := 9) rfl (hb hby d3_2) rfl (tlt h2).2.2.1 (by decide) (by decide) kz_) ?_
    show OwnGoes p e below _ (s₁.setTop (mkF m 9 #[.val (.int x), .val (.int y)] []))
    refine own_pre (fun _ kz_ => XS.iloadN X0.here hx rfl (hb hby d3_9) rfl kz_) ?_
    show OwnGoes p e below _ (s₁.setTop (mkF m 10 #[.val (.int x), .val (.int y)] [(.int y)]))
    exact own_ret X0 hx Bd.returns (rfl) (Or.inl ⟨rfl, by simp, _, rfl⟩) Bd.notSynchronized (hb hby d3_10) ⟨by rw [hr, if_pos h2], N0, e0⟩ (by decide) (by decide)
  · refine own_pre (fun _ kz_ => XS.icmpNo X0.here hx rfl (hb hby d3_2) rfl (flt h2).2.2.1 kz_) ?_
    show OwnGoes p e below _ (s₁.setTop (mkF m 5 #[.val (.int x), .val (.int y)] []))
    refine own_pre (fun _ kz_ => XS.iloadN X0.here hx rfl (hb hby d3_5) rfl kz_) ?_
    show OwnGoes p e below _ (s₁.setTop (mkF m 6 #[.val (.int x), .val (.int y)] [(.int x)]))
    refine own_pre (fun _ kz_ => XS.goto X0.here hx rfl (pc0 := 6) (pc' := 10) rfl (hb hby d3_6) (by decide) (by decide) kz_) ?_
    show OwnGoes p e below _ (s₁.setTop (mkF m 10 #[.val (.int x), .val (.int y)] [(.int x)]))
    exact own_ret X0 hx Bd.returns (rfl) (Or.inl ⟨rfl, by simp, _, rfl⟩) Bd.notSynchronized (hb hby d3_10) ⟨by rw [hr, if_neg h2], N0, e0⟩ (by decide) (by decide)
def QCp (Z : State) (vs : List Value) (k : Nat) (h0 : Heap) (n0 : Nat) (v : Option Value) (h : Heap) (L : List Loc) : Prop := ∃ r : Addr, v = some (.ref r) ∧ Fr n0 L ∧ Keep h0 h [] ∧ h0.size ≤ r ∧ OwnA Z h r .int (vs ++ List.replicate (k - vs.length) (.int (0 : Int32)))
theorem d2_0 : decode jdk_65_method_123_code 0 = .ok (.iload_n 1, 1) := by decide +kernel
theorem d2_1 : decode jdk_65_method_123_code 1 = .ok (.aload_n 0, 1) := by decide +kernel
theorem d2_2 : decode jdk_65_method_123_code 2 = .ok (.arraylength, 1) := by decide +kernel
theorem d2_3 : decode jdk_65_method_123_code 3 = .ok (.if_icmp .ne 11, 3) := by decide +kernel
theorem d2_6 : decode jdk_65_method_123_code 6 = .ok (.aload_n 0, 1) := by decide +kernel
theorem d2_7 : decode jdk_65_method_123_code 7 = .ok (.invokevirtual 316, 3) := by decide +kernel
theorem d2_10 : decode jdk_65_method_123_code 10 = .ok (.checkcast 317, 3) := by decide +kernel
theorem d2_13 : decode jdk_65_method_123_code 13 = .ok (.areturn, 1) := by decide +kernel
theorem d2_14 : decode jdk_65_method_123_code 14 = .ok (.iload_n 1, 1) := by decide +kernel
theorem d2_15 : decode jdk_65_method_123_code 15 = .ok (.newarray .int, 2) := by decide +kernel
theorem d2_17 : decode jdk_65_method_123_code 17 = .ok (.astore_n 2, 1) := by decide +kernel
theorem d2_18 : decode jdk_65_method_123_code 18 = .ok (.aload_n 0, 1) := by decide +kernel
theorem d2_19 : decode jdk_65_method_123_code 19 = .ok (.iconst 0, 1) := by decide +kernel
theorem d2_20 : decode jdk_65_method_123_code 20 = .ok (.aload_n 2, 1) := by decide +kernel
theorem d2_21 : decode jdk_65_method_123_code 21 = .ok (.iconst 0, 1) := by decide +kernel
theorem d2_22 : decode jdk_65_method_123_code 22 = .ok (.aload_n 0, 1) := by decide +kernel
theorem d2_23 : decode jdk_65_method_123_code 23 = .ok (.arraylength, 1) := by decide +kernel
theorem d2_24 : decode jdk_65_method_123_code 24 = .ok (.iload_n 1, 1) := by decide +kernel
theorem d2_25 : decode jdk_65_method_123_code 25 = .ok (.invokestatic 304, 3) := by decide +kernel
theorem d2_28 : decode jdk_65_method_123_code 28 = .ok (.invokestatic 150, 3) := by decide +kernel
theorem d2_31 : decode jdk_65_method_123_code 31 = .ok (.aload_n 2, 1) := by decide +kernel
theorem d2_32 : decode jdk_65_method_123_code 32 = .ok (.areturn, 1) := by decide +kernel
set_option maxRecDepth 65536 in
set_option maxHeartbeats 40000000 in
theorem rmCp (l : Launch) (Z : State) (a0 : Array Value) (hw : ∀ d ∈ tables_1, d.before a0 Z = true) (ws : List Jvm.Cond) (b : Addr) (kI : Int32) (vs : List Value) (k : Nat) (h0 : Heap) (n0 : Nat) (Z0 : n0 ≤ h0.size) (V : OwnA Z h0 b .int vs) (hk : kI = Int32.ofNat k) (hcap : k ≤ 8) (hlt : vs.length < k) (hfit : ∀ x ∈ vs, fits .int x = true) :
    MetFree l (⟨"java/util/Arrays", "copyOf", "([II)[I"⟩ : MethodName) (head1 (Jvm.Cond.code (⟨"java/util/Arrays", "copyOf", "([II)[I"⟩ : MethodName) jdk_65_method_123_code 3 (some (.array .int)) :: ws) ({ frames := 1, cells := 1, slots := 8, locals := 40 } : Room)) (fun a U => a = #[(.ref b), (.int kI)] ∧ Z.Warmed39 U.vm ∧ U.heap = h0) (fun _ _ _ _ _ => True) (fun _ U o U' => ∃ v L, o = .returned v ∧ QCp Z vs k h0 n0 v U'.heap L ∧ FrameEnd U o U' L ({ frames := 1, cells := 1, slots := 8, locals := 40 } : Room).cells ({ frames := 1, cells := 1, slots := 8, locals := 40 } : Room).slots) := by
  refine MetFree.of_bodySF (plainFor_of_name (by first | (simp [plainName, overriddenIn]; done) | decide +kernel)) hisR ?_
  intro p e s m args below meth c s₁ Bd hml0 hP hK
  obtain ⟨rfl, hZ, hh⟩ := hP
  have hx := Bd.exec
  have hby := Bd.bytes
  have hml : c.maxLocals = 3 := hml0
  have hown : s.vm.findClass "java/util/Arrays" = some m.cls := findClass_of_methodNamed Bd.named
  have hnm := (name_of_methodNamed Bd.named Bd.method).1
  have X0 : Stand p l e ({ frames := 1, cells := 1, slots := 8, locals := 40 } : Room) s m #[(.ref b), (.int kI)] below meth c s₁ [] 0 0 := Stand.of_body Bd
  have e0 : s₁.heap = h0 := by rw [← hh, Bd.state]; rfl
  have N0 := Fr.nil n0
  have ef : entryFrame m #[(.ref b), (.int kI)] 3 = (mkF m 0 #[.val (.ref b), .val (.int kI), .unset] []) := by first | (simp [entryFrame, mkF, argsToLocals, Value.category]; done) | rfl
  show OwnGoes p e below (fun o U' => ∃ v L, o = .returned v ∧ QCp Z vs k h0 n0 v U'.heap L ∧ FrameEnd s o U' L ({ frames := 1, cells := 1, slots := 8, locals := 40 } : Room).cells ({ frames := 1, cells := 1, slots := 8, locals := 40 } : Room).slots) (s₁.setTop (entryFrame m #[(.ref b), (.int kI)] 3))
  refine own_pre (fun t k => castTop ef k) ?_
  show OwnGoes p e below _ (s₁.setTop (mkF m 0 #[.val (.ref b), .val (.int kI), .unset] []))
  refine own_pre (fun _ kz_ => XS.iloadN X0.here hx rfl (hb hby d2_0) rfl kz_) ?_
  show OwnGoes p e below _ (s₁.setTop (mkF m 1 #[.val (.ref b), .val (.int kI), .unset] [(.int kI)]))
  refine own_pre (fun _ kz_ => XS.aloadN X0.here hx rfl (hb hby d2_1) rfl rfl kz_) ?_
  show OwnGoes p e below _ (s₁.setTop (mkF m 2 #[.val (.ref b), .val (.int kI), .unset] [(.ref b), (.int kI)]))
  refine own_pre (own_alen X0 hx hZ e0 V (n := (Int32.ofNat vs.length)) rfl (g := (mkF m 2 #[.val (.ref b), .val (.int kI), .unset] [(.ref b), (.int kI)])) rfl rfl (hb hby d2_2)) ?_
  show OwnGoes p e below _ (s₁.setTop (mkF m 3 #[.val (.ref b), .val (.int kI), .unset] [(.int (Int32.ofNat vs.length)), (.int kI)]))
  refine own_pre (fun _ kz_ => XS.icmpYes X0.here hx rfl (pc0 := 3) (pc' := 14) rfl (hb hby d2_3) rfl (feq (by rw [hk]; exact XT.ne32 (by omega) (by omega) (by omega) : ¬ (kI = (Int32.ofNat vs.length)))).2 (by decide) (by decide) kz_) ?_
  show OwnGoes p e below _ (s₁.setTop (mkF m 14 #[.val (.ref b), .val (.int kI), .unset] []))
  refine own_pre (fun _ kz_ => XS.iloadN X0.here hx rfl (hb hby d2_14) rfl kz_) ?_
  show OwnGoes p e below _ (s₁.setTop (mkF m 15 #[.val (.ref b), .val (.int kI), .unset] [(.int kI)]))
  obtain ⟨T1, h1, X1, e1, E1, V1, st1⟩ := own_newa X0 hx hZ (hw _ (List.mem_of_getElem? (i := 0) rfl)) e0 (g := (mkF m 15 #[.val (.ref b), .val (.int kI), .unset] [(.int kI)])) rfl (hb hby d2_15) rfl (by rw [hk]; exact Int32.ofNat_not_neg (by omega)) (cap := 8) (by rw [hk, XT.n32 (by omega)]; exact hcap) (by decide) (by decide) (by decide)
  obtain ⟨r, g1⟩ : ∃ z, z = h0.size := ⟨_, rfl⟩
  rw [← g1] at V1 st1
  have g_r : n0 ≤ r := Nat.le_trans Z0 (Nat.le_of_eq g1.symm)
  have sz_r : h0.size ≤ r := Nat.le_trans ((Keep.refl h0 [])).1 (Nat.le_of_eq g1.symm)
  have ne_b_r : b ≠ r := Nat.ne_of_lt (Nat.lt_of_lt_of_le V.lt (Nat.le_of_eq g1.symm))
  have f1_1 := V.ext E1
  have K1 := ((Keep.refl h0 [])).ext E1
  have Z1 := Nat.le_trans Z0 E1.1
  have Va1 : OwnA Z h1 r .int (List.replicate k (.int (0 : Int32))) := by rw [hk, XT.n32 (by omega)] at V1; exact V1
  refine own_pre st1 ?_
  show OwnGoes p e below _ (T1.setTop (mkF m 17 #[.val (.ref b), .val (.int kI), .unset] [(.ref r)]))
  refine own_pre (fun _ kz_ => XS.astoreN X1.here hx rfl (hb hby d2_17) rfl rfl (l' := #[.val (.ref b), .val (.int kI), .val (.ref r)]) rfl kz_) ?_
  show OwnGoes p e below _ (T1.setTop (mkF m 18 #[.val (.ref b), .val (.int kI), .val (.ref r)] []))
  refine own_pre (fun _ kz_ => XS.aloadN X1.here hx rfl (hb hby d2_18) rfl rfl kz_) ?_
  show OwnGoes p e below _ (T1.setTop (mkF m 19 #[.val (.ref b), .val (.int kI), .val (.ref r)] [(.ref b)]))
  refine own_pre (fun _ kz_ => XS.iconst X1.here hx rfl (hb hby d2_19) kz_) ?_
  show OwnGoes p e below _ (T1.setTop (mkF m 20 #[.val (.ref b), .val (.int kI), .val (.ref r)] [(.int (0 : Int32)), (.ref b)]))
  refine own_pre (fun _ kz_ => XS.aloadN X1.here hx rfl (hb hby d2_20) rfl rfl kz_) ?_
  show OwnGoes p e below _ (T1.setTop (mkF m 21 #[.val (.ref b), .val (.int kI), .val (.ref r)] [(.ref r), (.int (0 : Int32)), (.ref b)]))
  refine own_pre (fun _ kz_ => XS.iconst X1.here hx rfl (hb hby d2_21) kz_) ?_
  show OwnGoes p e below _ (T1.setTop (mkF m 22 #[.val (.ref b), .val (.int kI), .val (.ref r)] [(.int (0 : Int32)), (.ref r), (.int (0 : Int32)), (.ref b)]))
  refine own_pre (fun _ kz_ => XS.aloadN X1.here hx rfl (hb hby d2_22) rfl rfl kz_) ?_
  show OwnGoes p e below _ (T1.setTop (mkF m 23 #[.val (.ref b), .val (.int kI), .val (.ref r)] [(.ref b), (.int (0 : Int32)), (.ref r), (.int (0 : Int32)), (.ref b)]))
  refine own_pre (own_alen X1 hx hZ e1 f1_1 (n := (Int32.ofNat vs.length)) rfl (g := (mkF m 23 #[.val (.ref b), .val (.int kI), .val (.ref r)] [(.ref b), (.int (0 : Int32)), (.ref r), (.int (0 : Int32)), (.ref b)])) rfl rfl (hb hby d2_23)) ?_
  show OwnGoes p e below _ (T1.setTop (mkF m 24 #[.val (.ref b), .val (.int kI), .val (.ref r)] [(.int (Int32.ofNat vs.length)), (.int (0 : Int32)), (.ref r), (.int (0 : Int32)), (.ref b)]))
  refine own_pre (fun _ kz_ => XS.iloadN X1.here hx rfl (hb hby d2_24) rfl kz_) ?_
  show OwnGoes p e below _ (T1.setTop (mkF m 25 #[.val (.ref b), .val (.int kI), .val (.ref r)] [(.int kI), (.int (Int32.ofNat vs.length)), (.int (0 : Int32)), (.ref r), (.int (0 : Int32)), (.ref b)]))
  obtain ⟨_, _, ⟨T2, L2, k2, n2⟩, -, X2, ⟨Lc2, hQ2, l2, y2, z2⟩, st2⟩ := Jvm.LawKit.callS X1 hx (y := (⟨"java/lang/Math", "min", "(II)I"⟩ : MethodName)) hown (mvT hZ (hw _ (List.mem_of_getElem? (i := 10) rfl))) (mvT hZ (hw _ (List.mem_of_getElem? (i := 11) rfl))) (mvT hZ (hw _ (List.mem_of_getElem? (i := 12) rfl))) (mvT hZ (hw _ (List.mem_of_getElem? (i := 13) rfl))) (by decide) (backOf (W := 4) (rmMin l Z a0 hw [] (Int32.ofNat vs.length) kI (Int32.ofNat vs.length) h1 n0 Z1 (by rw [if_neg]; rw [hk]; exact XT.nlt32 (by omega) (by omega))) hZ (hw _ (List.mem_of_getElem? (i := 13) rfl)) (hw _ (List.mem_of_getElem? (i := 12) rfl)) (by decide) (by decide)) (g := (mkF m 25 #[.val (.ref b), .val (.int kI), .val (.ref r)] [(.int kI), (.int (Int32.ofNat vs.length)), (.int (0 : Int32)), (.ref r), (.int (0 : Int32)), (.ref b)])) rfl (by rw [hml]; rfl) (argsL := [(.int (Int32.ofNat vs.length)), (.int kI)]) (rest := [(.int (0 : Int32)), (.ref r), (.int (0 : Int32)), (.ref b)]) (lenOf (d := "(II)I") (ps := [.int, .int]) (r := some .int) (by decide +kernel) rfl) rfl (by show 2 * 0 + _ ≤ _; exact Nat.le_of_eq rfl) (hb hby d2_25) (fun _ _ => ⟨rfl, e1, (by decide : 1 + 0 ≤ _), (by decide : 8 + 0 ≤ _)⟩)
  dsimp only [Pt.U, Pt.locs, Pt.cells, Pt.slots] at X2 l2 y2 z2 st2 hQ2
  subst l2 y2 z2
  obtain ⟨rfl, N2q, e2⟩ := hQ2
  have N2 := Fr.app N0 N2q
  refine own_pre st2 ?_
  show OwnGoes p e below _ (T2.setTop (mkF m 28 #[.val (.ref b), .val (.int kI), .val (.ref r)] [(.int (Int32.ofNat vs.length)), (.int (0 : Int32)), (.ref r), (.int (0 : Int32)), (.ref b)]))
  have hac : ∀ z ∈ XT.acW "java/util/Arrays" 150, z.before #[(.ref b), (.int kI)] s = true := fun z hz => by
    simp only [XT.acW, List.mem_cons, List.not_mem_nil, or_false] at hz
    rcases hz with rfl | rfl | rfl | rfl
    · exact mvT hZ (hw _ (List.mem_of_getElem? (i := 14) rfl))
    · exact mvT hZ (hw _ (List.mem_of_getElem? (i := 17) rfl))
    · exact mvT hZ (hw _ (List.mem_of_getElem? (i := 15) rfl))
    · exact mvT hZ (hw _ (List.mem_of_getElem? (i := 16) rfl))
  obtain ⟨T3, h3, X3, e3, Kc, Vc, st3⟩ := own_acopy X2 hx hZ hown hac e2 f1_1 Va1 rfl rfl hfit (by omega) (by rw [List.length_replicate]; omega) (n := vs.length) rfl (Nat.le_refl _) (by rw [List.length_replicate]; omega) (g := (mkF m 28 #[.val (.ref b), .val (.int kI), .val (.ref r)] [(.int (Int32.ofNat vs.length)), (.int (0 : Int32)), (.ref r), (.int (0 : Int32)), (.ref b)])) rfl (by rw [hml]; rfl) (rest := []) rfl (hb hby d2_28) (W := 0) (by show 2 * 0 + _ ≤ _; exact Nat.le_of_eq rfl) (by decide) (by decide)
  have Vd : OwnA Z h3 r .int (vs ++ List.replicate (k - vs.length) (.int (0 : Int32))) := by simpa using Vc
  have KK := (K1).trans Kc (fun x hx => Or.inr (by cases List.mem_singleton.mp hx; exact sz_r))
  have NN := own_frcopy N2 g_r vs.length
  refine own_pre st3 ?_
  show OwnGoes p e below _ (T3.setTop (mkF m 31 #[.val (.ref b), .val (.int kI), .val (.ref r)] []))
  refine own_pre (fun _ kz_ => XS.aloadN X3.here hx rfl (hb hby d2_31) rfl rfl kz_) ?_
  show OwnGoes p e below _ (T3.setTop (mkF m 32 #[.val (.ref b), .val (.int kI), .val (.ref r)] [(.ref r)]))
  exact own_ret X3 hx Bd.returns (rfl) (Or.inr (Or.inr (Or.inr (Or.inr ⟨rfl, rfl, rfl⟩)))) Bd.notSynchronized (hb hby d2_32) ⟨r, rfl, NN, by rw [e3]; exact KK, sz_r, by rw [e3]; exact Vd⟩ (by decide) (by decide)
theorem d1_0 : decode prog_101_method_3_code 0 = .ok (.iload_n 1, 1) := by decide +kernel
theorem d1_1 : decode prog_101_method_3_code 1 = .ok (.aload_n 0, 1) := by decide +kernel
theorem d1_2 : decode prog_101_method_3_code 2 = .ok (.arraylength, 1) := by decide +kernel
theorem d1_3 : decode prog_101_method_3_code 3 = .ok (.if_icmp .ge 7, 3) := by decide +kernel
theorem d1_6 : decode prog_101_method_3_code 6 = .ok (.aload_n 0, 1) := by decide +kernel
theorem d1_7 : decode prog_101_method_3_code 7 = .ok (.goto 11, 3) := by decide +kernel
theorem d1_10 : decode prog_101_method_3_code 10 = .ok (.aload_n 0, 1) := by decide +kernel
theorem d1_11 : decode prog_101_method_3_code 11 = .ok (.aload_n 0, 1) := by decide +kernel
theorem d1_12 : decode prog_101_method_3_code 12 = .ok (.arraylength, 1) := by decide +kernel
theorem d1_13 : decode prog_101_method_3_code 13 = .ok (.iconst 2, 1) := by decide +kernel
theorem d1_14 : decode prog_101_method_3_code 14 = .ok (.imul, 1) := by decide +kernel
theorem d1_15 : decode prog_101_method_3_code 15 = .ok (.invokestatic 13, 3) := by decide +kernel
theorem d1_18 : decode prog_101_method_3_code 18 = .ok (.areturn, 1) := by decide +kernel
theorem d4_0 : decode method_3_code 0 = .ok (.aload_n 0, 1) := by decide +kernel
theorem d4_1 : decode method_3_code 1 = .ok (.iconst 0, 1) := by decide +kernel
theorem d4_2 : decode method_3_code 2 = .ok (.iload_n 2, 1) := by decide +kernel
theorem d4_3 : decode method_3_code 3 = .ok (.invokestatic 7, 3) := by decide +kernel
theorem d4_6 : decode method_3_code 6 = .ok (.istore 6, 2) := by decide +kernel
theorem d4_8 : decode method_3_code 8 = .ok (.iload 6, 2) := by decide +kernel
theorem d4_10 : decode method_3_code 10 = .ok (.iload_n 1, 1) := by decide +kernel
theorem d4_11 : decode method_3_code 11 = .ok (.iconst 2, 1) := by decide +kernel
theorem d4_12 : decode method_3_code 12 = .ok (.if_icmp .lt 12, 3) := by decide +kernel
theorem d4_15 : decode method_3_code 15 = .ok (.aload_n 0, 1) := by decide +kernel
theorem d4_16 : decode method_3_code 16 = .ok (.iconst 1, 1) := by decide +kernel
theorem d4_17 : decode method_3_code 17 = .ok (.iload_n 3, 1) := by decide +kernel
theorem d4_18 : decode method_3_code 18 = .ok (.invokestatic 7, 3) := by decide +kernel
theorem d4_21 : decode method_3_code 21 = .ok (.ifCond .eq 7, 3) := by decide +kernel
theorem d4_24 : decode method_3_code 24 = .ok (.iconst 1, 1) := by decide +kernel
theorem d4_25 : decode method_3_code 25 = .ok (.goto 4, 3) := by decide +kernel
theorem d4_28 : decode method_3_code 28 = .ok (.iconst 0, 1) := by decide +kernel
theorem d4_29 : decode method_3_code 29 = .ok (.iand, 1) := by decide +kernel
theorem d4_30 : decode method_3_code 30 = .ok (.istore 6, 2) := by decide +kernel
theorem d4_32 : decode method_3_code 32 = .ok (.iload 6, 2) := by decide +kernel
theorem d4_34 : decode method_3_code 34 = .ok (.iload_n 1, 1) := by decide +kernel
theorem d4_35 : decode method_3_code 35 = .ok (.iconst 3, 1) := by decide +kernel
theorem d4_36 : decode method_3_code 36 = .ok (.if_icmp .lt 13, 3) := by decide +kernel
theorem d4_39 : decode method_3_code 39 = .ok (.aload_n 0, 1) := by decide +kernel
theorem d4_40 : decode method_3_code 40 = .ok (.iconst 2, 1) := by decide +kernel
theorem d4_41 : decode method_3_code 41 = .ok (.iload 4, 2) := by decide +kernel
theorem d4_43 : decode method_3_code 43 = .ok (.invokestatic 7, 3) := by decide +kernel
theorem d4_46 : decode method_3_code 46 = .ok (.ifCond .eq 7, 3) := by decide +kernel
theorem d4_49 : decode method_3_code 49 = .ok (.iconst 1, 1) := by decide +kernel
theorem d4_50 : decode method_3_code 50 = .ok (.goto 4, 3) := by decide +kernel
theorem d4_53 : decode method_3_code 53 = .ok (.iconst 0, 1) := by decide +kernel
theorem d4_54 : decode method_3_code 54 = .ok (.iand, 1) := by decide +kernel
theorem d4_55 : decode method_3_code 55 = .ok (.istore 6, 2) := by decide +kernel
theorem d4_57 : decode method_3_code 57 = .ok (.iload 6, 2) := by decide +kernel
theorem d4_59 : decode method_3_code 59 = .ok (.iload_n 1, 1) := by decide +kernel
theorem d4_60 : decode method_3_code 60 = .ok (.iconst 4, 1) := by decide +kernel
theorem d4_61 : decode method_3_code 61 = .ok (.if_icmp .lt 13, 3) := by decide +kernel
theorem d4_64 : decode method_3_code 64 = .ok (.aload_n 0, 1) := by decide +kernel
theorem d4_65 : decode method_3_code 65 = .ok (.iconst 3, 1) := by decide +kernel
theorem d4_66 : decode method_3_code 66 = .ok (.iload 5, 2) := by decide +kernel
theorem d4_68 : decode method_3_code 68 = .ok (.invokestatic 7, 3) := by decide +kernel
theorem d4_71 : decode method_3_code 71 = .ok (.ifCond .eq 7, 3) := by decide +kernel
theorem d4_74 : decode method_3_code 74 = .ok (.iconst 1, 1) := by decide +kernel
theorem d4_75 : decode method_3_code 75 = .ok (.goto 4, 3) := by decide +kernel
theorem d4_78 : decode method_3_code 78 = .ok (.iconst 0, 1) := by decide +kernel
theorem d4_79 : decode method_3_code 79 = .ok (.iand, 1) := by decide +kernel
theorem d4_80 : decode method_3_code 80 = .ok (.istore 6, 2) := by decide +kernel
theorem d4_82 : decode method_3_code 82 = .ok (.iload 6, 2) := by decide +kernel
theorem d4_84 : decode method_3_code 84 = .ok (.ireturn, 1) := by decide +kernel
theorem d5_0 : decode method_2_code 0 = .ok (.iload_n 1, 1) := by decide +kernel
theorem d5_1 : decode method_2_code 1 = .ok (.aload_n 0, 1) := by decide +kernel
theorem d5_2 : decode method_2_code 2 = .ok (.arraylength, 1) := by decide +kernel
theorem d5_3 : decode method_2_code 3 = .ok (.if_icmp .ge 14, 3) := by decide +kernel
theorem d5_6 : decode method_2_code 6 = .ok (.aload_n 0, 1) := by decide +kernel
theorem d5_7 : decode method_2_code 7 = .ok (.iload_n 1, 1) := by decide +kernel
theorem d5_8 : decode method_2_code 8 = .ok (.iaload, 1) := by decide +kernel
theorem d5_9 : decode method_2_code 9 = .ok (.iload_n 2, 1) := by decide +kernel
theorem d5_10 : decode method_2_code 10 = .ok (.if_icmp .ne 7, 3) := by decide +kernel
theorem d5_13 : decode method_2_code 13 = .ok (.iconst 1, 1) := by decide +kernel
theorem d5_14 : decode method_2_code 14 = .ok (.goto 4, 3) := by decide +kernel
theorem d5_17 : decode method_2_code 17 = .ok (.iconst 0, 1) := by decide +kernel
theorem d5_18 : decode method_2_code 18 = .ok (.ireturn, 1) := by decide +kernel
theorem d6_0 : decode method_4_code 0 = .ok (.iload_n 1, 1) := by decide +kernel
theorem d6_1 : decode method_4_code 1 = .ok (.iload_n 2, 1) := by decide +kernel
theorem d6_2 : decode method_4_code 2 = .ok (.if_icmp .lt 15, 3) := by decide +kernel
theorem d6_5 : decode method_4_code 5 = .ok (.iload_n 1, 1) := by decide +kernel
theorem d6_6 : decode method_4_code 6 = .ok (.aload_n 0, 1) := by decide +kernel
theorem d6_7 : decode method_4_code 7 = .ok (.arraylength, 1) := by decide +kernel
theorem d6_8 : decode method_4_code 8 = .ok (.if_icmp .ge 9, 3) := by decide +kernel
theorem d6_11 : decode method_4_code 11 = .ok (.aload_n 0, 1) := by decide +kernel
theorem d6_12 : decode method_4_code 12 = .ok (.iload_n 1, 1) := by decide +kernel
theorem d6_13 : decode method_4_code 13 = .ok (.iaload, 1) := by decide +kernel
theorem d6_14 : decode method_4_code 14 = .ok (.ifCond .ne 7, 3) := by decide +kernel
theorem d6_17 : decode method_4_code 17 = .ok (.iconst 1, 1) := by decide +kernel
theorem d6_18 : decode method_4_code 18 = .ok (.goto 4, 3) := by decide +kernel
theorem d6_21 : decode method_4_code 21 = .ok (.iconst 0, 1) := by decide +kernel
theorem d6_22 : decode method_4_code 22 = .ok (.ireturn, 1) := by decide +kernel
def QB  (h0 : Heap) (n0 : Nat) (v : Option Value) (h : Heap) (L : List Loc) : Prop := v = some (.int (1 : Int32)) ∧ Fr n0 L ∧ h = h0
def Q0  (h0 : Heap) (n0 : Nat) (v : Option Value) (h : Heap) (L : List Loc) : Prop := v = some (.int (1 : Int32)) ∧ Fr n0 L
set_option maxRecDepth 65536 in
set_option maxHeartbeats 40000000 in
theorem rmAt (l : Launch) (Z : State) (a0 : Array Value) (hw : ∀ d ∈ tables_1, d.before a0 Z = true) (ws : List Jvm.Cond) (b : Addr) (j x : Int32) (vs : List Value) (h0 : Heap) (n0 : Nat) (Z0 : n0 ≤ h0.size) (V : OwnA Z h0 b .int vs) (hj : ¬ j < 0) (hv : vs[j.toNatClampNeg]? = some (.int x)) (hl : vs.length < 2 ^ 31) :
    MetFree l (⟨"com/example/embosser/embosser/domain/PositionsRoomPinLaw", "at", "([III)Z"⟩ : MethodName) (head1 (Jvm.Cond.code (⟨"com/example/embosser/embosser/domain/PositionsRoomPinLaw", "at", "([III)Z"⟩ : MethodName) method_2_code 3 (some .boolean) :: ws) ({ frames := 0, cells := 0, slots := 0, locals := 0 } : Room)) (fun a U => a = #[(.ref b), (.int j), (.int x)] ∧ Z.Warmed39 U.vm ∧ U.heap = h0) (fun _ _ _ _ _ => True) (fun _ U o U' => ∃ v L, o = .returned v ∧ QB h0 n0 v U'.heap L ∧ FrameEnd U o U' L ({ frames := 0, cells := 0, slots := 0, locals := 0 } : Room).cells ({ frames := 0, cells := 0, slots := 0, locals := 0 } : Room).slots) := by
  refine MetFree.of_bodySF (plainFor_of_name (by first | (simp [plainName, overriddenIn]; done) | decide +kernel)) hisR ?_
  intro p e s m args below meth c s₁ Bd hml0 hP hK
  obtain ⟨rfl, hZ, hh⟩ := hP
  have hx := Bd.exec
  have hby := Bd.bytes
  have hml : c.maxLocals = 3 := hml0
  have hown : s.vm.findClass "com/example/embosser/embosser/domain/PositionsRoomPinLaw" = some m.cls := findClass_of_methodNamed Bd.named
  have hnm := (name_of_methodNamed Bd.named Bd.method).1
  have X0 : Stand p l e ({ frames := 0, cells := 0, slots := 0, locals := 0 } : Room) s m #[(.ref b), (.int j), (.int x)] below meth c s₁ [] 0 0 := Stand.of_body Bd
  have e0 : s₁.heap = h0 := by rw [← hh, Bd.state]; rfl
  have N0 := Fr.nil n0
  have ef : entryFrame m #[(.ref b), (.int j), (.int x)] 3 = (mkF m 0 #[.val (.ref b), .val (.int j), .val (.int x)] []) := by first | (simp [entryFrame, mkF, argsToLocals, Value.category]; done) | rfl
  show OwnGoes p e below (fun o U' => ∃ v L, o = .returned v ∧ QB h0 n0 v U'.heap L ∧ FrameEnd s o U' L ({ frames := 0, cells := 0, slots := 0, locals := 0 } : Room).cells ({ frames := 0, cells := 0, slots := 0, locals := 0 } : Room).slots) (s₁.setTop (entryFrame m #[(.ref b), (.int j), (.int x)] 3))
  refine own_pre (fun t k => castTop ef k) ?_
  show OwnGoes p e below _ (s₁.setTop (mkF m 0 #[.val (.ref b), .val (.int j), .val (.int x)] []))
  refine own_pre (fun _ kz_ => XS.iloadN X0.here hx rfl (hb hby d5_0) rfl kz_) ?_
  show OwnGoes p e below _ (s₁.setTop (mkF m 1 #[.val (.ref b), .val (.int j), .val (.int x)] [(.int j)]))
  refine own_pre (fun _ kz_ => XS.aloadN X0.here hx rfl (hb hby d5_1) rfl rfl kz_) ?_
  show OwnGoes p e below _ (s₁.setTop (mkF m 2 #[.val (.ref b), .val (.int j), .val (.int x)] [(.ref b), (.int j)]))
  refine own_pre (own_alen X0 hx hZ e0 V (n := (Int32.ofNat vs.length)) rfl (g := (mkF m 2 #[.val (.ref b), .val (.int j), .val (.int x)] [(.ref b), (.int j)])) rfl rfl (hb hby d5_2)) ?_
  show OwnGoes p e below _ (s₁.setTop (mkF m 3 #[.val (.ref b), .val (.int j), .val (.int x)] [(.int (Int32.ofNat vs.length)), (.int j)]))
  refine own_pre (fun _ kz_ => XS.icmpNo X0.here hx rfl (hb hby d5_3) rfl (tlt (own_jlt hj hv hl : j < (Int32.ofNat vs.length))).2.1 kz_) ?_
  show OwnGoes p e below _ (s₁.setTop (mkF m 6 #[.val (.ref b), .val (.int j), .val (.int x)] []))
  refine own_pre (fun _ kz_ => XS.aloadN X0.here hx rfl (hb hby d5_6) rfl rfl kz_) ?_
  show OwnGoes p e below _ (s₁.setTop (mkF m 7 #[.val (.ref b), .val (.int j), .val (.int x)] [(.ref b)]))
  refine own_pre (fun _ kz_ => XS.iloadN X0.here hx rfl (hb hby d5_7) rfl kz_) ?_
  show OwnGoes p e below _ (s₁.setTop (mkF m 8 #[.val (.ref b), .val (.int j), .val (.int x)] [(.int j), (.ref b)]))
  refine own_pre (own_iald X0 hx hZ e0 V (j := j) (v := (.int x)) hj hv (g := (mkF m 8 #[.val (.ref b), .val (.int j), .val (.int x)] [(.int j), (.ref b)])) rfl rfl (hb hby d5_8)) ?_
  show OwnGoes p e below _ (s₁.setTop (mkF m 9 #[.val (.ref b), .val (.int j), .val (.int x)] [(.int x)]))
  refine own_pre (fun _ kz_ => XS.iloadN X0.here hx rfl (hb hby d5_9) rfl kz_) ?_
  show OwnGoes p e below _ (s₁.setTop (mkF m 10 #[.val (.ref b), .val (.int j), .val (.int x)] [(.int x), (.int x)]))
  refine own_pre (fun _ kz_ => XS.icmpNo X0.here hx rfl (hb hby d5_10) rfl (teq (rfl : x = x)).2 kz_) ?_
  show OwnGoes p e below _ (s₁.setTop (mkF m 13 #[.val (.ref b), .val (.int j), .val (.int x)] []))
  refine own_pre (fun _ kz_ => XS.iconst X0.here hx rfl (hb hby d5_13) kz_) ?_
  show OwnGoes p e below _ (s₁.setTop (mkF m 14 #[.val (.ref b), .val (.int j), .val (.int x)] [(.int (1 : Int32))]))
  refine own_pre (fun _ kz_ => XS.goto X0.here hx rfl (pc0 := 14) (pc' := 18) rfl (hb hby d5_14) (by decide) (by decide) kz_) ?_
  show OwnGoes p e below _ (s₁.setTop (mkF m 18 #[.val (.ref b), .val (.int j), .val (.int x)] [(.int (1 : Int32))]))
  exact own_ret X0 hx Bd.returns (rfl) (Or.inl ⟨rfl, by simp, _, rfl⟩) Bd.notSynchronized (hb hby d5_18) ⟨rfl, N0, e0⟩ (by decide) (by decide)
theorem own_mono {n a b : Int32} (h : n < a) (hab : ¬ b < a) : n < b := by rw [Int32.lt_iff_toInt_lt] at *; omega
set_option maxRecDepth 65536 in
set_option maxHeartbeats 40000000 in
theorem rmPre (l : Launch) (Z : State) (a0 : Array Value) (hw : ∀ d ∈ tables_1, d.before a0 Z = true) (ws : List Jvm.Cond) (b : Addr) (n x0 x1 x2 x3 : Int32) (vs : List Value) (h0 : Heap) (n0 : Nat) (Z0 : n0 ≤ h0.size) (V : OwnA Z h0 b .int vs) (hl : vs.length < 2 ^ 31) (hv0 : vs[(0 : Int32).toNatClampNeg]? = some (.int x0)) (hv1 : ¬ n < (2 : Int32) → vs[(1 : Int32).toNatClampNeg]? = some (.int x1)) (hv2 : ¬ n < (3 : Int32) → vs[(2 : Int32).toNatClampNeg]? = some (.int x2)) (hv3 : ¬ n < (4 : Int32) → vs[(3 : Int32).toNatClampNeg]? = some (.int x3)) :
    MetFree l (⟨"com/example/embosser/embosser/domain/PositionsRoomPinLaw", "prefix", "([IIIIII)Z"⟩ : MethodName) (head1 (Jvm.Cond.code (⟨"com/example/embosser/embosser/domain/PositionsRoomPinLaw", "prefix", "([IIIIII)Z"⟩ : MethodName) method_3_code 7 (some .boolean) :: ws) ({ frames := 1, cells := 0, slots := 0, locals := 15 } : Room)) (fun a U => a = #[(.ref b), (.int n), (.int x0), (.int x1), (.int x2), (.int x3)] ∧ Z.Warmed39 U.vm ∧ U.heap = h0) (fun _ _ _ _ _ => True) (fun _ U o U' => ∃ v L, o = .returned v ∧ QB h0 n0 v U'.heap L ∧ FrameEnd U o U' L ({ frames := 1, cells := 0, slots := 0, locals := 15 } : Room).cells ({ frames := 1, cells := 0, slots := 0, locals := 15 } : Room).slots) := by
  refine MetFree.of_bodySF (plainFor_of_name (by first | (simp [plainName, overriddenIn]; done) | decide +kernel)) hisR ?_
  intro p e s m args below meth c s₁ Bd hml0 hP hK
  obtain ⟨rfl, hZ, hh⟩ := hP
  have hx := Bd.exec
  have hby := Bd.bytes
  have hml : c.maxLocals = 7 := hml0
  have hown : s.vm.findClass "com/example/embosser/embosser/domain/PositionsRoomPinLaw" = some m.cls := findClass_of_methodNamed Bd.named
  have hnm := (name_of_methodNamed Bd.named Bd.method).1
  have X0 : Stand p l e ({ frames := 1, cells := 0, slots := 0, locals := 15 } : Room) s m #[(.ref b), (.int n), (.int x0), (.int x1), (.int x2), (.int x3)] below meth c s₁ [] 0 0 := Stand.of_body Bd
  have e0 : s₁.heap = h0 := by rw [← hh, Bd.state]; rfl
  have N0 := Fr.nil n0
  have ef : entryFrame m #[(.ref b), (.int n), (.int x0), (.int x1), (.int x2), (.int x3)] 7 = (mkF m 0 #[.val (.ref b), .val (.int n), .val (.int x0), .val (.int x1), .val (.int x2), .val (.int x3), .unset] []) := by first | (simp [entryFrame, mkF, argsToLocals, Value.category]; done) | rfl
  show OwnGoes p e below (fun o U' => ∃ v L, o = .returned v ∧ QB h0 n0 v U'.heap L ∧ FrameEnd s o U' L ({ frames := 1, cells := 0, slots := 0, locals := 15 } : Room).cells ({ frames := 1, cells := 0, slots := 0, locals := 15 } : Room).slots) (s₁.setTop (entryFrame m #[(.ref b), (.int n), (.int x0), (.int x1), (.int x2), (.int x3)] 7))
  refine own_pre (fun t k => castTop ef k) ?_
  show OwnGoes p e below _ (s₁.setTop (mkF m 0 #[.val (.ref b), .val (.int n), .val (.int x0), .val (.int x1), .val (.int x2), .val (.int x3), .unset] []))
  refine own_pre (fun _ kz_ => XS.aloadN X0.here hx rfl (hb hby d4_0) rfl rfl kz_) ?_
  show OwnGoes p e below _ (s₁.setTop (mkF m 1 #[.val (.ref b), .val (.int n), .val (.int x0), .val (.int x1), .val (.int x2), .val (.int x3), .unset] [(.ref b)]))
  refine own_pre (fun _ kz_ => XS.iconst X0.here hx rfl (hb hby d4_1) kz_) ?_
  show OwnGoes p e below _ (s₁.setTop (mkF m 2 #[.val (.ref b), .val (.int n), .val (.int x0), .val (.int x1), .val (.int x2), .val (.int x3), .unset] [(.int (0 : Int32)), (.ref b)]))
  refine own_pre (fun _ kz_ => XS.iloadN X0.here hx rfl (hb hby d4_2) rfl kz_) ?_
  show OwnGoes p e below _ (s₁.setTop (mkF m 3 #[.val (.ref b), .val (.int n), .val (.int x0), .val (.int x1), .val (.int x2), .val (.int x3), .unset] [(.int x0), (.int (0 : Int32)), (.ref b)]))
  obtain ⟨_, _, ⟨T1, L1, k1, n1⟩, -, X1, ⟨Lc1, hQ1, l1, y1, z1⟩, st1⟩ := Jvm.LawKit.callS X0 hx (y := (⟨"com/example/embosser/embosser/domain/PositionsRoomPinLaw", "at", "([III)Z"⟩ : MethodName)) hown (mvT hZ (hw _ (List.mem_of_getElem? (i := 22) rfl))) (mvT hZ (hw _ (List.mem_of_getElem? (i := 23) rfl))) (mvT hZ (hw _ (List.mem_of_getElem? (i := 20) rfl))) (mvT hZ (hw _ (List.mem_of_getElem? (i := 24) rfl))) (by decide) (backOf (W := 0) (rmAt l Z a0 hw [] b (0 : Int32) x0 vs h0 n0 Z0 V (by decide) hv0 hl) hZ (hw _ (List.mem_of_getElem? (i := 24) rfl)) (hw _ (List.mem_of_getElem? (i := 20) rfl)) (by decide) (by decide)) (g := (mkF m 3 #[.val (.ref b), .val (.int n), .val (.int x0), .val (.int x1), .val (.int x2), .val (.int x3), .unset] [(.int x0), (.int (0 : Int32)), (.ref b)])) rfl (by rw [hml]; rfl) (argsL := [(.ref b), (.int (0 : Int32)), (.int x0)]) (rest := []) (lenOf (d := "([III)Z") (ps := [(.array .int), .int, .int]) (r := some .boolean) (by decide +kernel) rfl) rfl (by show 2 * 0 + _ ≤ _; exact Nat.le_of_eq rfl) (hb hby d4_3) (fun _ _ => ⟨rfl, e0, (by decide : 0 + 0 ≤ _), (by decide : 0 + 0 ≤ _)⟩)
  dsimp only [Pt.U, Pt.locs, Pt.cells, Pt.slots] at X1 l1 y1 z1 st1 hQ1
  subst l1 y1 z1
  obtain ⟨rfl, N1q, e1⟩ := hQ1
  have N1 := Fr.app N0 N1q
  refine own_pre st1 ?_
  show OwnGoes p e below _ (T1.setTop (mkF m 6 #[.val (.ref b), .val (.int n), .val (.int x0), .val (.int x1), .val (.int x2), .val (.int x3), .unset] [(.int (1 : Int32))]))
  refine own_pre (fun _ kz_ => XS.istore X1.here hx rfl (hb hby d4_6) rfl (l' := #[.val (.ref b), .val (.int n), .val (.int x0), .val (.int x1), .val (.int x2), .val (.int x3), .val (.int (1 : Int32))]) rfl kz_) ?_
  show OwnGoes p e below _ (T1.setTop (mkF m 8 #[.val (.ref b), .val (.int n), .val (.int x0), .val (.int x1), .val (.int x2), .val (.int x3), .val (.int (1 : Int32))] []))
  refine own_pre (fun _ kz_ => XS.iload X1.here hx rfl (hb hby d4_8) rfl kz_) ?_
  show OwnGoes p e below _ (T1.setTop (mkF m 10 #[.val (.ref b), .val (.int n), .val (.int x0), .val (.int x1), .val (.int x2), .val (.int x3), .val (.int (1 : Int32))] [(.int (1 : Int32))]))
  refine own_pre (fun _ kz_ => XS.iloadN X1.here hx rfl (hb hby d4_10) rfl kz_) ?_
  show OwnGoes p e below _ (T1.setTop (mkF m 11 #[.val (.ref b), .val (.int n), .val (.int x0), .val (.int x1), .val (.int x2), .val (.int x3), .val (.int (1 : Int32))] [(.int n), (.int (1 : Int32))]))
  refine own_pre (fun _ kz_ => XS.iconst X1.here hx rfl (hb hby d4_11) kz_) ?_
  show OwnGoes p e below _ (T1.setTop (mkF m 12 #[.val (.ref b), .val (.int n), .val (.int x0), .val (.int x1), .val (.int x2), .val (.int x3), .val (.int (1 : Int32))] [(.int (2 : Int32)), (.int n), (.int (1 : Int32))]))
  by_cases h12 : n < (2 : Int32)
  · refine own_pre (fun _ kz_ => XS.icmpYes X1.here hx rfl (pc0 := 12) (pc' := 24) rfl (hb hby d4_12) rfl (tlt h12).1 (by decide) (by decide) kz_) ?_
    show OwnGoes p e below _ (T1.setTop (mkF m 24 #[.val (.ref b), .val (.int n), .val (.int x0), .val (.int x1), .val (.int x2), .val (.int x3), .val (.int (1 : Int32))] [(.int (1 : Int32))]))
    refine own_pre (fun _ kz_ => XS.iconst X1.here hx rfl (hb hby d4_24) kz_) ?_
    show OwnGoes p e below _ (T1.setTop (mkF m 25 #[.val (.ref b), .val (.int n), .val (.int x0), .val (.int x1), .val (.int x2), .val (.int x3), .val (.int (1 : Int32))] [(.int (1 : Int32)), (.int (1 : Int32))]))
    refine own_pre (fun _ kz_ => XS.goto X1.here hx rfl (pc0 := 25) (pc' := 29) rfl (hb hby d4_25) (by decide) (by decide) kz_) ?_
    show OwnGoes p e below _ (T1.setTop (mkF m 29 #[.val (.ref b), .val (.int n), .val (.int x0), .val (.int x1), .val (.int x2), .val (.int x3), .val (.int (1 : Int32))] [(.int (1 : Int32)), (.int (1 : Int32))]))
    refine own_pre (fun _ kz_ => XS.iand X1.here hx rfl (hb hby d4_29) rfl kz_) ?_
    show OwnGoes p e below _ (T1.setTop (mkF m 30 #[.val (.ref b), .val (.int n), .val (.int x0), .val (.int x1), .val (.int x2), .val (.int x3), .val (.int (1 : Int32))] [(.int ((1 : Int32) &&& (1 : Int32)))]))
    rw [show ((1 : Int32) &&& (1 : Int32)) = (1 : Int32) from by decide]
    show OwnGoes p e below _ (T1.setTop (mkF m 30 #[.val (.ref b), .val (.int n), .val (.int x0), .val (.int x1), .val (.int x2), .val (.int x3), .val (.int (1 : Int32))] [(.int (1 : Int32))]))
    refine own_pre (fun _ kz_ => XS.istore X1.here hx rfl (hb hby d4_30) rfl (l' := #[.val (.ref b), .val (.int n), .val (.int x0), .val (.int x1), .val (.int x2), .val (.int x3), .val (.int (1 : Int32))]) rfl kz_) ?_
    show OwnGoes p e below _ (T1.setTop (mkF m 32 #[.val (.ref b), .val (.int n), .val (.int x0), .val (.int x1), .val (.int x2), .val (.int x3), .val (.int (1 : Int32))] []))
    refine own_pre (fun _ kz_ => XS.iload X1.here hx rfl (hb hby d4_32) rfl kz_) ?_
    show OwnGoes p e below _ (T1.setTop (mkF m 34 #[.val (.ref b), .val (.int n), .val (.int x0), .val (.int x1), .val (.int x2), .val (.int x3), .val (.int (1 : Int32))] [(.int (1 : Int32))]))
    refine own_pre (fun _ kz_ => XS.iloadN X1.here hx rfl (hb hby d4_34) rfl kz_) ?_
    show OwnGoes p e below _ (T1.setTop (mkF m 35 #[.val (.ref b), .val (.int n), .val (.int x0), .val (.int x1), .val (.int x2), .val (.int x3), .val (.int (1 : Int32))] [(.int n), (.int (1 : Int32))]))
    refine own_pre (fun _ kz_ => XS.iconst X1.here hx rfl (hb hby d4_35) kz_) ?_
    show OwnGoes p e below _ (T1.setTop (mkF m 36 #[.val (.ref b), .val (.int n), .val (.int x0), .val (.int x1), .val (.int x2), .val (.int x3), .val (.int (1 : Int32))] [(.int (3 : Int32)), (.int n), (.int (1 : Int32))]))
    refine own_pre (fun _ kz_ => XS.icmpYes X1.here hx rfl (pc0 := 36) (pc' := 49) rfl (hb hby d4_36) rfl (tlt (own_mono h12 (by decide) : n < (3 : Int32))).1 (by decide) (by decide) kz_) ?_
    show OwnGoes p e below _ (T1.setTop (mkF m 49 #[.val (.ref b), .val (.int n), .val (.int x0), .val (.int x1), .val (.int x2), .val (.int x3), .val (.int (1 : Int32))] [(.int (1 : Int32))]))
    refine own_pre (fun _ kz_ => XS.iconst X1.here hx rfl (hb hby d4_49) kz_) ?_
    show OwnGoes p e below _ (T1.setTop (mkF m 50 #[.val (.ref b), .val (.int n), .val (.int x0), .val (.int x1), .val (.int x2), .val (.int x3), .val (.int (1 : Int32))] [(.int (1 : Int32)), (.int (1 : Int32))]))
    refine own_pre (fun _ kz_ => XS.goto X1.here hx rfl (pc0 := 50) (pc' := 54) rfl (hb hby d4_50) (by decide) (by decide) kz_) ?_
    show OwnGoes p e below _ (T1.setTop (mkF m 54 #[.val (.ref b), .val (.int n), .val (.int x0), .val (.int x1), .val (.int x2), .val (.int x3), .val (.int (1 : Int32))] [(.int (1 : Int32)), (.int (1 : Int32))]))
    refine own_pre (fun _ kz_ => XS.iand X1.here hx rfl (hb hby d4_54) rfl kz_) ?_
    show OwnGoes p e below _ (T1.setTop (mkF m 55 #[.val (.ref b), .val (.int n), .val (.int x0), .val (.int x1), .val (.int x2), .val (.int x3), .val (.int (1 : Int32))] [(.int ((1 : Int32) &&& (1 : Int32)))]))
    rw [show ((1 : Int32) &&& (1 : Int32)) = (1 : Int32) from by decide]
    show OwnGoes p e below _ (T1.setTop (mkF m 55 #[.val (.ref b), .val (.int n), .val (.int x0), .val (.int x1), .val (.int x2), .val (.int x3), .val (.int (1 : Int32))] [(.int (1 : Int32))]))
    refine own_pre (fun _ kz_ => XS.istore X1.here hx rfl (hb hby d4_55) rfl (l' := #[.val (.ref b), .val (.int n), .val (.int x0), .val (.int x1), .val (.int x2), .val (.int x3), .val (.int (1 : Int32))]) rfl kz_) ?_
    show OwnGoes p e below _ (T1.setTop (mkF m 57 #[.val (.ref b), .val (.int n), .val (.int x0), .val (.int x1), .val (.int x2), .val (.int x3), .val (.int (1 : Int32))] []))
    refine own_pre (fun _ kz_ => XS.iload X1.here hx rfl (hb hby d4_57) rfl kz_) ?_
    show OwnGoes p e below _ (T1.setTop (mkF m 59 #[.val (.ref b), .val (.int n), .val (.int x0), .val (.int x1), .val (.int x2), .val (.int x3), .val (.int (1 : Int32))] [(.int (1 : Int32))]))
    refine own_pre (fun _ kz_ => XS.iloadN X1.here hx rfl (hb hby d4_59) rfl kz_) ?_
    show OwnGoes p e below _ (T1.setTop (mkF m 60 #[.val (.ref b), .val (.int n), .val (.int x0), .val (.int x1), .val (.int x2), .val (.int x3), .val (.int (1 : Int32))] [(.int n), (.int (1 : Int32))]))
    refine own_pre (fun _ kz_ => XS.iconst X1.here hx rfl (hb hby d4_60) kz_) ?_
    show OwnGoes p e below _ (T1.setTop (mkF m 61 #[.val (.ref b), .val (.int n), .val (.int x0), .val (.int x1), .val (.int x2), .val (.int x3), .val (.int (1 : Int32))] [(.int (4 : Int32)), (.int n), (.int (1 : Int32))]))
    refine own_pre (fun _ kz_ => XS.icmpYes X1.here hx rfl (pc0 := 61) (pc' := 74) rfl (hb hby d4_61) rfl (tlt (own_mono h12 (by decide) : n < (4 : Int32))).1 (by decide) (by decide) kz_) ?_
    show OwnGoes p e below _ (T1.setTop (mkF m 74 #[.val (.ref b), .val (.int n), .val (.int x0), .val (.int x1), .val (.int x2), .val (.int x3), .val (.int (1 : Int32))] [(.int (1 : Int32))]))
    refine own_pre (fun _ kz_ => XS.iconst X1.here hx rfl (hb hby d4_74) kz_) ?_
    show OwnGoes p e below _ (T1.setTop (mkF m 75 #[.val (.ref b), .val (.int n), .val (.int x0), .val (.int x1), .val (.int x2), .val (.int x3), .val (.int (1 : Int32))] [(.int (1 : Int32)), (.int (1 : Int32))]))
    refine own_pre (fun _ kz_ => XS.goto X1.here hx rfl (pc0 := 75) (pc' := 79) rfl (hb hby d4_75) (by decide) (by decide) kz_) ?_
    show OwnGoes p e below _ (T1.setTop (mkF m 79 #[.val (.ref b), .val (.int n), .val (.int x0), .val (.int x1), .val (.int x2), .val (.int x3), .val (.int (1 : Int32))] [(.int (1 : Int32)), (.int (1 : Int32))]))
    refine own_pre (fun _ kz_ => XS.iand X1.here hx rfl (hb hby d4_79) rfl kz_) ?_
    show OwnGoes p e below _ (T1.setTop (mkF m 80 #[.val (.ref b), .val (.int n), .val (.int x0), .val (.int x1), .val (.int x2), .val (.int x3), .val (.int (1 : Int32))] [(.int ((1 : Int32) &&& (1 : Int32)))]))
    rw [show ((1 : Int32) &&& (1 : Int32)) = (1 : Int32) from by decide]
    show OwnGoes p e below _ (T1.setTop (mkF m 80 #[.val (.ref b), .val (.int n), .val (.int x0), .val (.int x1), .val (.int x2), .val (.int x3), .val (.int (1 : Int32))] [(.int (1 : Int32))]))
    refine own_pre (fun _ kz_ => XS.istore X1.here hx rfl (hb hby d4_80) rfl (l' := #[.val (.ref b), .val (.int n), .val (.int x0), .val (.int x1), .val (.int x2), .val (.int x3), .val (.int (1 : Int32))]) rfl kz_) ?_
    show OwnGoes p e below _ (T1.setTop (mkF m 82 #[.val (.ref b), .val (.int n), .val (.int x0), .val (.int x1), .val (.int x2), .val (.int x3), .val (.int (1 : Int32))] []))
    refine own_pre (fun _ kz_ => XS.iload X1.here hx rfl (hb hby d4_82) rfl kz_) ?_
    show OwnGoes p e below _ (T1.setTop (mkF m 84 #[.val (.ref b), .val (.int n), .val (.int x0), .val (.int x1), .val (.int x2), .val (.int x3), .val (.int (1 : Int32))] [(.int (1 : Int32))]))
    exact own_ret X1 hx Bd.returns (rfl) (Or.inl ⟨rfl, by simp, _, rfl⟩) Bd.notSynchronized (hb hby d4_84) ⟨rfl, N1, e1⟩ (by decide) (by decide)
  · refine own_pre (fun _ kz_ => XS.icmpNo X1.here hx rfl (hb hby d4_12) rfl (flt h12).1 kz_) ?_
    show OwnGoes p e below _ (T1.setTop (mkF m 15 #[.val (.ref b), .val (.int n), .val (.int x0), .val (.int x1), .val (.int x2), .val (.int x3), .val (.int (1 : Int32))] [(.int (1 : Int32))]))
    refine own_pre (fun _ kz_ => XS.aloadN X1.here hx rfl (hb hby d4_15) rfl rfl kz_) ?_
    show OwnGoes p e below _ (T1.setTop (mkF m 16 #[.val (.ref b), .val (.int n), .val (.int x0), .val (.int x1), .val (.int x2), .val (.int x3), .val (.int (1 : Int32))] [(.ref b), (.int (1 : Int32))]))
    refine own_pre (fun _ kz_ => XS.iconst X1.here hx rfl (hb hby d4_16) kz_) ?_
    show OwnGoes p e below _ (T1.setTop (mkF m 17 #[.val (.ref b), .val (.int n), .val (.int x0), .val (.int x1), .val (.int x2), .val (.int x3), .val (.int (1 : Int32))] [(.int (1 : Int32)), (.ref b), (.int (1 : Int32))]))
    refine own_pre (fun _ kz_ => XS.iloadN X1.here hx rfl (hb hby d4_17) rfl kz_) ?_
    show OwnGoes p e below _ (T1.setTop (mkF m 18 #[.val (.ref b), .val (.int n), .val (.int x0), .val (.int x1), .val (.int x2), .val (.int x3), .val (.int (1 : Int32))] [(.int x1), (.int (1 : Int32)), (.ref b), (.int (1 : Int32))]))
    obtain ⟨_, _, ⟨T2, L2, k2, n2⟩, -, X2, ⟨Lc2, hQ2, l2, y2, z2⟩, st2⟩ := Jvm.LawKit.callS X1 hx (y := (⟨"com/example/embosser/embosser/domain/PositionsRoomPinLaw", "at", "([III)Z"⟩ : MethodName)) hown (mvT hZ (hw _ (List.mem_of_getElem? (i := 22) rfl))) (mvT hZ (hw _ (List.mem_of_getElem? (i := 23) rfl))) (mvT hZ (hw _ (List.mem_of_getElem? (i := 20) rfl))) (mvT hZ (hw _ (List.mem_of_getElem? (i := 24) rfl))) (by decide) (backOf (W := 1) (rmAt l Z a0 hw [] b (1 : Int32) x1 vs h0 n0 Z0 V (by decide) (hv1 h12) hl) hZ (hw _ (List.mem_of_getElem? (i := 24) rfl)) (hw _ (List.mem_of_getElem? (i := 20) rfl)) (by decide) (by decide)) (g := (mkF m 18 #[.val (.ref b), .val (.int n), .val (.int x0), .val (.int x1), .val (.int x2), .val (.int x3), .val (.int (1 : Int32))] [(.int x1), (.int (1 : Int32)), (.ref b), (.int (1 : Int32))])) rfl (by rw [hml]; rfl) (argsL := [(.ref b), (.int (1 : Int32)), (.int x1)]) (rest := [(.int (1 : Int32))]) (lenOf (d := "([III)Z") (ps := [(.array .int), .int, .int]) (r := some .boolean) (by decide +kernel) rfl) rfl (by show 2 * 0 + _ ≤ _; exact Nat.le_of_eq rfl) (hb hby d4_18) (fun _ _ => ⟨rfl, e1, (by decide : 0 + 0 ≤ _), (by decide : 0 + 0 ≤ _)⟩)
    dsimp only [Pt.U, Pt.locs, Pt.cells, Pt.slots] at X2 l2 y2 z2 st2 hQ2
    subst l2 y2 z2
    obtain ⟨rfl, N2q, e2⟩ := hQ2
    have N2 := Fr.app N1 N2q
    refine own_pre st2 ?_
    show OwnGoes p e below _ (T2.setTop (mkF m 21 #[.val (.ref b), .val (.int n), .val (.int x0), .val (.int x1), .val (.int x2), .val (.int x3), .val (.int (1 : Int32))] [(.int (1 : Int32)), (.int (1 : Int32))]))
    refine own_pre (fun _ kz_ => XS.ifNo X2.here hx rfl (hb hby d4_21) rfl ((if0 _ _).trans (feq (by decide : ¬ ((1 : Int32) = (0 : Int32)))).1) kz_) ?_
    show OwnGoes p e below _ (T2.setTop (mkF m 24 #[.val (.ref b), .val (.int n), .val (.int x0), .val (.int x1), .val (.int x2), .val (.int x3), .val (.int (1 : Int32))] [(.int (1 : Int32))]))
    refine own_pre (fun _ kz_ => XS.iconst X2.here hx rfl (hb hby d4_24) kz_) ?_
    show OwnGoes p e below _ (T2.setTop (mkF m 25 #[.val (.ref b), .val (.int n), .val (.int x0), .val (.int x1), .val (.int x2), .val (.int x3), .val (.int (1 : Int32))] [(.int (1 : Int32)), (.int (1 : Int32))]))
    refine own_pre (fun _ kz_ => XS.goto X2.here hx rfl (pc0 := 25) (pc' := 29) rfl (hb hby d4_25) (by decide) (by decide) kz_) ?_
    show OwnGoes p e below _ (T2.setTop (mkF m 29 #[.val (.ref b), .val (.int n), .val (.int x0), .val (.int x1), .val (.int x2), .val (.int x3), .val (.int (1 : Int32))] [(.int (1 : Int32)), (.int (1 : Int32))]))
    refine own_pre (fun _ kz_ => XS.iand X2.here hx rfl (hb hby d4_29) rfl kz_) ?_
    show OwnGoes p e below _ (T2.setTop (mkF m 30 #[.val (.ref b), .val (.int n), .val (.int x0), .val (.int x1), .val (.int x2), .val (.int x3), .val (.int (1 : Int32))] [(.int ((1 : Int32) &&& (1 : Int32)))]))
    rw [show ((1 : Int32) &&& (1 : Int32)) = (1 : Int32) from by decide]
    show OwnGoes p e below _ (T2.setTop (mkF m 30 #[.val (.ref b), .val (.int n), .val (.int x0), .val (.int x1), .val (.int x2), .val (.int x3), .val (.int (1 : Int32))] [(.int (1 : Int32))]))
    refine own_pre (fun _ kz_ => XS.istore X2.here hx rfl (hb hby d4_30) rfl (l' := #[.val (.ref b), .val (.int n), .val (.int x0), .val (.int x1), .val (.int x2), .val (.int x3), .val (.int (1 : Int32))]) rfl kz_) ?_
    show OwnGoes p e below _ (T2.setTop (mkF m 32 #[.val (.ref b), .val (.int n), .val (.int x0), .val (.int x1), .val (.int x2), .val (.int x3), .val (.int (1 : Int32))] []))
    refine own_pre (fun _ kz_ => XS.iload X2.here hx rfl (hb hby d4_32) rfl kz_) ?_
    show OwnGoes p e below _ (T2.setTop (mkF m 34 #[.val (.ref b), .val (.int n), .val (.int x0), .val (.int x1), .val (.int x2), .val (.int x3), .val (.int (1 : Int32))] [(.int (1 : Int32))]))
    refine own_pre (fun _ kz_ => XS.iloadN X2.here hx rfl (hb hby d4_34) rfl kz_) ?_
    show OwnGoes p e below _ (T2.setTop (mkF m 35 #[.val (.ref b), .val (.int n), .val (.int x0), .val (.int x1), .val (.int x2), .val (.int x3), .val (.int (1 : Int32))] [(.int n), (.int (1 : Int32))]))
    refine own_pre (fun _ kz_ => XS.iconst X2.here hx rfl (hb hby d4_35) kz_) ?_
    show OwnGoes p e below _ (T2.setTop (mkF m 36 #[.val (.ref b), .val (.int n), .val (.int x0), .val (.int x1), .val (.int x2), .val (.int x3), .val (.int (1 : Int32))] [(.int (3 : Int32)), (.int n), (.int (1 : Int32))]))
    by_cases h36 : n < (3 : Int32)
    · refine own_pre (fun _ kz_ => XS.icmpYes X2.here hx rfl (pc0 := 36) (pc' := 49) rfl (hb hby d4_36) rfl (tlt h36).1 (by decide) (by decide) kz_) ?_
      show OwnGoes p e below _ (T2.setTop (mkF m 49 #[.val (.ref b), .val (.int n), .val (.int x0), .val (.int x1), .val (.int x2), .val (.int x3), .val (.int (1 : Int32))] [(.int (1 : Int32))]))
      refine own_pre (fun _ kz_ => XS.iconst X2.here hx rfl (hb hby d4_49) kz_) ?_
      show OwnGoes p e below _ (T2.setTop (mkF m 50 #[.val (.ref b), .val (.int n), .val (.int x0), .val (.int x1), .val (.int x2), .val (.int x3), .val (.int (1 : Int32))] [(.int (1 : Int32)), (.int (1 : Int32))]))
      refine own_pre (fun _ kz_ => XS.goto X2.here hx rfl (pc0 := 50) (pc' := 54) rfl (hb hby d4_50) (by decide) (by decide) kz_) ?_
      show OwnGoes p e below _ (T2.setTop (mkF m 54 #[.val (.ref b), .val (.int n), .val (.int x0), .val (.int x1), .val (.int x2), .val (.int x3), .val (.int (1 : Int32))] [(.int (1 : Int32)), (.int (1 : Int32))]))
      refine own_pre (fun _ kz_ => XS.iand X2.here hx rfl (hb hby d4_54) rfl kz_) ?_
      show OwnGoes p e below _ (T2.setTop (mkF m 55 #[.val (.ref b), .val (.int n), .val (.int x0), .val (.int x1), .val (.int x2), .val (.int x3), .val (.int (1 : Int32))] [(.int ((1 : Int32) &&& (1 : Int32)))]))
      rw [show ((1 : Int32) &&& (1 : Int32)) = (1 : Int32) from by decide]
      show OwnGoes p e below _ (T2.setTop (mkF m 55 #[.val (.ref b), .val (.int n), .val (.int x0), .val (.int x1), .val (.int x2), .val (.int x3), .val (.int (1 : Int32))] [(.int (1 : Int32))]))
      refine own_pre (fun _ kz_ => XS.istore X2.here hx rfl (hb hby d4_55) rfl (l' := #[.val (.ref b), .val (.int n), .val (.int x0), .val (.int x1), .val (.int x2), .val (.int x3), .val (.int (1 : Int32))]) rfl kz_) ?_
      show OwnGoes p e below _ (T2.setTop (mkF m 57 #[.val (.ref b), .val (.int n), .val (.int x0), .val (.int x1), .val (.int x2), .val (.int x3), .val (.int (1 : Int32))] []))
      refine own_pre (fun _ kz_ => XS.iload X2.here hx rfl (hb hby d4_57) rfl kz_) ?_
      show OwnGoes p e below _ (T2.setTop (mkF m 59 #[.val (.ref b), .val (.int n), .val (.int x0), .val (.int x1), .val (.int x2), .val (.int x3), .val (.int (1 : Int32))] [(.int (1 : Int32))]))
      refine own_pre (fun _ kz_ => XS.iloadN X2.here hx rfl (hb hby d4_59) rfl kz_) ?_
      show OwnGoes p e below _ (T2.setTop (mkF m 60 #[.val (.ref b), .val (.int n), .val (.int x0), .val (.int x1), .val (.int x2), .val (.int x3), .val (.int (1 : Int32))] [(.int n), (.int (1 : Int32))]))
      refine own_pre (fun _ kz_ => XS.iconst X2.here hx rfl (hb hby d4_60) kz_) ?_
      show OwnGoes p e below _ (T2.setTop (mkF m 61 #[.val (.ref b), .val (.int n), .val (.int x0), .val (.int x1), .val (.int x2), .val (.int x3), .val (.int (1 : Int32))] [(.int (4 : Int32)), (.int n), (.int (1 : Int32))]))
      refine own_pre (fun _ kz_ => XS.icmpYes X2.here hx rfl (pc0 := 61) (pc' := 74) rfl (hb hby d4_61) rfl (tlt (own_mono h36 (by decide) : n < (4 : Int32))).1 (by decide) (by decide) kz_) ?_
      show OwnGoes p e below _ (T2.setTop (mkF m 74 #[.val (.ref b), .val (.int n), .val (.int x0), .val (.int x1), .val (.int x2), .val (.int x3), .val (.int (1 : Int32))] [(.int (1 : Int32))]))
      refine own_pre (fun _ kz_ => XS.iconst X2.here hx rfl (hb hby d4_74) kz_) ?_
      show OwnGoes p e below _ (T2.setTop (mkF m 75 #[.val (.ref b), .val (.int n), .val (.int x0), .val (.int x1), .val (.int x2), .val (.int x3), .val (.int (1 : Int32))] [(.int (1 : Int32)), (.int (1 : Int32))]))
      refine own_pre (fun _ kz_ => XS.goto X2.here hx rfl (pc0 := 75) (pc' := 79) rfl (hb hby d4_75) (by decide) (by decide) kz_) ?_
      show OwnGoes p e below _ (T2.setTop (mkF m 79 #[.val (.ref b), .val (.int n), .val (.int x0), .val (.int x1), .val (.int x2), .val (.int x3), .val (.int (1 : Int32))] [(.int (1 : Int32)), (.int (1 : Int32))]))
      refine own_pre (fun _ kz_ => XS.iand X2.here hx rfl (hb hby d4_79) rfl kz_) ?_
      show OwnGoes p e below _ (T2.setTop (mkF m 80 #[.val (.ref b), .val (.int n), .val (.int x0), .val (.int x1), .val (.int x2), .val (.int x3), .val (.int (1 : Int32))] [(.int ((1 : Int32) &&& (1 : Int32)))]))
      rw [show ((1 : Int32) &&& (1 : Int32)) = (1 : Int32) from by decide]
      show OwnGoes p e below _ (T2.setTop (mkF m 80 #[.val (.ref b), .val (.int n), .val (.int x0), .val (.int x1), .val (.int x2), .val (.int x3), .val (.int (1 : Int32))] [(.int (1 : Int32))]))
      refine own_pre (fun _ kz_ => XS.istore X2.here hx rfl (hb hby d4_80) rfl (l' := #[.val (.ref b), .val (.int n), .val (.int x0), .val (.int x1), .val (.int x2), .val (.int x3), .val (.int (1 : Int32))]) rfl kz_) ?_
      show OwnGoes p e below _ (T2.setTop (mkF m 82 #[.val (.ref b), .val (.int n), .val (.int x0), .val (.int x1), .val (.int x2), .val (.int x3), .val (.int (1 : Int32))] []))
      refine own_pre (fun _ kz_ => XS.iload X2.here hx rfl (hb hby d4_82) rfl kz_) ?_
      show OwnGoes p e below _ (T2.setTop (mkF m 84 #[.val (.ref b), .val (.int n), .val (.int x0), .val (.int x1), .val (.int x2), .val (.int x3), .val (.int (1 : Int32))] [(.int (1 : Int32))]))
      exact own_ret X2 hx Bd.returns (rfl) (Or.inl ⟨rfl, by simp, _, rfl⟩) Bd.notSynchronized (hb hby d4_84) ⟨rfl, N2, e2⟩ (by decide) (by decide)
    · refine own_pre (fun _ kz_ => XS.icmpNo X2.here hx rfl (hb hby d4_36) rfl (flt h36).1 kz_) ?_
      show OwnGoes p e below _ (T2.setTop (mkF m 39 #[.val (.ref b), .val (.int n), .val (.int x0), .val (.int x1), .val (.int x2), .val (.int x3), .val (.int (1 : Int32))] [(.int (1 : Int32))]))
      refine own_pre (fun _ kz_ => XS.aloadN X2.here hx rfl (hb hby d4_39) rfl rfl kz_) ?_
      show OwnGoes p e below _ (T2.setTop (mkF m 40 #[.val (.ref b), .val (.int n), .val (.int x0), .val (.int x1), .val (.int x2), .val (.int x3), .val (.int (1 : Int32))] [(.ref b), (.int (1 : Int32))]))
      refine own_pre (fun _ kz_ => XS.iconst X2.here hx rfl (hb hby d4_40) kz_) ?_
      show OwnGoes p e below _ (T2.setTop (mkF m 41 #[.val (.ref b), .val (.int n), .val (.int x0), .val (.int x1), .val (.int x2), .val (.int x3), .val (.int (1 : Int32))] [(.int (2 : Int32)), (.ref b), (.int (1 : Int32))]))
      refine own_pre (fun _ kz_ => XS.iload X2.here hx rfl (hb hby d4_41) rfl kz_) ?_
      show OwnGoes p e below _ (T2.setTop (mkF m 43 #[.val (.ref b), .val (.int n), .val (.int x0), .val (.int x1), .val (.int x2), .val (.int x3), .val (.int (1 : Int32))] [(.int x2), (.int (2 : Int32)), (.ref b), (.int (1 : Int32))]))
      obtain ⟨_, _, ⟨T3, L3, k3, n3⟩, -, X3, ⟨Lc3, hQ3, l3, y3, z3⟩, st3⟩ := Jvm.LawKit.callS X2 hx (y := (⟨"com/example/embosser/embosser/domain/PositionsRoomPinLaw", "at", "([III)Z"⟩ : MethodName)) hown (mvT hZ (hw _ (List.mem_of_getElem? (i := 22) rfl))) (mvT hZ (hw _ (List.mem_of_getElem? (i := 23) rfl))) (mvT hZ (hw _ (List.mem_of_getElem? (i := 20) rfl))) (mvT hZ (hw _ (List.mem_of_getElem? (i := 24) rfl))) (by decide) (backOf (W := 1) (rmAt l Z a0 hw [] b (2 : Int32) x2 vs h0 n0 Z0 V (by decide) (hv2 h36) hl) hZ (hw _ (List.mem_of_getElem? (i := 24) rfl)) (hw _ (List.mem_of_getElem? (i := 20) rfl)) (by decide) (by decide)) (g := (mkF m 43 #[.val (.ref b), .val (.int n), .val (.int x0), .val (.int x1), .val (.int x2), .val (.int x3), .val (.int (1 : Int32))] [(.int x2), (.int (2 : Int32)), (.ref b), (.int (1 : Int32))])) rfl (by rw [hml]; rfl) (argsL := [(.ref b), (.int (2 : Int32)), (.int x2)]) (rest := [(.int (1 : Int32))]) (lenOf (d := "([III)Z") (ps := [(.array .int), .int, .int]) (r := some .boolean) (by decide +kernel) rfl) rfl (by show 2 * 0 + _ ≤ _; exact Nat.le_of_eq rfl) (hb hby d4_43) (fun _ _ => ⟨rfl, e2, (by decide : 0 + 0 ≤ _), (by decide : 0 + 0 ≤ _)⟩)
      dsimp only [Pt.U, Pt.locs, Pt.cells, Pt.slots] at X3 l3 y3 z3 st3 hQ3
      subst l3 y3 z3
      obtain ⟨rfl, N3q, e3⟩ := hQ3
      have N3 := Fr.app N2 N3q
      refine own_pre st3 ?_
      show OwnGoes p e below _ (T3.setTop (mkF m 46 #[.val (.ref b), .val (.int n), .val (.int x0), .val (.int x1), .val (.int x2), .val (.int x3), .val (.int (1 : Int32))] [(.int (1 : Int32)), (.int (1 : Int32))]))
      refine own_pre (fun _ kz_ => XS.ifNo X3.here hx rfl (hb hby d4_46) rfl ((if0 _ _).trans (feq (by decide : ¬ ((1 : Int32) = (0 : Int32)))).1) kz_) ?_
      show OwnGoes p e below _ (T3.setTop (mkF m 49 #[.val (.ref b), .val (.int n), .val (.int x0), .val (.int x1), .val (.int x2), .val (.int x3), .val (.int (1 : Int32))] [(.int (1 : Int32))]))
      refine own_pre (fun _ kz_ => XS.iconst X3.here hx rfl (hb hby d4_49) kz_) ?_
      show OwnGoes p e below _ (T3.setTop (mkF m 50 #[.val (.ref b), .val (.int n), .val (.int x0), .val (.int x1), .val (.int x2), .val (.int x3), .val (.int (1 : Int32))] [(.int (1 : Int32)), (.int (1 : Int32))]))
      refine own_pre (fun _ kz_ => XS.goto X3.here hx rfl (pc0 := 50) (pc' := 54) rfl (hb hby d4_50) (by decide) (by decide) kz_) ?_
      show OwnGoes p e below _ (T3.setTop (mkF m 54 #[.val (.ref b), .val (.int n), .val (.int x0), .val (.int x1), .val (.int x2), .val (.int x3), .val (.int (1 : Int32))] [(.int (1 : Int32)), (.int (1 : Int32))]))
      refine own_pre (fun _ kz_ => XS.iand X3.here hx rfl (hb hby d4_54) rfl kz_) ?_
      show OwnGoes p e below _ (T3.setTop (mkF m 55 #[.val (.ref b), .val (.int n), .val (.int x0), .val (.int x1), .val (.int x2), .val (.int x3), .val (.int (1 : Int32))] [(.int ((1 : Int32) &&& (1 : Int32)))]))
      rw [show ((1 : Int32) &&& (1 : Int32)) = (1 : Int32) from by decide]
      show OwnGoes p e below _ (T3.setTop (mkF m 55 #[.val (.ref b), .val (.int n), .val (.int x0), .val (.int x1), .val (.int x2), .val (.int x3), .val (.int (1 : Int32))] [(.int (1 : Int32))]))
      refine own_pre (fun _ kz_ => XS.istore X3.here hx rfl (hb hby d4_55) rfl (l' := #[.val (.ref b), .val (.int n), .val (.int x0), .val (.int x1), .val (.int x2), .val (.int x3), .val (.int (1 : Int32))]) rfl kz_) ?_
      show OwnGoes p e below _ (T3.setTop (mkF m 57 #[.val (.ref b), .val (.int n), .val (.int x0), .val (.int x1), .val (.int x2), .val (.int x3), .val (.int (1 : Int32))] []))
      refine own_pre (fun _ kz_ => XS.iload X3.here hx rfl (hb hby d4_57) rfl kz_) ?_
      show OwnGoes p e below _ (T3.setTop (mkF m 59 #[.val (.ref b), .val (.int n), .val (.int x0), .val (.int x1), .val (.int x2), .val (.int x3), .val (.int (1 : Int32))] [(.int (1 : Int32))]))
      refine own_pre (fun _ kz_ => XS.iloadN X3.here hx rfl (hb hby d4_59) rfl kz_) ?_
      show OwnGoes p e below _ (T3.setTop (mkF m 60 #[.val (.ref b), .val (.int n), .val (.int x0), .val (.int x1), .val (.int x2), .val (.int x3), .val (.int (1 : Int32))] [(.int n), (.int (1 : Int32))]))
      refine own_pre (fun _ kz_ => XS.iconst X3.here hx rfl (hb hby d4_60) kz_) ?_
      show OwnGoes p e below _ (T3.setTop (mkF m 61 #[.val (.ref b), .val (.int n), .val (.int x0), .val (.int x1), .val (.int x2), .val (.int x3), .val (.int (1 : Int32))] [(.int (4 : Int32)), (.int n), (.int (1 : Int32))]))
      by_cases h61 : n < (4 : Int32)
      · refine own_pre (fun _ kz_ => XS.icmpYes X3.here hx rfl (pc0 := 61) (pc' := 74) rfl (hb hby d4_61) rfl (tlt h61).1 (by decide) (by decide) kz_) ?_
        show OwnGoes p e below _ (T3.setTop (mkF m 74 #[.val (.ref b), .val (.int n), .val (.int x0), .val (.int x1), .val (.int x2), .val (.int x3), .val (.int (1 : Int32))] [(.int (1 : Int32))]))
        refine own_pre (fun _ kz_ => XS.iconst X3.here hx rfl (hb hby d4_74) kz_) ?_
        show OwnGoes p e below _ (T3.setTop (mkF m 75 #[.val (.ref b), .val (.int n), .val (.int x0), .val (.int x1), .val (.int x2), .val (.int x3), .val (.int (1 : Int32))] [(.int (1 : Int32)), (.int (1 : Int32))]))
        refine own_pre (fun _ kz_ => XS.goto X3.here hx rfl (pc0 := 75) (pc' := 79) rfl (hb hby d4_75) (by decide) (by decide) kz_) ?_
        show OwnGoes p e below _ (T3.setTop (mkF m 79 #[.val (.ref b), .val (.int n), .val (.int x0), .val (.int x1), .val (.int x2), .val (.int x3), .val (.int (1 : Int32))] [(.int (1 : Int32)), (.int (1 : Int32))]))
        refine own_pre (fun _ kz_ => XS.iand X3.here hx rfl (hb hby d4_79) rfl kz_) ?_
        show OwnGoes p e below _ (T3.setTop (mkF m 80 #[.val (.ref b), .val (.int n), .val (.int x0), .val (.int x1), .val (.int x2), .val (.int x3), .val (.int (1 : Int32))] [(.int ((1 : Int32) &&& (1 : Int32)))]))
        rw [show ((1 : Int32) &&& (1 : Int32)) = (1 : Int32) from by decide]
        show OwnGoes p e below _ (T3.setTop (mkF m 80 #[.val (.ref b), .val (.int n), .val (.int x0), .val (.int x1), .val (.int x2), .val (.int x3), .val (.int (1 : Int32))] [(.int (1 : Int32))]))
        refine own_pre (fun _ kz_ => XS.istore X3.here hx rfl (hb hby d4_80) rfl (l' := #[.val (.ref b), .val (.int n), .val (.int x0), .val (.int x1), .val (.int x2), .val (.int x3), .val (.int (1 : Int32))]) rfl kz_) ?_
        show OwnGoes p e below _ (T3.setTop (mkF m 82 #[.val (.ref b), .val (.int n), .val (.int x0), .val (.int x1), .val (.int x2), .val (.int x3), .val (.int (1 : Int32))] []))
        refine own_pre (fun _ kz_ => XS.iload X3.here hx rfl (hb hby d4_82) rfl kz_) ?_
        show OwnGoes p e below _ (T3.setTop (mkF m 84 #[.val (.ref b), .val (.int n), .val (.int x0), .val (.int x1), .val (.int x2), .val (.int x3), .val (.int (1 : Int32))] [(.int (1 : Int32))]))
        exact own_ret X3 hx Bd.returns (rfl) (Or.inl ⟨rfl, by simp, _, rfl⟩) Bd.notSynchronized (hb hby d4_84) ⟨rfl, N3, e3⟩ (by decide) (by decide)
      · refine own_pre (fun _ kz_ => XS.icmpNo X3.here hx rfl (hb hby d4_61) rfl (flt h61).1 kz_) ?_
        show OwnGoes p e below _ (T3.setTop (mkF m 64 #[.val (.ref b), .val (.int n), .val (.int x0), .val (.int x1), .val (.int x2), .val (.int x3), .val (.int (1 : Int32))] [(.int (1 : Int32))]))
        refine own_pre (fun _ kz_ => XS.aloadN X3.here hx rfl (hb hby d4_64) rfl rfl kz_) ?_
        show OwnGoes p e below _ (T3.setTop (mkF m 65 #[.val (.ref b), .val (.int n), .val (.int x0), .val (.int x1), .val (.int x2), .val (.int x3), .val (.int (1 : Int32))] [(.ref b), (.int (1 : Int32))]))
        refine own_pre (fun _ kz_ => XS.iconst X3.here hx rfl (hb hby d4_65) kz_) ?_
        show OwnGoes p e below _ (T3.setTop (mkF m 66 #[.val (.ref b), .val (.int n), .val (.int x0), .val (.int x1), .val (.int x2), .val (.int x3), .val (.int (1 : Int32))] [(.int (3 : Int32)), (.ref b), (.int (1 : Int32))]))
        refine own_pre (fun _ kz_ => XS.iload X3.here hx rfl (hb hby d4_66) rfl kz_) ?_
        show OwnGoes p e below _ (T3.setTop (mkF m 68 #[.val (.ref b), .val (.int n), .val (.int x0), .val (.int x1), .val (.int x2), .val (.int x3), .val (.int (1 : Int32))] [(.int x3), (.int (3 : Int32)), (.ref b), (.int (1 : Int32))]))
        obtain ⟨_, _, ⟨T4, L4, k4, n4⟩, -, X4, ⟨Lc4, hQ4, l4, y4, z4⟩, st4⟩ := Jvm.LawKit.callS X3 hx (y := (⟨"com/example/embosser/embosser/domain/PositionsRoomPinLaw", "at", "([III)Z"⟩ : MethodName)) hown (mvT hZ (hw _ (List.mem_of_getElem? (i := 22) rfl))) (mvT hZ (hw _ (List.mem_of_getElem? (i := 23) rfl))) (mvT hZ (hw _ (List.mem_of_getElem? (i := 20) rfl))) (mvT hZ (hw _ (List.mem_of_getElem? (i := 24) rfl))) (by decide) (backOf (W := 1) (rmAt l Z a0 hw [] b (3 : Int32) x3 vs h0 n0 Z0 V (by decide) (hv3 h61) hl) hZ (hw _ (List.mem_of_getElem? (i := 24) rfl)) (hw _ (List.mem_of_getElem? (i := 20) rfl)) (by decide) (by decide)) (g := (mkF m 68 #[.val (.ref b), .val (.int n), .val (.int x0), .val (.int x1), .val (.int x2), .val (.int x3), .val (.int (1 : Int32))] [(.int x3), (.int (3 : Int32)), (.ref b), (.int (1 : Int32))])) rfl (by rw [hml]; rfl) (argsL := [(.ref b), (.int (3 : Int32)), (.int x3)]) (rest := [(.int (1 : Int32))]) (lenOf (d := "([III)Z") (ps := [(.array .int), .int, .int]) (r := some .boolean) (by decide +kernel) rfl) rfl (by show 2 * 0 + _ ≤ _; exact Nat.le_of_eq rfl) (hb hby d4_68) (fun _ _ => ⟨rfl, e3, (by decide : 0 + 0 ≤ _), (by decide : 0 + 0 ≤ _)⟩)
        dsimp only [Pt.U, Pt.locs, Pt.cells, Pt.slots] at X4 l4 y4 z4 st4 hQ4
        subst l4 y4 z4
        obtain ⟨rfl, N4q, e4⟩ := hQ4
        have N4 := Fr.app N3 N4q
        refine own_pre st4 ?_
        show OwnGoes p e below _ (T4.setTop (mkF m 71 #[.val (.ref b), .val (.int n), .val (.int x0), .val (.int x1), .val (.int x2), .val (.int x3), .val (.int (1 : Int32))] [(.int (1 : Int32)), (.int (1 : Int32))]))
        refine own_pre (fun _ kz_ => XS.ifNo X4.here hx rfl (hb hby d4_71) rfl ((if0 _ _).trans (feq (by decide : ¬ ((1 : Int32) = (0 : Int32)))).1) kz_) ?_
        show OwnGoes p e below _ (T4.setTop (mkF m 74 #[.val (.ref b), .val (.int n), .val (.int x0), .val (.int x1), .val (.int x2), .val (.int x3), .val (.int (1 : Int32))] [(.int (1 : Int32))]))
        refine own_pre (fun _ kz_ => XS.iconst X4.here hx rfl (hb hby d4_74) kz_) ?_
        show OwnGoes p e below _ (T4.setTop (mkF m 75 #[.val (.ref b), .val (.int n), .val (.int x0), .val (.int x1), .val (.int x2), .val (.int x3), .val (.int (1 : Int32))] [(.int (1 : Int32)), (.int (1 : Int32))]))
        refine own_pre (fun _ kz_ => XS.goto X4.here hx rfl (pc0 := 75) (pc' := 79) rfl (hb hby d4_75) (by decide) (by decide) kz_) ?_
        show OwnGoes p e below _ (T4.setTop (mkF m 79 #[.val (.ref b), .val (.int n), .val (.int x0), .val (.int x1), .val (.int x2), .val (.int x3), .val (.int (1 : Int32))] [(.int (1 : Int32)), (.int (1 : Int32))]))
        refine own_pre (fun _ kz_ => XS.iand X4.here hx rfl (hb hby d4_79) rfl kz_) ?_
        show OwnGoes p e below _ (T4.setTop (mkF m 80 #[.val (.ref b), .val (.int n), .val (.int x0), .val (.int x1), .val (.int x2), .val (.int x3), .val (.int (1 : Int32))] [(.int ((1 : Int32) &&& (1 : Int32)))]))
        rw [show ((1 : Int32) &&& (1 : Int32)) = (1 : Int32) from by decide]
        show OwnGoes p e below _ (T4.setTop (mkF m 80 #[.val (.ref b), .val (.int n), .val (.int x0), .val (.int x1), .val (.int x2), .val (.int x3), .val (.int (1 : Int32))] [(.int (1 : Int32))]))
        refine own_pre (fun _ kz_ => XS.istore X4.here hx rfl (hb hby d4_80) rfl (l' := #[.val (.ref b), .val (.int n), .val (.int x0), .val (.int x1), .val (.int x2), .val (.int x3), .val (.int (1 : Int32))]) rfl kz_) ?_
        show OwnGoes p e below _ (T4.setTop (mkF m 82 #[.val (.ref b), .val (.int n), .val (.int x0), .val (.int x1), .val (.int x2), .val (.int x3), .val (.int (1 : Int32))] []))
        refine own_pre (fun _ kz_ => XS.iload X4.here hx rfl (hb hby d4_82) rfl kz_) ?_
        show OwnGoes p e below _ (T4.setTop (mkF m 84 #[.val (.ref b), .val (.int n), .val (.int x0), .val (.int x1), .val (.int x2), .val (.int x3), .val (.int (1 : Int32))] [(.int (1 : Int32))]))
        exact own_ret X4 hx Bd.returns (rfl) (Or.inl ⟨rfl, by simp, _, rfl⟩) Bd.notSynchronized (hb hby d4_84) ⟨rfl, N4, e4⟩ (by decide) (by decide)
set_option maxRecDepth 65536 in
set_option maxHeartbeats 40000000 in
theorem rmZ (l : Launch) (Z : State) (a0 : Array Value) (hw : ∀ d ∈ tables_1, d.before a0 Z = true) (ws : List Jvm.Cond) (b : Addr) (i n : Int32) (vs : List Value) (h0 : Heap) (n0 : Nat) (Z0 : n0 ≤ h0.size) (V : OwnA Z h0 b .int vs) (hi : ¬ i < 0) (hz : ¬ i < n → i < Int32.ofNat vs.length → vs[i.toNatClampNeg]? = some (.int (0 : Int32))) :
    MetFree l (⟨"com/example/embosser/embosser/domain/PositionsRoomPinLaw", "zeroAfter", "([III)Z"⟩ : MethodName) (head1 (Jvm.Cond.code (⟨"com/example/embosser/embosser/domain/PositionsRoomPinLaw", "zeroAfter", "([III)Z"⟩ : MethodName) method_4_code 3 (some .boolean) :: ws) ({ frames := 0, cells := 0, slots := 0, locals := 0 } : Room)) (fun a U => a = #[(.ref b), (.int i), (.int n)] ∧ Z.Warmed39 U.vm ∧ U.heap = h0) (fun _ _ _ _ _ => True) (fun _ U o U' => ∃ v L, o = .returned v ∧ QB h0 n0 v U'.heap L ∧ FrameEnd U o U' L ({ frames := 0, cells := 0, slots := 0, locals := 0 } : Room).cells ({ frames := 0, cells := 0, slots := 0, locals := 0 } : Room).slots) := by
  refine MetFree.of_bodySF (plainFor_of_name (by first | (simp [plainName, overriddenIn]; done) | decide +kernel)) hisR ?_
  intro p e s m args below meth c s₁ Bd hml0 hP hK
  obtain ⟨rfl, hZ, hh⟩ := hP
  have hx := Bd.exec
  have hby := Bd.bytes
  have hml : c.maxLocals = 3 := hml0
  have hown : s.vm.findClass "com/example/embosser/embosser/domain/PositionsRoomPinLaw" = some m.cls := findClass_of_methodNamed Bd.named
  have hnm := (name_of_methodNamed Bd.named Bd.method).1
  have X0 : Stand p l e ({ frames := 0, cells := 0, slots := 0, locals := 0 } : Room) s m #[(.ref b), (.int i), (.int n)] below meth c s₁ [] 0 0 := Stand.of_body Bd
  have e0 : s₁.heap = h0 := by rw [← hh, Bd.state]; rfl
  have N0 := Fr.nil n0
  have ef : entryFrame m #[(.ref b), (.int i), (.int n)] 3 = (mkF m 0 #[.val (.ref b), .val (.int i), .val (.int n)] []) := by first | (simp [entryFrame, mkF, argsToLocals, Value.category]; done) | rfl
  show OwnGoes p e below (fun o U' => ∃ v L, o = .returned v ∧ QB h0 n0 v U'.heap L ∧ FrameEnd s o U' L ({ frames := 0, cells := 0, slots := 0, locals := 0 } : Room).cells ({ frames := 0, cells := 0, slots := 0, locals := 0 } : Room).slots) (s₁.setTop (entryFrame m #[(.ref b), (.int i), (.int n)] 3))
  refine own_pre (fun t k => castTop ef k) ?_
  show OwnGoes p e below _ (s₁.setTop (mkF m 0 #[.val (.ref b), .val (.int i), .val (.int n)] []))
  refine own_pre (fun _ kz_ => XS.iloadN X0.here hx rfl (hb hby d6_0) rfl kz_) ?_
  show OwnGoes p e below _ (s₁.setTop (mkF m 1 #[.val (.ref b), .val (.int i), .val (.int n)] [(.int i)]))
  refine own_pre (fun _ kz_ => XS.iloadN X0.here hx rfl (hb hby d6_1) rfl kz_) ?_
  show OwnGoes p e below _ (s₁.setTop (mkF m 2 #[.val (.ref b), .val (.int i), .val (.int n)] [(.int n), (.int i)]))
  by_cases h2 : i < n
  · refine own_pre (fun _ kz_ => XS.icmpYes X0.here hx rfl (pc0 := 2) (pc' := 17) rfl (hb hby d6_2) rfl (tlt h2).1 (by decide) (by decide) kz_) ?_
    show OwnGoes p e below _ (s₁.setTop (mkF m 17 #[.val (.ref b), .val (.int i), .val (.int n)] []))
    refine own_pre (fun _ kz_ => XS.iconst X0.here hx rfl (hb hby d6_17) kz_) ?_
    show OwnGoes p e below _ (s₁.setTop (mkF m 18 #[.val (.ref b), .val (.int i), .val (.int n)] [(.int (1 : Int32))]))
    refine own_pre (fun _ kz_ => XS.goto X0.here hx rfl (pc0 := 18) (pc' := 22) rfl (hb hby d6_18) (by decide) (by decide) kz_) ?_
    show OwnGoes p e below _ (s₁.setTop (mkF m 22 #[.val (.ref b), .val (.int i), .val (.int n)] [(.int (1 : Int32))]))
    exact own_ret X0 hx Bd.returns (rfl) (Or.inl ⟨rfl, by simp, _, rfl⟩) Bd.notSynchronized (hb hby d6_22) ⟨rfl, N0, e0⟩ (by decide) (by decide)
  · refine own_pre (fun _ kz_ => XS.icmpNo X0.here hx rfl (hb hby d6_2) rfl (flt h2).1 kz_) ?_
    show OwnGoes p e below _ (s₁.setTop (mkF m 5 #[.val (.ref b), .val (.int i), .val (.int n)] []))
    refine own_pre (fun _ kz_ => XS.iloadN X0.here hx rfl (hb hby d6_5) rfl kz_) ?_
    show OwnGoes p e below _ (s₁.setTop (mkF m 6 #[.val (.ref b), .val (.int i), .val (.int n)] [(.int i)]))
    refine own_pre (fun _ kz_ => XS.aloadN X0.here hx rfl (hb hby d6_6) rfl rfl kz_) ?_
    show OwnGoes p e below _ (s₁.setTop (mkF m 7 #[.val (.ref b), .val (.int i), .val (.int n)] [(.ref b), (.int i)]))
    refine own_pre (own_alen X0 hx hZ e0 V (n := (Int32.ofNat vs.length)) rfl (g := (mkF m 7 #[.val (.ref b), .val (.int i), .val (.int n)] [(.ref b), (.int i)])) rfl rfl (hb hby d6_7)) ?_
    show OwnGoes p e below _ (s₁.setTop (mkF m 8 #[.val (.ref b), .val (.int i), .val (.int n)] [(.int (Int32.ofNat vs.length)), (.int i)]))
    by_cases h8 : i < (Int32.ofNat vs.length)
    · refine own_pre (fun _ kz_ => XS.icmpNo X0.here hx rfl (hb hby d6_8) rfl (tlt h8).2.1 kz_) ?_
      show OwnGoes p e below _ (s₁.setTop (mkF m 11 #[.val (.ref b), .val (.int i), .val (.int n)] []))
      refine own_pre (fun _ kz_ => XS.aloadN X0.here hx rfl (hb hby d6_11) rfl rfl kz_) ?_
      show OwnGoes p e below _ (s₁.setTop (mkF m 12 #[.val (.ref b), .val (.int i), .val (.int n)] [(.ref b)]))
      refine own_pre (fun _ kz_ => XS.iloadN X0.here hx rfl (hb hby d6_12) rfl kz_) ?_
      show OwnGoes p e below _ (s₁.setTop (mkF m 13 #[.val (.ref b), .val (.int i), .val (.int n)] [(.int i), (.ref b)]))
      refine own_pre (own_iald X0 hx hZ e0 V (j := i) (v := (.int (0 : Int32))) hi (hz h2 h8) (g := (mkF m 13 #[.val (.ref b), .val (.int i), .val (.int n)] [(.int i), (.ref b)])) rfl rfl (hb hby d6_13)) ?_
      show OwnGoes p e below _ (s₁.setTop (mkF m 14 #[.val (.ref b), .val (.int i), .val (.int n)] [(.int (0 : Int32))]))
      refine own_pre (fun _ kz_ => XS.ifNo X0.here hx rfl (hb hby d6_14) rfl ((if0 _ _).trans (teq (by decide : (0 : Int32) = (0 : Int32))).2) kz_) ?_
      show OwnGoes p e below _ (s₁.setTop (mkF m 17 #[.val (.ref b), .val (.int i), .val (.int n)] []))
      refine own_pre (fun _ kz_ => XS.iconst X0.here hx rfl (hb hby d6_17) kz_) ?_
      show OwnGoes p e below _ (s₁.setTop (mkF m 18 #[.val (.ref b), .val (.int i), .val (.int n)] [(.int (1 : Int32))]))
      refine own_pre (fun _ kz_ => XS.goto X0.here hx rfl (pc0 := 18) (pc' := 22) rfl (hb hby d6_18) (by decide) (by decide) kz_) ?_
      show OwnGoes p e below _ (s₁.setTop (mkF m 22 #[.val (.ref b), .val (.int i), .val (.int n)] [(.int (1 : Int32))]))
      exact own_ret X0 hx Bd.returns (rfl) (Or.inl ⟨rfl, by simp, _, rfl⟩) Bd.notSynchronized (hb hby d6_22) ⟨rfl, N0, e0⟩ (by decide) (by decide)
    · refine own_pre (fun _ kz_ => XS.icmpYes X0.here hx rfl (pc0 := 8) (pc' := 17) rfl (hb hby d6_8) rfl (flt h8).2.1 (by decide) (by decide) kz_) ?_
      show OwnGoes p e below _ (s₁.setTop (mkF m 17 #[.val (.ref b), .val (.int i), .val (.int n)] []))
      refine own_pre (fun _ kz_ => XS.iconst X0.here hx rfl (hb hby d6_17) kz_) ?_
      show OwnGoes p e below _ (s₁.setTop (mkF m 18 #[.val (.ref b), .val (.int i), .val (.int n)] [(.int (1 : Int32))]))
      refine own_pre (fun _ kz_ => XS.goto X0.here hx rfl (pc0 := 18) (pc' := 22) rfl (hb hby d6_18) (by decide) (by decide) kz_) ?_
      show OwnGoes p e below _ (s₁.setTop (mkF m 22 #[.val (.ref b), .val (.int i), .val (.int n)] [(.int (1 : Int32))]))
      exact own_ret X0 hx Bd.returns (rfl) (Or.inl ⟨rfl, by simp, _, rfl⟩) Bd.notSynchronized (hb hby d6_22) ⟨rfl, N0, e0⟩ (by decide) (by decide)
def QR (Z : State) (b : Addr) (vs : List Value) (j : Nat) (h0 : Heap) (n0 : Nat) (v : Option Value) (h : Heap) (L : List Loc) : Prop := ∃ (r : Addr) (ws : List Value), v = some (.ref r) ∧ Fr n0 L ∧ Keep h0 h [] ∧ OwnA Z h r .int ws ∧ ((j < vs.length ∧ r = b ∧ ws = vs) ∨ (j = vs.length ∧ b ≠ r ∧ ws = vs ++ List.replicate vs.length (.int (0 : Int32))))
set_option maxRecDepth 65536 in
set_option maxHeartbeats 40000000 in
theorem rmR (l : Launch) (Z : State) (a0 : Array Value) (hw : ∀ d ∈ tables_1, d.before a0 Z = true) (ws : List Jvm.Cond) (b : Addr) (jI : Int32) (vs : List Value) (j : Nat) (h0 : Heap) (n0 : Nat) (Z0 : n0 ≤ h0.size) (V : OwnA Z h0 b .int vs) (hj : jI = Int32.ofNat j) (hjl : j ≤ vs.length) (hl1 : 1 ≤ vs.length) (hl4 : vs.length ≤ 4) (hfit : ∀ x ∈ vs, fits .int x = true) :
    MetFree l (⟨"com/example/embosser/embosser/domain/Positions", "room", "([II)[I"⟩ : MethodName) (head1 (Jvm.Cond.code (⟨"com/example/embosser/embosser/domain/Positions", "room", "([II)[I"⟩ : MethodName) prog_101_method_3_code 2 (some (.array .int)) :: ws) ({ frames := 2, cells := 1, slots := 8, locals := 54 } : Room)) (fun a U => a = #[(.ref b), (.int jI)] ∧ Z.Warmed39 U.vm ∧ U.heap = h0) (fun _ _ _ _ _ => True) (fun _ U o U' => ∃ v L, o = .returned v ∧ QR Z b vs j h0 n0 v U'.heap L ∧ FrameEnd U o U' L ({ frames := 2, cells := 1, slots := 8, locals := 54 } : Room).cells ({ frames := 2, cells := 1, slots := 8, locals := 54 } : Room).slots) := by
  refine MetFree.of_bodySF (plainFor_of_name (by first | (simp [plainName, overriddenIn]; done) | decide +kernel)) hisR ?_
  intro p e s m args below meth c s₁ Bd hml0 hP hK
  obtain ⟨rfl, hZ, hh⟩ := hP
  have hx := Bd.exec
  have hby := Bd.bytes
  have hml : c.maxLocals = 2 := hml0
  have hown : s.vm.findClass "com/example/embosser/embosser/domain/Positions" = some m.cls := findClass_of_methodNamed Bd.named
  have hnm := (name_of_methodNamed Bd.named Bd.method).1
  have X0 : Stand p l e ({ frames := 2, cells := 1, slots := 8, locals := 54 } : Room) s m #[(.ref b), (.int jI)] below meth c s₁ [] 0 0 := Stand.of_body Bd
  have e0 : s₁.heap = h0 := by rw [← hh, Bd.state]; rfl
  have N0 := Fr.nil n0
  have ef : entryFrame m #[(.ref b), (.int jI)] 2 = (mkF m 0 #[.val (.ref b), .val (.int jI)] []) := by first | (simp [entryFrame, mkF, argsToLocals, Value.category]; done) | rfl
  show OwnGoes p e below (fun o U' => ∃ v L, o = .returned v ∧ QR Z b vs j h0 n0 v U'.heap L ∧ FrameEnd s o U' L ({ frames := 2, cells := 1, slots := 8, locals := 54 } : Room).cells ({ frames := 2, cells := 1, slots := 8, locals := 54 } : Room).slots) (s₁.setTop (entryFrame m #[(.ref b), (.int jI)] 2))
  refine own_pre (fun t k => castTop ef k) ?_
  show OwnGoes p e below _ (s₁.setTop (mkF m 0 #[.val (.ref b), .val (.int jI)] []))
  refine own_pre (fun _ kz_ => XS.iloadN X0.here hx rfl (hb hby d1_0) rfl kz_) ?_
  show OwnGoes p e below _ (s₁.setTop (mkF m 1 #[.val (.ref b), .val (.int jI)] [(.int jI)]))
  refine own_pre (fun _ kz_ => XS.aloadN X0.here hx rfl (hb hby d1_1) rfl rfl kz_) ?_
  show OwnGoes p e below _ (s₁.setTop (mkF m 2 #[.val (.ref b), .val (.int jI)] [(.ref b), (.int jI)]))
  refine own_pre (own_alen X0 hx hZ e0 V (n := (Int32.ofNat vs.length)) rfl (g := (mkF m 2 #[.val (.ref b), .val (.int jI)] [(.ref b), (.int jI)])) rfl rfl (hb hby d1_2)) ?_
  show OwnGoes p e below _ (s₁.setTop (mkF m 3 #[.val (.ref b), .val (.int jI)] [(.int (Int32.ofNat vs.length)), (.int jI)]))
  by_cases h3 : jI < (Int32.ofNat vs.length)
  · refine own_pre (fun _ kz_ => XS.icmpNo X0.here hx rfl (hb hby d1_3) rfl (tlt h3).2.1 kz_) ?_
    show OwnGoes p e below _ (s₁.setTop (mkF m 6 #[.val (.ref b), .val (.int jI)] []))
    refine own_pre (fun _ kz_ => XS.aloadN X0.here hx rfl (hb hby d1_6) rfl rfl kz_) ?_
    show OwnGoes p e below _ (s₁.setTop (mkF m 7 #[.val (.ref b), .val (.int jI)] [(.ref b)]))
    refine own_pre (fun _ kz_ => XS.goto X0.here hx rfl (pc0 := 7) (pc' := 18) rfl (hb hby d1_7) (by decide) (by decide) kz_) ?_
    show OwnGoes p e below _ (s₁.setTop (mkF m 18 #[.val (.ref b), .val (.int jI)] [(.ref b)]))
    exact own_ret X0 hx Bd.returns (rfl) (Or.inr (Or.inr (Or.inr (Or.inr ⟨rfl, rfl, rfl⟩)))) Bd.notSynchronized (hb hby d1_18) ⟨b, vs, rfl, N0, by rw [e0]; exact Keep.refl _ _, by rw [e0]; exact V, Or.inl ⟨by have q := h3; rw [hj, Int32.ofNat_lt_ofNat (by omega) (by omega)] at q; exact q, rfl, rfl⟩⟩ (by decide) (by decide)
  · refine own_pre (fun _ kz_ => XS.icmpYes X0.here hx rfl (pc0 := 3) (pc' := 10) rfl (hb hby d1_3) rfl (flt h3).2.1 (by decide) (by decide) kz_) ?_
    show OwnGoes p e below _ (s₁.setTop (mkF m 10 #[.val (.ref b), .val (.int jI)] []))
    refine own_pre (fun _ kz_ => XS.aloadN X0.here hx rfl (hb hby d1_10) rfl rfl kz_) ?_
    show OwnGoes p e below _ (s₁.setTop (mkF m 11 #[.val (.ref b), .val (.int jI)] [(.ref b)]))
    refine own_pre (fun _ kz_ => XS.aloadN X0.here hx rfl (hb hby d1_11) rfl rfl kz_) ?_
    show OwnGoes p e below _ (s₁.setTop (mkF m 12 #[.val (.ref b), .val (.int jI)] [(.ref b), (.ref b)]))
    refine own_pre (own_alen X0 hx hZ e0 V (n := (Int32.ofNat vs.length)) rfl (g := (mkF m 12 #[.val (.ref b), .val (.int jI)] [(.ref b), (.ref b)])) rfl rfl (hb hby d1_12)) ?_
    show OwnGoes p e below _ (s₁.setTop (mkF m 13 #[.val (.ref b), .val (.int jI)] [(.int (Int32.ofNat vs.length)), (.ref b)]))
    refine own_pre (fun _ kz_ => XS.iconst X0.here hx rfl (hb hby d1_13) kz_) ?_
    show OwnGoes p e below _ (s₁.setTop (mkF m 14 #[.val (.ref b), .val (.int jI)] [(.int (2 : Int32)), (.int (Int32.ofNat vs.length)), (.ref b)]))
    refine own_pre (fun _ kz_ => XS.imul X0.here hx rfl (hb hby d1_14) rfl kz_) ?_
    show OwnGoes p e below _ (s₁.setTop (mkF m 15 #[.val (.ref b), .val (.int jI)] [(.int ((Int32.ofNat vs.length) * (2 : Int32))), (.ref b)]))
    obtain ⟨_, _, ⟨T1, L1, k1, n1⟩, -, X1, ⟨Lc1, hQ1, l1, y1, z1⟩, st1⟩ := Jvm.LawKit.callS X0 hx (y := (⟨"java/util/Arrays", "copyOf", "([II)[I"⟩ : MethodName)) hown (mvT hZ (hw _ (List.mem_of_getElem? (i := 6) rfl))) (mvT hZ (hw _ (List.mem_of_getElem? (i := 7) rfl))) (mvT hZ (hw _ (List.mem_of_getElem? (i := 8) rfl))) (mvT hZ (hw _ (List.mem_of_getElem? (i := 9) rfl))) (by decide) (backOf (W := 0) (rmCp l Z a0 hw [] b ((Int32.ofNat vs.length) * (2 : Int32)) vs (vs.length * 2) h0 n0 Z0 V (by rw [show (2 : Int32) = Int32.ofNat 2 from rfl, ← Int32.ofNat_mul]) (by omega) (by omega) hfit) hZ (hw _ (List.mem_of_getElem? (i := 9) rfl)) (hw _ (List.mem_of_getElem? (i := 8) rfl)) (by decide) (by decide)) (g := (mkF m 15 #[.val (.ref b), .val (.int jI)] [(.int ((Int32.ofNat vs.length) * (2 : Int32))), (.ref b)])) rfl (by rw [hml]; rfl) (argsL := [(.ref b), (.int ((Int32.ofNat vs.length) * (2 : Int32)))]) (rest := []) (lenOf (d := "([II)[I") (ps := [(.array .int), .int]) (r := some (.array .int)) (by decide +kernel) rfl) rfl (by show 2 * 0 + _ ≤ _; exact Nat.le_of_eq rfl) (hb hby d1_15) (fun _ _ => ⟨rfl, e0, (by decide : 0 + 1 ≤ _), (by decide : 0 + 8 ≤ _)⟩)
    dsimp only [Pt.U, Pt.locs, Pt.cells, Pt.slots] at X1 l1 y1 z1 st1 hQ1
    subst l1 y1 z1
    obtain ⟨r, rfl, N1q, K1q, G1q, V1q⟩ := hQ1
    have N1 := Fr.app N0 N1q
    refine own_pre st1 ?_
    have f1_1 := V.keep K1q (List.not_mem_nil)
    have Z1 := Nat.le_trans Z0 K1q.1
    have KK1 := ((Keep.refl h0 [])).trans K1q (fun x hx => by cases hx)
    show OwnGoes p e below _ (T1.setTop (mkF m 18 #[.val (.ref b), .val (.int jI)] [(.ref r)]))
    exact own_ret X1 hx Bd.returns (rfl) (Or.inr (Or.inr (Or.inr (Or.inr ⟨rfl, rfl, rfl⟩)))) Bd.notSynchronized (hb hby d1_18) ⟨r, _, rfl, N1, K1q, V1q, Or.inr ⟨by have q := h3; rw [hj, Int32.ofNat_lt_ofNat (by omega) (by omega)] at q; omega, fun q => by rw [← q] at G1q; exact absurd V.lt (Nat.not_lt.mpr G1q), by rw [show vs.length * 2 - vs.length = vs.length by omega]⟩⟩ (by decide) (by decide)
set_option maxRecDepth 65536 in
set_option maxHeartbeats 40000000 in
theorem rm0 (l : Launch) (Z : State) (a0 : Array Value) (hw : ∀ d ∈ tables_1, d.before a0 Z = true) (ws : List Jvm.Cond) (p0 p1 p2 p3 p4 p5 : Int32) (h0 : Heap) (n0 : Nat) (Z0 : n0 ≤ h0.size) :
    MetFree l x (head1 (Jvm.Cond.code x code maxLocals ret :: ws) room_1) (fun a U => a = #[(.int p0), (.int p1), (.int p2), (.int p3), (.int p4), (.int p5)] ∧ Z.Warmed39 U.vm ∧ U.heap = h0) (fun _ _ _ _ _ => True) (fun _ U o U' => ∃ v L, o = .returned v ∧ Q0 h0 n0 v U'.heap L ∧ FrameEnd U o U' L room_1.cells room_1.slots) := by
  refine MetFree.of_bodySF (plainFor_of_name (by first | (simp [plainName, overriddenIn]; done) | decide +kernel)) hisR ?_
  intro p e s m args below meth c s₁ Bd hml0 hP hK
  obtain ⟨rfl, hZ, hh⟩ := hP
  have hx := Bd.exec
  have hby := Bd.bytes
  have hml : c.maxLocals = 11 := hml0
  have hown : s.vm.findClass "com/example/embosser/embosser/domain/PositionsRoomPinLaw" = some m.cls := findClass_of_methodNamed Bd.named
  have hnm := (name_of_methodNamed Bd.named Bd.method).1
  have X0 : Stand p l e room_1 s m #[(.int p0), (.int p1), (.int p2), (.int p3), (.int p4), (.int p5)] below meth c s₁ [] 0 0 := Stand.of_body Bd
  have e0 : s₁.heap = h0 := by rw [← hh, Bd.state]; rfl
  have N0 := Fr.nil n0
  have ef : entryFrame m #[(.int p0), (.int p1), (.int p2), (.int p3), (.int p4), (.int p5)] maxLocals = (mkF m 0 #[.val (.int p0), .val (.int p1), .val (.int p2), .val (.int p3), .val (.int p4), .val (.int p5), .unset, .unset, .unset, .unset, .unset] []) := by first | (simp [entryFrame, mkF, argsToLocals, Value.category, maxLocals]; done) | rfl
  show OwnGoes p e below (fun o U' => ∃ v L, o = .returned v ∧ Q0 h0 n0 v U'.heap L ∧ FrameEnd s o U' L room_1.cells room_1.slots) (s₁.setTop (entryFrame m #[(.int p0), (.int p1), (.int p2), (.int p3), (.int p4), (.int p5)] maxLocals))
  refine own_pre (fun t k => castTop ef k) ?_
  have J95 : ∀ (k : Nat) (hk : k = 1 ∨ k = 2 ∨ k = 3 ∨ k = 4) (b : Addr) (T : State) (h : Heap) (locs : List Loc) (X : Stand p l e room_1 s m #[(.int p0), (.int p1), (.int p2), (.int p3), (.int p4), (.int p5)] below meth c T locs (0 + 1) (0 + 4)) (e_ : T.heap = h) (N : Fr n0 locs) (Zh : n0 ≤ h.size) (V : OwnA Z h b .int (own_vs k p1 p2 p3 p4)), OwnGoes p e below (fun o U' => ∃ v L, o = .returned v ∧ Q0 h0 n0 v U'.heap L ∧ FrameEnd s o U' L room_1.cells room_1.slots) (T.setTop (mkF m 95 #[.val (.int p0), .val (.int p1), .val (.int p2), .val (.int p3), .val (.int p4), .val (.int p5), .val (.int (Int32.ofNat k)), .val (.ref b), .unset, .unset, .unset] [])) := by
    intro k hk b T h locs X e_ N Zh V
    have hlen : (own_vs k p1 p2 p3 p4).length = k := by rcases hk with rfl | rfl | rfl | rfl <;> rfl
    have hfit : ∀ x ∈ own_vs k p1 p2 p3 p4, fits .int x = true := fun x hx => by simp only [own_vs, List.mem_map] at hx; obtain ⟨y, -, rfl⟩ := hx; rfl
    obtain ⟨j, hj, hjv⟩ := own_used k hk p5
    show OwnGoes p e below _ (T.setTop (mkF m 95 #[.val (.int p0), .val (.int p1), .val (.int p2), .val (.int p3), .val (.int p4), .val (.int p5), .val (.int (Int32.ofNat k)), .val (.ref b), .unset, .unset, .unset] []))
    refine own_pre (fun _ kz_ => XS.iload X.here hx rfl (hb hby at_95) rfl kz_) ?_
    show OwnGoes p e below _ (T.setTop (mkF m 97 #[.val (.int p0), .val (.int p1), .val (.int p2), .val (.int p3), .val (.int p4), .val (.int p5), .val (.int (Int32.ofNat k)), .val (.ref b), .unset, .unset, .unset] [(.int p5)]))
    refine own_pre (fun _ kz_ => X.ldcInt hx hown (mvT hZ (hw _ (List.mem_of_getElem? (i := 1) rfl))) (g := (mkF m 97 #[.val (.int p0), .val (.int p1), .val (.int p2), .val (.int p3), .val (.int p4), .val (.int p5), .val (.int (Int32.ofNat k)), .val (.ref b), .unset, .unset, .unset] [(.int p5)])) rfl (hb hby at_97) _ kz_) ?_
    show OwnGoes p e below _ (T.setTop (mkF m 99 #[.val (.int p0), .val (.int p1), .val (.int p2), .val (.int p3), .val (.int p4), .val (.int p5), .val (.int (Int32.ofNat k)), .val (.ref b), .unset, .unset, .unset] [(.int (2147483647 : Int32)), (.int p5)]))
    refine own_pre (fun _ kz_ => XS.iand X.here hx rfl (hb hby at_99) rfl kz_) ?_
    show OwnGoes p e below _ (T.setTop (mkF m 100 #[.val (.int p0), .val (.int p1), .val (.int p2), .val (.int p3), .val (.int p4), .val (.int p5), .val (.int (Int32.ofNat k)), .val (.ref b), .unset, .unset, .unset] [(.int (p5 &&& (2147483647 : Int32)))]))
    refine own_pre (fun _ kz_ => XS.iload X.here hx rfl (hb hby at_100) rfl kz_) ?_
    show OwnGoes p e below _ (T.setTop (mkF m 102 #[.val (.int p0), .val (.int p1), .val (.int p2), .val (.int p3), .val (.int p4), .val (.int p5), .val (.int (Int32.ofNat k)), .val (.ref b), .unset, .unset, .unset] [(.int (Int32.ofNat k)), (.int (p5 &&& (2147483647 : Int32)))]))
    refine own_pre (fun _ kz_ => XS.iconst X.here hx rfl (hb hby at_102) kz_) ?_
    show OwnGoes p e below _ (T.setTop (mkF m 103 #[.val (.int p0), .val (.int p1), .val (.int p2), .val (.int p3), .val (.int p4), .val (.int p5), .val (.int (Int32.ofNat k)), .val (.ref b), .unset, .unset, .unset] [(.int (1 : Int32)), (.int (Int32.ofNat k)), (.int (p5 &&& (2147483647 : Int32)))]))
    refine own_pre (fun _ kz_ => XS.iadd X.here hx rfl (hb hby at_103) rfl kz_) ?_
    show OwnGoes p e below _ (T.setTop (mkF m 104 #[.val (.int p0), .val (.int p1), .val (.int p2), .val (.int p3), .val (.int p4), .val (.int p5), .val (.int (Int32.ofNat k)), .val (.ref b), .unset, .unset, .unset] [(.int ((Int32.ofNat k) + (1 : Int32))), (.int (p5 &&& (2147483647 : Int32)))]))
    refine own_pre (fun _ kz_ => iremM X hx rfl (hb hby at_104) rfl (by rcases hk with rfl | rfl | rfl | rfl <;> decide) kz_) ?_
    show OwnGoes p e below _ (T.setTop (mkF m 105 #[.val (.int p0), .val (.int p1), .val (.int p2), .val (.int p3), .val (.int p4), .val (.int p5), .val (.int (Int32.ofNat k)), .val (.ref b), .unset, .unset, .unset] [(.int ((p5 &&& (2147483647 : Int32)) % ((Int32.ofNat k) + (1 : Int32))))]))
    rw [hjv]
    show OwnGoes p e below _ (T.setTop (mkF m 105 #[.val (.int p0), .val (.int p1), .val (.int p2), .val (.int p3), .val (.int p4), .val (.int p5), .val (.int (Int32.ofNat k)), .val (.ref b), .unset, .unset, .unset] [(.int (Int32.ofNat j))]))
    refine own_pre (fun _ kz_ => XS.istore X.here hx rfl (hb hby at_105) rfl (l' := #[.val (.int p0), .val (.int p1), .val (.int p2), .val (.int p3), .val (.int p4), .val (.int p5), .val (.int (Int32.ofNat k)), .val (.ref b), .val (.int (Int32.ofNat j)), .unset, .unset]) rfl kz_) ?_
    show OwnGoes p e below _ (T.setTop (mkF m 107 #[.val (.int p0), .val (.int p1), .val (.int p2), .val (.int p3), .val (.int p4), .val (.int p5), .val (.int (Int32.ofNat k)), .val (.ref b), .val (.int (Int32.ofNat j)), .unset, .unset] []))
    refine own_pre (fun _ kz_ => XS.aload X.here hx rfl (hb hby at_107) rfl rfl kz_) ?_
    show OwnGoes p e below _ (T.setTop (mkF m 109 #[.val (.int p0), .val (.int p1), .val (.int p2), .val (.int p3), .val (.int p4), .val (.int p5), .val (.int (Int32.ofNat k)), .val (.ref b), .val (.int (Int32.ofNat j)), .unset, .unset] [(.ref b)]))
    refine own_pre (fun _ kz_ => XS.iload X.here hx rfl (hb hby at_109) rfl kz_) ?_
    show OwnGoes p e below _ (T.setTop (mkF m 111 #[.val (.int p0), .val (.int p1), .val (.int p2), .val (.int p3), .val (.int p4), .val (.int p5), .val (.int (Int32.ofNat k)), .val (.ref b), .val (.int (Int32.ofNat j)), .unset, .unset] [(.int (Int32.ofNat j)), (.ref b)]))
    obtain ⟨_, _, ⟨T1, L1, k1, n1⟩, -, X1, ⟨Lc1, hQ1, l1, y1, z1⟩, st1⟩ := Jvm.LawKit.callS X hx (y := (⟨"com/example/embosser/embosser/domain/Positions", "room", "([II)[I"⟩ : MethodName)) hown (mvT hZ (hw _ (List.mem_of_getElem? (i := 2) rfl))) (mvT hZ (hw _ (List.mem_of_getElem? (i := 3) rfl))) (mvT hZ (hw _ (List.mem_of_getElem? (i := 4) rfl))) (mvT hZ (hw _ (List.mem_of_getElem? (i := 5) rfl))) (by decide) (backOf (W := 0) (rmR l Z a0 hw [] b (Int32.ofNat j) (own_vs k p1 p2 p3 p4) j h n0 Zh V rfl (by rw [hlen]; exact hj) (by rw [hlen]; omega) (by rw [hlen]; omega) hfit) hZ (hw _ (List.mem_of_getElem? (i := 5) rfl)) (hw _ (List.mem_of_getElem? (i := 4) rfl)) (by decide) (by decide)) (g := (mkF m 111 #[.val (.int p0), .val (.int p1), .val (.int p2), .val (.int p3), .val (.int p4), .val (.int p5), .val (.int (Int32.ofNat k)), .val (.ref b), .val (.int (Int32.ofNat j)), .unset, .unset] [(.int (Int32.ofNat j)), (.ref b)])) rfl (by rw [hml]; rfl) (argsL := [(.ref b), (.int (Int32.ofNat j))]) (rest := []) (lenOf (d := "([II)[I") (ps := [(.array .int), .int]) (r := some (.array .int)) (by decide +kernel) rfl) rfl (by show 2 * 0 + _ ≤ _; exact Nat.le_of_eq rfl) (hb hby at_111) (fun _ _ => ⟨rfl, e_, (by decide : 1 + 1 ≤ _), (by decide : 4 + 8 ≤ _)⟩)
    dsimp only [Pt.U, Pt.locs, Pt.cells, Pt.slots] at X1 l1 y1 z1 st1 hQ1
    subst l1 y1 z1
    obtain ⟨r, ws, rfl, N1q, K1q, V1q, hcase⟩ := hQ1
    have N1 := Fr.app N N1q
    refine own_pre st1 ?_
    have f1_1 := V.keep K1q (List.not_mem_nil)
    have Z1 := Nat.le_trans Zh K1q.1
    have KK1 := ((Keep.refl h [])).trans K1q (fun x hx => by cases hx)
    show OwnGoes p e below _ (T1.setTop (mkF m 114 #[.val (.int p0), .val (.int p1), .val (.int p2), .val (.int p3), .val (.int p4), .val (.int p5), .val (.int (Int32.ofNat k)), .val (.ref b), .val (.int (Int32.ofNat j)), .unset, .unset] [(.ref r)]))
    rcases hcase with ⟨hu, hrb, rfl⟩ | ⟨hu, hne, rfl⟩
    · rw [hlen] at hu
      have hbr := hrb.symm
      subst hbr
      show OwnGoes p e below _ (T1.setTop (mkF m 114 #[.val (.int p0), .val (.int p1), .val (.int p2), .val (.int p3), .val (.int p4), .val (.int p5), .val (.int (Int32.ofNat k)), .val (.ref b), .val (.int (Int32.ofNat j)), .unset, .unset] [(.ref b)]))
      refine own_pre (fun _ kz_ => XS.astore X1.here hx rfl (hb hby at_114) rfl rfl (l' := #[.val (.int p0), .val (.int p1), .val (.int p2), .val (.int p3), .val (.int p4), .val (.int p5), .val (.int (Int32.ofNat k)), .val (.ref b), .val (.int (Int32.ofNat j)), .val (.ref b), .unset]) rfl kz_) ?_
      show OwnGoes p e below _ (T1.setTop (mkF m 116 #[.val (.int p0), .val (.int p1), .val (.int p2), .val (.int p3), .val (.int p4), .val (.int p5), .val (.int (Int32.ofNat k)), .val (.ref b), .val (.int (Int32.ofNat j)), .val (.ref b), .unset] []))
      refine own_pre (fun _ kz_ => XS.iload X1.here hx rfl (hb hby at_116) rfl kz_) ?_
      show OwnGoes p e below _ (T1.setTop (mkF m 118 #[.val (.int p0), .val (.int p1), .val (.int p2), .val (.int p3), .val (.int p4), .val (.int p5), .val (.int (Int32.ofNat k)), .val (.ref b), .val (.int (Int32.ofNat j)), .val (.ref b), .unset] [(.int (Int32.ofNat j))]))
      refine own_pre (fun _ kz_ => XS.aload X1.here hx rfl (hb hby at_118) rfl rfl kz_) ?_
      show OwnGoes p e below _ (T1.setTop (mkF m 120 #[.val (.int p0), .val (.int p1), .val (.int p2), .val (.int p3), .val (.int p4), .val (.int p5), .val (.int (Int32.ofNat k)), .val (.ref b), .val (.int (Int32.ofNat j)), .val (.ref b), .unset] [(.ref b), (.int (Int32.ofNat j))]))
      refine own_pre (own_alen X1 hx hZ rfl f1_1 (n := (Int32.ofNat k)) (by rw [hlen]) (g := (mkF m 120 #[.val (.int p0), .val (.int p1), .val (.int p2), .val (.int p3), .val (.int p4), .val (.int p5), .val (.int (Int32.ofNat k)), .val (.ref b), .val (.int (Int32.ofNat j)), .val (.ref b), .unset] [(.ref b), (.int (Int32.ofNat j))])) rfl rfl (hb hby at_120)) ?_
      show OwnGoes p e below _ (T1.setTop (mkF m 121 #[.val (.int p0), .val (.int p1), .val (.int p2), .val (.int p3), .val (.int p4), .val (.int p5), .val (.int (Int32.ofNat k)), .val (.ref b), .val (.int (Int32.ofNat j)), .val (.ref b), .unset] [(.int (Int32.ofNat k)), (.int (Int32.ofNat j))]))
      refine own_pre (fun _ kz_ => XS.icmpNo X1.here hx rfl (hb hby at_121) rfl (tlt (XT.lt32 (by omega) hu : (Int32.ofNat j) < (Int32.ofNat k))).2.1 kz_) ?_
      show OwnGoes p e below _ (T1.setTop (mkF m 124 #[.val (.int p0), .val (.int p1), .val (.int p2), .val (.int p3), .val (.int p4), .val (.int p5), .val (.int (Int32.ofNat k)), .val (.ref b), .val (.int (Int32.ofNat j)), .val (.ref b), .unset] []))
      refine own_pre (fun _ kz_ => XS.iconst X1.here hx rfl (hb hby at_124) kz_) ?_
      show OwnGoes p e below _ (T1.setTop (mkF m 125 #[.val (.int p0), .val (.int p1), .val (.int p2), .val (.int p3), .val (.int p4), .val (.int p5), .val (.int (Int32.ofNat k)), .val (.ref b), .val (.int (Int32.ofNat j)), .val (.ref b), .unset] [(.int (1 : Int32))]))
      refine own_pre (fun _ kz_ => XS.goto X1.here hx rfl (pc0 := 125) (pc' := 129) rfl (hb hby at_125) (by decide) (by decide) kz_) ?_
      show OwnGoes p e below _ (T1.setTop (mkF m 129 #[.val (.int p0), .val (.int p1), .val (.int p2), .val (.int p3), .val (.int p4), .val (.int p5), .val (.int (Int32.ofNat k)), .val (.ref b), .val (.int (Int32.ofNat j)), .val (.ref b), .unset] [(.int (1 : Int32))]))
      refine own_pre (fun _ kz_ => XS.istore X1.here hx rfl (hb hby at_129) rfl (l' := #[.val (.int p0), .val (.int p1), .val (.int p2), .val (.int p3), .val (.int p4), .val (.int p5), .val (.int (Int32.ofNat k)), .val (.ref b), .val (.int (Int32.ofNat j)), .val (.ref b), .val (.int (1 : Int32))]) rfl kz_) ?_
      show OwnGoes p e below _ (T1.setTop (mkF m 131 #[.val (.int p0), .val (.int p1), .val (.int p2), .val (.int p3), .val (.int p4), .val (.int p5), .val (.int (Int32.ofNat k)), .val (.ref b), .val (.int (Int32.ofNat j)), .val (.ref b), .val (.int (1 : Int32))] []))
      refine own_pre (fun _ kz_ => XS.iload X1.here hx rfl (hb hby at_131) rfl kz_) ?_
      show OwnGoes p e below _ (T1.setTop (mkF m 133 #[.val (.int p0), .val (.int p1), .val (.int p2), .val (.int p3), .val (.int p4), .val (.int p5), .val (.int (Int32.ofNat k)), .val (.ref b), .val (.int (Int32.ofNat j)), .val (.ref b), .val (.int (1 : Int32))] [(.int (1 : Int32))]))
      refine own_pre (fun _ kz_ => XS.aload X1.here hx rfl (hb hby at_133) rfl rfl kz_) ?_
      show OwnGoes p e below _ (T1.setTop (mkF m 135 #[.val (.int p0), .val (.int p1), .val (.int p2), .val (.int p3), .val (.int p4), .val (.int p5), .val (.int (Int32.ofNat k)), .val (.ref b), .val (.int (Int32.ofNat j)), .val (.ref b), .val (.int (1 : Int32))] [(.ref b), (.int (1 : Int32))]))
      refine own_pre (own_alen X1 hx hZ rfl f1_1 (n := (Int32.ofNat k)) (by rw [hlen]) (g := (mkF m 135 #[.val (.int p0), .val (.int p1), .val (.int p2), .val (.int p3), .val (.int p4), .val (.int p5), .val (.int (Int32.ofNat k)), .val (.ref b), .val (.int (Int32.ofNat j)), .val (.ref b), .val (.int (1 : Int32))] [(.ref b), (.int (1 : Int32))])) rfl rfl (hb hby at_135)) ?_
      show OwnGoes p e below _ (T1.setTop (mkF m 136 #[.val (.int p0), .val (.int p1), .val (.int p2), .val (.int p3), .val (.int p4), .val (.int p5), .val (.int (Int32.ofNat k)), .val (.ref b), .val (.int (Int32.ofNat j)), .val (.ref b), .val (.int (1 : Int32))] [(.int (Int32.ofNat k)), (.int (1 : Int32))]))
      refine own_pre (fun _ kz_ => XS.iload X1.here hx rfl (hb hby at_136) rfl kz_) ?_
      show OwnGoes p e below _ (T1.setTop (mkF m 138 #[.val (.int p0), .val (.int p1), .val (.int p2), .val (.int p3), .val (.int p4), .val (.int p5), .val (.int (Int32.ofNat k)), .val (.ref b), .val (.int (Int32.ofNat j)), .val (.ref b), .val (.int (1 : Int32))] [(.int (Int32.ofNat k)), (.int (Int32.ofNat k)), (.int (1 : Int32))]))
      refine own_pre (fun _ kz_ => XS.icmpNo X1.here hx rfl (hb hby at_138) rfl (teq (rfl : (Int32.ofNat k) = (Int32.ofNat k))).2 kz_) ?_
      show OwnGoes p e below _ (T1.setTop (mkF m 141 #[.val (.int p0), .val (.int p1), .val (.int p2), .val (.int p3), .val (.int p4), .val (.int p5), .val (.int (Int32.ofNat k)), .val (.ref b), .val (.int (Int32.ofNat j)), .val (.ref b), .val (.int (1 : Int32))] [(.int (1 : Int32))]))
      refine own_pre (fun _ kz_ => XS.aload X1.here hx rfl (hb hby at_141) rfl rfl kz_) ?_
      show OwnGoes p e below _ (T1.setTop (mkF m 143 #[.val (.int p0), .val (.int p1), .val (.int p2), .val (.int p3), .val (.int p4), .val (.int p5), .val (.int (Int32.ofNat k)), .val (.ref b), .val (.int (Int32.ofNat j)), .val (.ref b), .val (.int (1 : Int32))] [(.ref b), (.int (1 : Int32))]))
      refine own_pre (fun _ kz_ => XS.iload X1.here hx rfl (hb hby at_143) rfl kz_) ?_
      show OwnGoes p e below _ (T1.setTop (mkF m 145 #[.val (.int p0), .val (.int p1), .val (.int p2), .val (.int p3), .val (.int p4), .val (.int p5), .val (.int (Int32.ofNat k)), .val (.ref b), .val (.int (Int32.ofNat j)), .val (.ref b), .val (.int (1 : Int32))] [(.int (Int32.ofNat k)), (.ref b), (.int (1 : Int32))]))
      refine own_pre (fun _ kz_ => XS.iloadN X1.here hx rfl (hb hby at_145) rfl kz_) ?_
      show OwnGoes p e below _ (T1.setTop (mkF m 146 #[.val (.int p0), .val (.int p1), .val (.int p2), .val (.int p3), .val (.int p4), .val (.int p5), .val (.int (Int32.ofNat k)), .val (.ref b), .val (.int (Int32.ofNat j)), .val (.ref b), .val (.int (1 : Int32))] [(.int p1), (.int (Int32.ofNat k)), (.ref b), (.int (1 : Int32))]))
      refine own_pre (fun _ kz_ => XS.iloadN X1.here hx rfl (hb hby at_146) rfl kz_) ?_
      show OwnGoes p e below _ (T1.setTop (mkF m 147 #[.val (.int p0), .val (.int p1), .val (.int p2), .val (.int p3), .val (.int p4), .val (.int p5), .val (.int (Int32.ofNat k)), .val (.ref b), .val (.int (Int32.ofNat j)), .val (.ref b), .val (.int (1 : Int32))] [(.int p2), (.int p1), (.int (Int32.ofNat k)), (.ref b), (.int (1 : Int32))]))
      refine own_pre (fun _ kz_ => XS.iloadN X1.here hx rfl (hb hby at_147) rfl kz_) ?_
      show OwnGoes p e below _ (T1.setTop (mkF m 148 #[.val (.int p0), .val (.int p1), .val (.int p2), .val (.int p3), .val (.int p4), .val (.int p5), .val (.int (Int32.ofNat k)), .val (.ref b), .val (.int (Int32.ofNat j)), .val (.ref b), .val (.int (1 : Int32))] [(.int p3), (.int p2), (.int p1), (.int (Int32.ofNat k)), (.ref b), (.int (1 : Int32))]))
      refine own_pre (fun _ kz_ => XS.iload X1.here hx rfl (hb hby at_148) rfl kz_) ?_
      show OwnGoes p e below _ (T1.setTop (mkF m 150 #[.val (.int p0), .val (.int p1), .val (.int p2), .val (.int p3), .val (.int p4), .val (.int p5), .val (.int (Int32.ofNat k)), .val (.ref b), .val (.int (Int32.ofNat j)), .val (.ref b), .val (.int (1 : Int32))] [(.int p4), (.int p3), (.int p2), (.int p1), (.int (Int32.ofNat k)), (.ref b), (.int (1 : Int32))]))
      obtain ⟨_, _, ⟨T2, L2, k2, n2⟩, -, X2, ⟨Lc2, hQ2, l2, y2, z2⟩, st2⟩ := Jvm.LawKit.callS X1 hx (y := (⟨"com/example/embosser/embosser/domain/PositionsRoomPinLaw", "prefix", "([IIIIII)Z"⟩ : MethodName)) hown (mvT hZ (hw _ (List.mem_of_getElem? (i := 18) rfl))) (mvT hZ (hw _ (List.mem_of_getElem? (i := 19) rfl))) (mvT hZ (hw _ (List.mem_of_getElem? (i := 20) rfl))) (mvT hZ (hw _ (List.mem_of_getElem? (i := 21) rfl))) (by decide) (backOf (W := 1) (rmPre l Z a0 hw [] b (Int32.ofNat k) p1 p2 p3 p4 (own_vs k p1 p2 p3 p4) T1.heap n0 Z1 f1_1 (by rw [hlen]; omega) (by rcases hk with rfl | rfl | rfl | rfl <;> first | rfl | (intro q; first | rfl | exact absurd (by decide) q)) (by rcases hk with rfl | rfl | rfl | rfl <;> first | rfl | (intro q; first | rfl | exact absurd (by decide) q)) (by rcases hk with rfl | rfl | rfl | rfl <;> first | rfl | (intro q; first | rfl | exact absurd (by decide) q)) (by rcases hk with rfl | rfl | rfl | rfl <;> first | rfl | (intro q; first | rfl | exact absurd (by decide) q))) hZ (hw _ (List.mem_of_getElem? (i := 21) rfl)) (hw _ (List.mem_of_getElem? (i := 20) rfl)) (by decide) (by decide)) (g := (mkF m 150 #[.val (.int p0), .val (.int p1), .val (.int p2), .val (.int p3), .val (.int p4), .val (.int p5), .val (.int (Int32.ofNat k)), .val (.ref b), .val (.int (Int32.ofNat j)), .val (.ref b), .val (.int (1 : Int32))] [(.int p4), (.int p3), (.int p2), (.int p1), (.int (Int32.ofNat k)), (.ref b), (.int (1 : Int32))])) rfl (by rw [hml]; rfl) (argsL := [(.ref b), (.int (Int32.ofNat k)), (.int p1), (.int p2), (.int p3), (.int p4)]) (rest := [(.int (1 : Int32))]) (lenOf (d := "([IIIIII)Z") (ps := [(.array .int), .int, .int, .int, .int, .int]) (r := some .boolean) (by decide +kernel) rfl) rfl (by show 2 * 0 + _ ≤ _; exact Nat.le_of_eq rfl) (hb hby at_150) (fun _ _ => ⟨rfl, rfl, (by decide : 2 + 0 ≤ _), (by decide : 12 + 0 ≤ _)⟩)
      dsimp only [Pt.U, Pt.locs, Pt.cells, Pt.slots] at X2 l2 y2 z2 st2 hQ2
      subst l2 y2 z2
      obtain ⟨rfl, N2q, e2⟩ := hQ2
      have N2 := Fr.app N1 N2q
      refine own_pre st2 ?_
      show OwnGoes p e below _ (T2.setTop (mkF m 153 #[.val (.int p0), .val (.int p1), .val (.int p2), .val (.int p3), .val (.int p4), .val (.int p5), .val (.int (Int32.ofNat k)), .val (.ref b), .val (.int (Int32.ofNat j)), .val (.ref b), .val (.int (1 : Int32))] [(.int (1 : Int32)), (.int (1 : Int32))]))
      refine own_pre (fun _ kz_ => XS.ifNo X2.here hx rfl (hb hby at_153) rfl ((if0 _ _).trans (feq (by decide : ¬ ((1 : Int32) = (0 : Int32)))).1) kz_) ?_
      show OwnGoes p e below _ (T2.setTop (mkF m 156 #[.val (.int p0), .val (.int p1), .val (.int p2), .val (.int p3), .val (.int p4), .val (.int p5), .val (.int (Int32.ofNat k)), .val (.ref b), .val (.int (Int32.ofNat j)), .val (.ref b), .val (.int (1 : Int32))] [(.int (1 : Int32))]))
      refine own_pre (fun _ kz_ => XS.iconst X2.here hx rfl (hb hby at_156) kz_) ?_
      show OwnGoes p e below _ (T2.setTop (mkF m 157 #[.val (.int p0), .val (.int p1), .val (.int p2), .val (.int p3), .val (.int p4), .val (.int p5), .val (.int (Int32.ofNat k)), .val (.ref b), .val (.int (Int32.ofNat j)), .val (.ref b), .val (.int (1 : Int32))] [(.int (1 : Int32)), (.int (1 : Int32))]))
      refine own_pre (fun _ kz_ => XS.goto X2.here hx rfl (pc0 := 157) (pc' := 161) rfl (hb hby at_157) (by decide) (by decide) kz_) ?_
      show OwnGoes p e below _ (T2.setTop (mkF m 161 #[.val (.int p0), .val (.int p1), .val (.int p2), .val (.int p3), .val (.int p4), .val (.int p5), .val (.int (Int32.ofNat k)), .val (.ref b), .val (.int (Int32.ofNat j)), .val (.ref b), .val (.int (1 : Int32))] [(.int (1 : Int32)), (.int (1 : Int32))]))
      refine own_pre (fun _ kz_ => XS.iand X2.here hx rfl (hb hby at_161) rfl kz_) ?_
      show OwnGoes p e below _ (T2.setTop (mkF m 162 #[.val (.int p0), .val (.int p1), .val (.int p2), .val (.int p3), .val (.int p4), .val (.int p5), .val (.int (Int32.ofNat k)), .val (.ref b), .val (.int (Int32.ofNat j)), .val (.ref b), .val (.int (1 : Int32))] [(.int ((1 : Int32) &&& (1 : Int32)))]))
      rw [show ((1 : Int32) &&& (1 : Int32)) = (1 : Int32) from by decide]
      show OwnGoes p e below _ (T2.setTop (mkF m 162 #[.val (.int p0), .val (.int p1), .val (.int p2), .val (.int p3), .val (.int p4), .val (.int p5), .val (.int (Int32.ofNat k)), .val (.ref b), .val (.int (Int32.ofNat j)), .val (.ref b), .val (.int (1 : Int32))] [(.int (1 : Int32))]))
      refine own_pre (fun _ kz_ => XS.istore X2.here hx rfl (hb hby at_162) rfl (l' := #[.val (.int p0), .val (.int p1), .val (.int p2), .val (.int p3), .val (.int p4), .val (.int p5), .val (.int (Int32.ofNat k)), .val (.ref b), .val (.int (Int32.ofNat j)), .val (.ref b), .val (.int (1 : Int32))]) rfl kz_) ?_
      show OwnGoes p e below _ (T2.setTop (mkF m 164 #[.val (.int p0), .val (.int p1), .val (.int p2), .val (.int p3), .val (.int p4), .val (.int p5), .val (.int (Int32.ofNat k)), .val (.ref b), .val (.int (Int32.ofNat j)), .val (.ref b), .val (.int (1 : Int32))] []))
      refine own_pre (fun _ kz_ => XS.iload X2.here hx rfl (hb hby at_164) rfl kz_) ?_
      show OwnGoes p e below _ (T2.setTop (mkF m 166 #[.val (.int p0), .val (.int p1), .val (.int p2), .val (.int p3), .val (.int p4), .val (.int p5), .val (.int (Int32.ofNat k)), .val (.ref b), .val (.int (Int32.ofNat j)), .val (.ref b), .val (.int (1 : Int32))] [(.int (Int32.ofNat j))]))
      refine own_pre (fun _ kz_ => XS.iload X2.here hx rfl (hb hby at_166) rfl kz_) ?_
      show OwnGoes p e below _ (T2.setTop (mkF m 168 #[.val (.int p0), .val (.int p1), .val (.int p2), .val (.int p3), .val (.int p4), .val (.int p5), .val (.int (Int32.ofNat k)), .val (.ref b), .val (.int (Int32.ofNat j)), .val (.ref b), .val (.int (1 : Int32))] [(.int (Int32.ofNat k)), (.int (Int32.ofNat j))]))
      refine own_pre (fun _ kz_ => XS.icmpNo X2.here hx rfl (hb hby at_168) rfl (tlt (XT.lt32 (by omega) hu : (Int32.ofNat j) < (Int32.ofNat k))).2.1 kz_) ?_
      show OwnGoes p e below _ (T2.setTop (mkF m 171 #[.val (.int p0), .val (.int p1), .val (.int p2), .val (.int p3), .val (.int p4), .val (.int p5), .val (.int (Int32.ofNat k)), .val (.ref b), .val (.int (Int32.ofNat j)), .val (.ref b), .val (.int (1 : Int32))] []))
      refine own_pre (fun _ kz_ => XS.iload X2.here hx rfl (hb hby at_171) rfl kz_) ?_
      show OwnGoes p e below _ (T2.setTop (mkF m 173 #[.val (.int p0), .val (.int p1), .val (.int p2), .val (.int p3), .val (.int p4), .val (.int p5), .val (.int (Int32.ofNat k)), .val (.ref b), .val (.int (Int32.ofNat j)), .val (.ref b), .val (.int (1 : Int32))] [(.int (1 : Int32))]))
      refine own_pre (fun _ kz_ => XS.aload X2.here hx rfl (hb hby at_173) rfl rfl kz_) ?_
      show OwnGoes p e below _ (T2.setTop (mkF m 175 #[.val (.int p0), .val (.int p1), .val (.int p2), .val (.int p3), .val (.int p4), .val (.int p5), .val (.int (Int32.ofNat k)), .val (.ref b), .val (.int (Int32.ofNat j)), .val (.ref b), .val (.int (1 : Int32))] [(.ref b), (.int (1 : Int32))]))
      refine own_pre (fun _ kz_ => XS.aload X2.here hx rfl (hb hby at_175) rfl rfl kz_) ?_
      show OwnGoes p e below _ (T2.setTop (mkF m 177 #[.val (.int p0), .val (.int p1), .val (.int p2), .val (.int p3), .val (.int p4), .val (.int p5), .val (.int (Int32.ofNat k)), .val (.ref b), .val (.int (Int32.ofNat j)), .val (.ref b), .val (.int (1 : Int32))] [(.ref b), (.ref b), (.int (1 : Int32))]))
      refine own_pre (fun _ kz_ => Jvm.RoadKit.acmp (g := (mkF m 177 #[.val (.int p0), .val (.int p1), .val (.int p2), .val (.int p3), .val (.int p4), .val (.int p5), .val (.int (Int32.ofNat k)), .val (.ref b), .val (.int (Int32.ofNat j)), .val (.ref b), .val (.int (1 : Int32))] [(.ref b), (.ref b), (.int (1 : Int32))])) X2 hx rfl rfl rfl (pc0 := 177) (pc' := 180) (same := true) rfl (hb hby at_177) rfl (decide_eq_true (congrArg Value.ref (rfl : b = b))) (by decide) (by decide) kz_) ?_
      show OwnGoes p e below _ (T2.setTop (mkF m 180 #[.val (.int p0), .val (.int p1), .val (.int p2), .val (.int p3), .val (.int p4), .val (.int p5), .val (.int (Int32.ofNat k)), .val (.ref b), .val (.int (Int32.ofNat j)), .val (.ref b), .val (.int (1 : Int32))] [(.int (1 : Int32))]))
      refine own_pre (fun _ kz_ => XS.aload X2.here hx rfl (hb hby at_180) rfl rfl kz_) ?_
      show OwnGoes p e below _ (T2.setTop (mkF m 182 #[.val (.int p0), .val (.int p1), .val (.int p2), .val (.int p3), .val (.int p4), .val (.int p5), .val (.int (Int32.ofNat k)), .val (.ref b), .val (.int (Int32.ofNat j)), .val (.ref b), .val (.int (1 : Int32))] [(.ref b), (.int (1 : Int32))]))
      refine own_pre (own_alen X2 hx hZ e2 f1_1 (n := (Int32.ofNat k)) (by rw [hlen]) (g := (mkF m 182 #[.val (.int p0), .val (.int p1), .val (.int p2), .val (.int p3), .val (.int p4), .val (.int p5), .val (.int (Int32.ofNat k)), .val (.ref b), .val (.int (Int32.ofNat j)), .val (.ref b), .val (.int (1 : Int32))] [(.ref b), (.int (1 : Int32))])) rfl rfl (hb hby at_182)) ?_
      show OwnGoes p e below _ (T2.setTop (mkF m 183 #[.val (.int p0), .val (.int p1), .val (.int p2), .val (.int p3), .val (.int p4), .val (.int p5), .val (.int (Int32.ofNat k)), .val (.ref b), .val (.int (Int32.ofNat j)), .val (.ref b), .val (.int (1 : Int32))] [(.int (Int32.ofNat k)), (.int (1 : Int32))]))
      refine own_pre (fun _ kz_ => XS.iload X2.here hx rfl (hb hby at_183) rfl kz_) ?_
      show OwnGoes p e below _ (T2.setTop (mkF m 185 #[.val (.int p0), .val (.int p1), .val (.int p2), .val (.int p3), .val (.int p4), .val (.int p5), .val (.int (Int32.ofNat k)), .val (.ref b), .val (.int (Int32.ofNat j)), .val (.ref b), .val (.int (1 : Int32))] [(.int (Int32.ofNat k)), (.int (Int32.ofNat k)), (.int (1 : Int32))]))
      refine own_pre (fun _ kz_ => XS.icmpNo X2.here hx rfl (hb hby at_185) rfl (teq (rfl : (Int32.ofNat k) = (Int32.ofNat k))).2 kz_) ?_
      show OwnGoes p e below _ (T2.setTop (mkF m 188 #[.val (.int p0), .val (.int p1), .val (.int p2), .val (.int p3), .val (.int p4), .val (.int p5), .val (.int (Int32.ofNat k)), .val (.ref b), .val (.int (Int32.ofNat j)), .val (.ref b), .val (.int (1 : Int32))] [(.int (1 : Int32))]))
      refine own_pre (fun _ kz_ => XS.iconst X2.here hx rfl (hb hby at_188) kz_) ?_
      show OwnGoes p e below _ (T2.setTop (mkF m 189 #[.val (.int p0), .val (.int p1), .val (.int p2), .val (.int p3), .val (.int p4), .val (.int p5), .val (.int (Int32.ofNat k)), .val (.ref b), .val (.int (Int32.ofNat j)), .val (.ref b), .val (.int (1 : Int32))] [(.int (1 : Int32)), (.int (1 : Int32))]))
      refine own_pre (fun _ kz_ => XS.goto X2.here hx rfl (pc0 := 189) (pc' := 193) rfl (hb hby at_189) (by decide) (by decide) kz_) ?_
      show OwnGoes p e below _ (T2.setTop (mkF m 193 #[.val (.int p0), .val (.int p1), .val (.int p2), .val (.int p3), .val (.int p4), .val (.int p5), .val (.int (Int32.ofNat k)), .val (.ref b), .val (.int (Int32.ofNat j)), .val (.ref b), .val (.int (1 : Int32))] [(.int (1 : Int32)), (.int (1 : Int32))]))
      refine own_pre (fun _ kz_ => XS.iand X2.here hx rfl (hb hby at_193) rfl kz_) ?_
      show OwnGoes p e below _ (T2.setTop (mkF m 194 #[.val (.int p0), .val (.int p1), .val (.int p2), .val (.int p3), .val (.int p4), .val (.int p5), .val (.int (Int32.ofNat k)), .val (.ref b), .val (.int (Int32.ofNat j)), .val (.ref b), .val (.int (1 : Int32))] [(.int ((1 : Int32) &&& (1 : Int32)))]))
      rw [show ((1 : Int32) &&& (1 : Int32)) = (1 : Int32) from by decide]
      show OwnGoes p e below _ (T2.setTop (mkF m 194 #[.val (.int p0), .val (.int p1), .val (.int p2), .val (.int p3), .val (.int p4), .val (.int p5), .val (.int (Int32.ofNat k)), .val (.ref b), .val (.int (Int32.ofNat j)), .val (.ref b), .val (.int (1 : Int32))] [(.int (1 : Int32))]))
      refine own_pre (fun _ kz_ => XS.istore X2.here hx rfl (hb hby at_194) rfl (l' := #[.val (.int p0), .val (.int p1), .val (.int p2), .val (.int p3), .val (.int p4), .val (.int p5), .val (.int (Int32.ofNat k)), .val (.ref b), .val (.int (Int32.ofNat j)), .val (.ref b), .val (.int (1 : Int32))]) rfl kz_) ?_
      show OwnGoes p e below _ (T2.setTop (mkF m 196 #[.val (.int p0), .val (.int p1), .val (.int p2), .val (.int p3), .val (.int p4), .val (.int p5), .val (.int (Int32.ofNat k)), .val (.ref b), .val (.int (Int32.ofNat j)), .val (.ref b), .val (.int (1 : Int32))] []))
      refine own_pre (fun _ kz_ => XS.goto X2.here hx rfl (pc0 := 196) (pc' := 226) rfl (hb hby at_196) (by decide) (by decide) kz_) ?_
      show OwnGoes p e below _ (T2.setTop (mkF m 226 #[.val (.int p0), .val (.int p1), .val (.int p2), .val (.int p3), .val (.int p4), .val (.int p5), .val (.int (Int32.ofNat k)), .val (.ref b), .val (.int (Int32.ofNat j)), .val (.ref b), .val (.int (1 : Int32))] []))
      refine own_pre (fun _ kz_ => XS.iload X2.here hx rfl (hb hby at_226) rfl kz_) ?_
      show OwnGoes p e below _ (T2.setTop (mkF m 228 #[.val (.int p0), .val (.int p1), .val (.int p2), .val (.int p3), .val (.int p4), .val (.int p5), .val (.int (Int32.ofNat k)), .val (.ref b), .val (.int (Int32.ofNat j)), .val (.ref b), .val (.int (1 : Int32))] [(.int (1 : Int32))]))
      refine own_pre (fun _ kz_ => XS.aload X2.here hx rfl (hb hby at_228) rfl rfl kz_) ?_
      show OwnGoes p e below _ (T2.setTop (mkF m 230 #[.val (.int p0), .val (.int p1), .val (.int p2), .val (.int p3), .val (.int p4), .val (.int p5), .val (.int (Int32.ofNat k)), .val (.ref b), .val (.int (Int32.ofNat j)), .val (.ref b), .val (.int (1 : Int32))] [(.ref b), (.int (1 : Int32))]))
      refine own_pre (fun _ kz_ => XS.iload X2.here hx rfl (hb hby at_230) rfl kz_) ?_
      show OwnGoes p e below _ (T2.setTop (mkF m 232 #[.val (.int p0), .val (.int p1), .val (.int p2), .val (.int p3), .val (.int p4), .val (.int p5), .val (.int (Int32.ofNat k)), .val (.ref b), .val (.int (Int32.ofNat j)), .val (.ref b), .val (.int (1 : Int32))] [(.int (Int32.ofNat k)), (.ref b), (.int (1 : Int32))]))
      refine own_pre (fun _ kz_ => XS.iloadN X2.here hx rfl (hb hby at_232) rfl kz_) ?_
      show OwnGoes p e below _ (T2.setTop (mkF m 233 #[.val (.int p0), .val (.int p1), .val (.int p2), .val (.int p3), .val (.int p4), .val (.int p5), .val (.int (Int32.ofNat k)), .val (.ref b), .val (.int (Int32.ofNat j)), .val (.ref b), .val (.int (1 : Int32))] [(.int p1), (.int (Int32.ofNat k)), (.ref b), (.int (1 : Int32))]))
      refine own_pre (fun _ kz_ => XS.iloadN X2.here hx rfl (hb hby at_233) rfl kz_) ?_
      show OwnGoes p e below _ (T2.setTop (mkF m 234 #[.val (.int p0), .val (.int p1), .val (.int p2), .val (.int p3), .val (.int p4), .val (.int p5), .val (.int (Int32.ofNat k)), .val (.ref b), .val (.int (Int32.ofNat j)), .val (.ref b), .val (.int (1 : Int32))] [(.int p2), (.int p1), (.int (Int32.ofNat k)), (.ref b), (.int (1 : Int32))]))
      refine own_pre (fun _ kz_ => XS.iloadN X2.here hx rfl (hb hby at_234) rfl kz_) ?_
      show OwnGoes p e below _ (T2.setTop (mkF m 235 #[.val (.int p0), .val (.int p1), .val (.int p2), .val (.int p3), .val (.int p4), .val (.int p5), .val (.int (Int32.ofNat k)), .val (.ref b), .val (.int (Int32.ofNat j)), .val (.ref b), .val (.int (1 : Int32))] [(.int p3), (.int p2), (.int p1), (.int (Int32.ofNat k)), (.ref b), (.int (1 : Int32))]))
      refine own_pre (fun _ kz_ => XS.iload X2.here hx rfl (hb hby at_235) rfl kz_) ?_
      show OwnGoes p e below _ (T2.setTop (mkF m 237 #[.val (.int p0), .val (.int p1), .val (.int p2), .val (.int p3), .val (.int p4), .val (.int p5), .val (.int (Int32.ofNat k)), .val (.ref b), .val (.int (Int32.ofNat j)), .val (.ref b), .val (.int (1 : Int32))] [(.int p4), (.int p3), (.int p2), (.int p1), (.int (Int32.ofNat k)), (.ref b), (.int (1 : Int32))]))
      obtain ⟨_, _, ⟨T3, L3, k3, n3⟩, -, X3, ⟨Lc3, hQ3, l3, y3, z3⟩, st3⟩ := Jvm.LawKit.callS X2 hx (y := (⟨"com/example/embosser/embosser/domain/PositionsRoomPinLaw", "prefix", "([IIIIII)Z"⟩ : MethodName)) hown (mvT hZ (hw _ (List.mem_of_getElem? (i := 18) rfl))) (mvT hZ (hw _ (List.mem_of_getElem? (i := 19) rfl))) (mvT hZ (hw _ (List.mem_of_getElem? (i := 20) rfl))) (mvT hZ (hw _ (List.mem_of_getElem? (i := 21) rfl))) (by decide) (backOf (W := 1) (rmPre l Z a0 hw [] b (Int32.ofNat k) p1 p2 p3 p4 (own_vs k p1 p2 p3 p4) T1.heap n0 Z1 f1_1 (by rw [hlen]; omega) (by rcases hk with rfl | rfl | rfl | rfl <;> first | rfl | (intro q; first | rfl | exact absurd (by decide) q)) (by rcases hk with rfl | rfl | rfl | rfl <;> first | rfl | (intro q; first | rfl | exact absurd (by decide) q)) (by rcases hk with rfl | rfl | rfl | rfl <;> first | rfl | (intro q; first | rfl | exact absurd (by decide) q)) (by rcases hk with rfl | rfl | rfl | rfl <;> first | rfl | (intro q; first | rfl | exact absurd (by decide) q))) hZ (hw _ (List.mem_of_getElem? (i := 21) rfl)) (hw _ (List.mem_of_getElem? (i := 20) rfl)) (by decide) (by decide)) (g := (mkF m 237 #[.val (.int p0), .val (.int p1), .val (.int p2), .val (.int p3), .val (.int p4), .val (.int p5), .val (.int (Int32.ofNat k)), .val (.ref b), .val (.int (Int32.ofNat j)), .val (.ref b), .val (.int (1 : Int32))] [(.int p4), (.int p3), (.int p2), (.int p1), (.int (Int32.ofNat k)), (.ref b), (.int (1 : Int32))])) rfl (by rw [hml]; rfl) (argsL := [(.ref b), (.int (Int32.ofNat k)), (.int p1), (.int p2), (.int p3), (.int p4)]) (rest := [(.int (1 : Int32))]) (lenOf (d := "([IIIIII)Z") (ps := [(.array .int), .int, .int, .int, .int, .int]) (r := some .boolean) (by decide +kernel) rfl) rfl (by show 2 * 0 + _ ≤ _; exact Nat.le_of_eq rfl) (hb hby at_237) (fun _ _ => ⟨rfl, e2, (by decide : 2 + 0 ≤ _), (by decide : 12 + 0 ≤ _)⟩)
      dsimp only [Pt.U, Pt.locs, Pt.cells, Pt.slots] at X3 l3 y3 z3 st3 hQ3
      subst l3 y3 z3
      obtain ⟨rfl, N3q, e3⟩ := hQ3
      have N3 := Fr.app N2 N3q
      refine own_pre st3 ?_
      show OwnGoes p e below _ (T3.setTop (mkF m 240 #[.val (.int p0), .val (.int p1), .val (.int p2), .val (.int p3), .val (.int p4), .val (.int p5), .val (.int (Int32.ofNat k)), .val (.ref b), .val (.int (Int32.ofNat j)), .val (.ref b), .val (.int (1 : Int32))] [(.int (1 : Int32)), (.int (1 : Int32))]))
      refine own_pre (fun _ kz_ => XS.iand X3.here hx rfl (hb hby at_240) rfl kz_) ?_
      show OwnGoes p e below _ (T3.setTop (mkF m 241 #[.val (.int p0), .val (.int p1), .val (.int p2), .val (.int p3), .val (.int p4), .val (.int p5), .val (.int (Int32.ofNat k)), .val (.ref b), .val (.int (Int32.ofNat j)), .val (.ref b), .val (.int (1 : Int32))] [(.int ((1 : Int32) &&& (1 : Int32)))]))
      rw [show ((1 : Int32) &&& (1 : Int32)) = (1 : Int32) from by decide]
      show OwnGoes p e below _ (T3.setTop (mkF m 241 #[.val (.int p0), .val (.int p1), .val (.int p2), .val (.int p3), .val (.int p4), .val (.int p5), .val (.int (Int32.ofNat k)), .val (.ref b), .val (.int (Int32.ofNat j)), .val (.ref b), .val (.int (1 : Int32))] [(.int (1 : Int32))]))
      refine own_pre (fun _ kz_ => XS.istore X3.here hx rfl (hb hby at_241) rfl (l' := #[.val (.int p0), .val (.int p1), .val (.int p2), .val (.int p3), .val (.int p4), .val (.int p5), .val (.int (Int32.ofNat k)), .val (.ref b), .val (.int (Int32.ofNat j)), .val (.ref b), .val (.int (1 : Int32))]) rfl kz_) ?_
      show OwnGoes p e below _ (T3.setTop (mkF m 243 #[.val (.int p0), .val (.int p1), .val (.int p2), .val (.int p3), .val (.int p4), .val (.int p5), .val (.int (Int32.ofNat k)), .val (.ref b), .val (.int (Int32.ofNat j)), .val (.ref b), .val (.int (1 : Int32))] []))
      refine own_pre (fun _ kz_ => XS.iload X3.here hx rfl (hb hby at_243) rfl kz_) ?_
      show OwnGoes p e below _ (T3.setTop (mkF m 245 #[.val (.int p0), .val (.int p1), .val (.int p2), .val (.int p3), .val (.int p4), .val (.int p5), .val (.int (Int32.ofNat k)), .val (.ref b), .val (.int (Int32.ofNat j)), .val (.ref b), .val (.int (1 : Int32))] [(.int (1 : Int32))]))
      refine own_pre (fun _ kz_ => XS.aload X3.here hx rfl (hb hby at_245) rfl rfl kz_) ?_
      show OwnGoes p e below _ (T3.setTop (mkF m 247 #[.val (.int p0), .val (.int p1), .val (.int p2), .val (.int p3), .val (.int p4), .val (.int p5), .val (.int (Int32.ofNat k)), .val (.ref b), .val (.int (Int32.ofNat j)), .val (.ref b), .val (.int (1 : Int32))] [(.ref b), (.int (1 : Int32))]))
      refine own_pre (fun _ kz_ => XS.iconst X3.here hx rfl (hb hby at_247) kz_) ?_
      show OwnGoes p e below _ (T3.setTop (mkF m 248 #[.val (.int p0), .val (.int p1), .val (.int p2), .val (.int p3), .val (.int p4), .val (.int p5), .val (.int (Int32.ofNat k)), .val (.ref b), .val (.int (Int32.ofNat j)), .val (.ref b), .val (.int (1 : Int32))] [(.int (1 : Int32)), (.ref b), (.int (1 : Int32))]))
      refine own_pre (fun _ kz_ => XS.iload X3.here hx rfl (hb hby at_248) rfl kz_) ?_
      show OwnGoes p e below _ (T3.setTop (mkF m 250 #[.val (.int p0), .val (.int p1), .val (.int p2), .val (.int p3), .val (.int p4), .val (.int p5), .val (.int (Int32.ofNat k)), .val (.ref b), .val (.int (Int32.ofNat j)), .val (.ref b), .val (.int (1 : Int32))] [(.int (Int32.ofNat k)), (.int (1 : Int32)), (.ref b), (.int (1 : Int32))]))
      obtain ⟨_, _, ⟨T4, L4, k4, n4⟩, -, X4, ⟨Lc4, hQ4, l4, y4, z4⟩, st4⟩ := Jvm.LawKit.callS X3 hx (y := (⟨"com/example/embosser/embosser/domain/PositionsRoomPinLaw", "zeroAfter", "([III)Z"⟩ : MethodName)) hown (mvT hZ (hw _ (List.mem_of_getElem? (i := 25) rfl))) (mvT hZ (hw _ (List.mem_of_getElem? (i := 26) rfl))) (mvT hZ (hw _ (List.mem_of_getElem? (i := 20) rfl))) (mvT hZ (hw _ (List.mem_of_getElem? (i := 27) rfl))) (by decide) (backOf (W := 1) (rmZ l Z a0 hw [] b (1 : Int32) (Int32.ofNat k) (own_vs k p1 p2 p3 p4) T1.heap n0 Z1 f1_1 (by decide) (by rcases hk with rfl | rfl | rfl | rfl <;> (intro q1 q2; first | rfl | exact absurd (by decide) q1 | exact absurd q2 (by first | decide | (simp [own_vs]; done) | (simp [own_vs]; decide))))) hZ (hw _ (List.mem_of_getElem? (i := 27) rfl)) (hw _ (List.mem_of_getElem? (i := 20) rfl)) (by decide) (by decide)) (g := (mkF m 250 #[.val (.int p0), .val (.int p1), .val (.int p2), .val (.int p3), .val (.int p4), .val (.int p5), .val (.int (Int32.ofNat k)), .val (.ref b), .val (.int (Int32.ofNat j)), .val (.ref b), .val (.int (1 : Int32))] [(.int (Int32.ofNat k)), (.int (1 : Int32)), (.ref b), (.int (1 : Int32))])) rfl (by rw [hml]; rfl) (argsL := [(.ref b), (.int (1 : Int32)), (.int (Int32.ofNat k))]) (rest := [(.int (1 : Int32))]) (lenOf (d := "([III)Z") (ps := [(.array .int), .int, .int]) (r := some .boolean) (by decide +kernel) rfl) rfl (by show 2 * 0 + _ ≤ _; exact Nat.le_of_eq rfl) (hb hby at_250) (fun _ _ => ⟨rfl, e3, (by decide : 2 + 0 ≤ _), (by decide : 12 + 0 ≤ _)⟩)
      dsimp only [Pt.U, Pt.locs, Pt.cells, Pt.slots] at X4 l4 y4 z4 st4 hQ4
      subst l4 y4 z4
      obtain ⟨rfl, N4q, e4⟩ := hQ4
      have N4 := Fr.app N3 N4q
      refine own_pre st4 ?_
      show OwnGoes p e below _ (T4.setTop (mkF m 253 #[.val (.int p0), .val (.int p1), .val (.int p2), .val (.int p3), .val (.int p4), .val (.int p5), .val (.int (Int32.ofNat k)), .val (.ref b), .val (.int (Int32.ofNat j)), .val (.ref b), .val (.int (1 : Int32))] [(.int (1 : Int32)), (.int (1 : Int32))]))
      refine own_pre (fun _ kz_ => XS.iand X4.here hx rfl (hb hby at_253) rfl kz_) ?_
      show OwnGoes p e below _ (T4.setTop (mkF m 254 #[.val (.int p0), .val (.int p1), .val (.int p2), .val (.int p3), .val (.int p4), .val (.int p5), .val (.int (Int32.ofNat k)), .val (.ref b), .val (.int (Int32.ofNat j)), .val (.ref b), .val (.int (1 : Int32))] [(.int ((1 : Int32) &&& (1 : Int32)))]))
      rw [show ((1 : Int32) &&& (1 : Int32)) = (1 : Int32) from by decide]
      show OwnGoes p e below _ (T4.setTop (mkF m 254 #[.val (.int p0), .val (.int p1), .val (.int p2), .val (.int p3), .val (.int p4), .val (.int p5), .val (.int (Int32.ofNat k)), .val (.ref b), .val (.int (Int32.ofNat j)), .val (.ref b), .val (.int (1 : Int32))] [(.int (1 : Int32))]))
      refine own_pre (fun _ kz_ => XS.istore X4.here hx rfl (hb hby at_254) rfl (l' := #[.val (.int p0), .val (.int p1), .val (.int p2), .val (.int p3), .val (.int p4), .val (.int p5), .val (.int (Int32.ofNat k)), .val (.ref b), .val (.int (Int32.ofNat j)), .val (.ref b), .val (.int (1 : Int32))]) rfl kz_) ?_
      show OwnGoes p e below _ (T4.setTop (mkF m 256 #[.val (.int p0), .val (.int p1), .val (.int p2), .val (.int p3), .val (.int p4), .val (.int p5), .val (.int (Int32.ofNat k)), .val (.ref b), .val (.int (Int32.ofNat j)), .val (.ref b), .val (.int (1 : Int32))] []))
      refine own_pre (fun _ kz_ => XS.iload X4.here hx rfl (hb hby at_256) rfl kz_) ?_
      show OwnGoes p e below _ (T4.setTop (mkF m 258 #[.val (.int p0), .val (.int p1), .val (.int p2), .val (.int p3), .val (.int p4), .val (.int p5), .val (.int (Int32.ofNat k)), .val (.ref b), .val (.int (Int32.ofNat j)), .val (.ref b), .val (.int (1 : Int32))] [(.int (1 : Int32))]))
      refine own_pre (fun _ kz_ => XS.aload X4.here hx rfl (hb hby at_258) rfl rfl kz_) ?_
      show OwnGoes p e below _ (T4.setTop (mkF m 260 #[.val (.int p0), .val (.int p1), .val (.int p2), .val (.int p3), .val (.int p4), .val (.int p5), .val (.int (Int32.ofNat k)), .val (.ref b), .val (.int (Int32.ofNat j)), .val (.ref b), .val (.int (1 : Int32))] [(.ref b), (.int (1 : Int32))]))
      refine own_pre (fun _ kz_ => XS.iconst X4.here hx rfl (hb hby at_260) kz_) ?_
      show OwnGoes p e below _ (T4.setTop (mkF m 261 #[.val (.int p0), .val (.int p1), .val (.int p2), .val (.int p3), .val (.int p4), .val (.int p5), .val (.int (Int32.ofNat k)), .val (.ref b), .val (.int (Int32.ofNat j)), .val (.ref b), .val (.int (1 : Int32))] [(.int (2 : Int32)), (.ref b), (.int (1 : Int32))]))
      refine own_pre (fun _ kz_ => XS.iload X4.here hx rfl (hb hby at_261) rfl kz_) ?_
      show OwnGoes p e below _ (T4.setTop (mkF m 263 #[.val (.int p0), .val (.int p1), .val (.int p2), .val (.int p3), .val (.int p4), .val (.int p5), .val (.int (Int32.ofNat k)), .val (.ref b), .val (.int (Int32.ofNat j)), .val (.ref b), .val (.int (1 : Int32))] [(.int (Int32.ofNat k)), (.int (2 : Int32)), (.ref b), (.int (1 : Int32))]))
      obtain ⟨_, _, ⟨T5, L5, k5, n5⟩, -, X5, ⟨Lc5, hQ5, l5, y5, z5⟩, st5⟩ := Jvm.LawKit.callS X4 hx (y := (⟨"com/example/embosser/embosser/domain/PositionsRoomPinLaw", "zeroAfter", "([III)Z"⟩ : MethodName)) hown (mvT hZ (hw _ (List.mem_of_getElem? (i := 25) rfl))) (mvT hZ (hw _ (List.mem_of_getElem? (i := 26) rfl))) (mvT hZ (hw _ (List.mem_of_getElem? (i := 20) rfl))) (mvT hZ (hw _ (List.mem_of_getElem? (i := 27) rfl))) (by decide) (backOf (W := 1) (rmZ l Z a0 hw [] b (2 : Int32) (Int32.ofNat k) (own_vs k p1 p2 p3 p4) T1.heap n0 Z1 f1_1 (by decide) (by rcases hk with rfl | rfl | rfl | rfl <;> (intro q1 q2; first | rfl | exact absurd (by decide) q1 | exact absurd q2 (by first | decide | (simp [own_vs]; done) | (simp [own_vs]; decide))))) hZ (hw _ (List.mem_of_getElem? (i := 27) rfl)) (hw _ (List.mem_of_getElem? (i := 20) rfl)) (by decide) (by decide)) (g := (mkF m 263 #[.val (.int p0), .val (.int p1), .val (.int p2), .val (.int p3), .val (.int p4), .val (.int p5), .val (.int (Int32.ofNat k)), .val (.ref b), .val (.int (Int32.ofNat j)), .val (.ref b), .val (.int (1 : Int32))] [(.int (Int32.ofNat k)), (.int (2 : Int32)), (.ref b), (.int (1 : Int32))])) rfl (by rw [hml]; rfl) (argsL := [(.ref b), (.int (2 : Int32)), (.int (Int32.ofNat k))]) (rest := [(.int (1 : Int32))]) (lenOf (d := "([III)Z") (ps := [(.array .int), .int, .int]) (r := some .boolean) (by decide +kernel) rfl) rfl (by show 2 * 0 + _ ≤ _; exact Nat.le_of_eq rfl) (hb hby at_263) (fun _ _ => ⟨rfl, e4, (by decide : 2 + 0 ≤ _), (by decide : 12 + 0 ≤ _)⟩)
      dsimp only [Pt.U, Pt.locs, Pt.cells, Pt.slots] at X5 l5 y5 z5 st5 hQ5
      subst l5 y5 z5
      obtain ⟨rfl, N5q, e5⟩ := hQ5
      have N5 := Fr.app N4 N5q
      refine own_pre st5 ?_
      show OwnGoes p e below _ (T5.setTop (mkF m 266 #[.val (.int p0), .val (.int p1), .val (.int p2), .val (.int p3), .val (.int p4), .val (.int p5), .val (.int (Int32.ofNat k)), .val (.ref b), .val (.int (Int32.ofNat j)), .val (.ref b), .val (.int (1 : Int32))] [(.int (1 : Int32)), (.int (1 : Int32))]))
      refine own_pre (fun _ kz_ => XS.iand X5.here hx rfl (hb hby at_266) rfl kz_) ?_
      show OwnGoes p e below _ (T5.setTop (mkF m 267 #[.val (.int p0), .val (.int p1), .val (.int p2), .val (.int p3), .val (.int p4), .val (.int p5), .val (.int (Int32.ofNat k)), .val (.ref b), .val (.int (Int32.ofNat j)), .val (.ref b), .val (.int (1 : Int32))] [(.int ((1 : Int32) &&& (1 : Int32)))]))
      rw [show ((1 : Int32) &&& (1 : Int32)) = (1 : Int32) from by decide]
      show OwnGoes p e below _ (T5.setTop (mkF m 267 #[.val (.int p0), .val (.int p1), .val (.int p2), .val (.int p3), .val (.int p4), .val (.int p5), .val (.int (Int32.ofNat k)), .val (.ref b), .val (.int (Int32.ofNat j)), .val (.ref b), .val (.int (1 : Int32))] [(.int (1 : Int32))]))
      refine own_pre (fun _ kz_ => XS.istore X5.here hx rfl (hb hby at_267) rfl (l' := #[.val (.int p0), .val (.int p1), .val (.int p2), .val (.int p3), .val (.int p4), .val (.int p5), .val (.int (Int32.ofNat k)), .val (.ref b), .val (.int (Int32.ofNat j)), .val (.ref b), .val (.int (1 : Int32))]) rfl kz_) ?_
      show OwnGoes p e below _ (T5.setTop (mkF m 269 #[.val (.int p0), .val (.int p1), .val (.int p2), .val (.int p3), .val (.int p4), .val (.int p5), .val (.int (Int32.ofNat k)), .val (.ref b), .val (.int (Int32.ofNat j)), .val (.ref b), .val (.int (1 : Int32))] []))
      refine own_pre (fun _ kz_ => XS.iload X5.here hx rfl (hb hby at_269) rfl kz_) ?_
      show OwnGoes p e below _ (T5.setTop (mkF m 271 #[.val (.int p0), .val (.int p1), .val (.int p2), .val (.int p3), .val (.int p4), .val (.int p5), .val (.int (Int32.ofNat k)), .val (.ref b), .val (.int (Int32.ofNat j)), .val (.ref b), .val (.int (1 : Int32))] [(.int (1 : Int32))]))
      refine own_pre (fun _ kz_ => XS.aload X5.here hx rfl (hb hby at_271) rfl rfl kz_) ?_
      show OwnGoes p e below _ (T5.setTop (mkF m 273 #[.val (.int p0), .val (.int p1), .val (.int p2), .val (.int p3), .val (.int p4), .val (.int p5), .val (.int (Int32.ofNat k)), .val (.ref b), .val (.int (Int32.ofNat j)), .val (.ref b), .val (.int (1 : Int32))] [(.ref b), (.int (1 : Int32))]))
      refine own_pre (fun _ kz_ => XS.iconst X5.here hx rfl (hb hby at_273) kz_) ?_
      show OwnGoes p e below _ (T5.setTop (mkF m 274 #[.val (.int p0), .val (.int p1), .val (.int p2), .val (.int p3), .val (.int p4), .val (.int p5), .val (.int (Int32.ofNat k)), .val (.ref b), .val (.int (Int32.ofNat j)), .val (.ref b), .val (.int (1 : Int32))] [(.int (3 : Int32)), (.ref b), (.int (1 : Int32))]))
      refine own_pre (fun _ kz_ => XS.iload X5.here hx rfl (hb hby at_274) rfl kz_) ?_
      show OwnGoes p e below _ (T5.setTop (mkF m 276 #[.val (.int p0), .val (.int p1), .val (.int p2), .val (.int p3), .val (.int p4), .val (.int p5), .val (.int (Int32.ofNat k)), .val (.ref b), .val (.int (Int32.ofNat j)), .val (.ref b), .val (.int (1 : Int32))] [(.int (Int32.ofNat k)), (.int (3 : Int32)), (.ref b), (.int (1 : Int32))]))
      obtain ⟨_, _, ⟨T6, L6, k6, n6⟩, -, X6, ⟨Lc6, hQ6, l6, y6, z6⟩, st6⟩ := Jvm.LawKit.callS X5 hx (y := (⟨"com/example/embosser/embosser/domain/PositionsRoomPinLaw", "zeroAfter", "([III)Z"⟩ : MethodName)) hown (mvT hZ (hw _ (List.mem_of_getElem? (i := 25) rfl))) (mvT hZ (hw _ (List.mem_of_getElem? (i := 26) rfl))) (mvT hZ (hw _ (List.mem_of_getElem? (i := 20) rfl))) (mvT hZ (hw _ (List.mem_of_getElem? (i := 27) rfl))) (by decide) (backOf (W := 1) (rmZ l Z a0 hw [] b (3 : Int32) (Int32.ofNat k) (own_vs k p1 p2 p3 p4) T1.heap n0 Z1 f1_1 (by decide) (by rcases hk with rfl | rfl | rfl | rfl <;> (intro q1 q2; first | rfl | exact absurd (by decide) q1 | exact absurd q2 (by first | decide | (simp [own_vs]; done) | (simp [own_vs]; decide))))) hZ (hw _ (List.mem_of_getElem? (i := 27) rfl)) (hw _ (List.mem_of_getElem? (i := 20) rfl)) (by decide) (by decide)) (g := (mkF m 276 #[.val (.int p0), .val (.int p1), .val (.int p2), .val (.int p3), .val (.int p4), .val (.int p5), .val (.int (Int32.ofNat k)), .val (.ref b), .val (.int (Int32.ofNat j)), .val (.ref b), .val (.int (1 : Int32))] [(.int (Int32.ofNat k)), (.int (3 : Int32)), (.ref b), (.int (1 : Int32))])) rfl (by rw [hml]; rfl) (argsL := [(.ref b), (.int (3 : Int32)), (.int (Int32.ofNat k))]) (rest := [(.int (1 : Int32))]) (lenOf (d := "([III)Z") (ps := [(.array .int), .int, .int]) (r := some .boolean) (by decide +kernel) rfl) rfl (by show 2 * 0 + _ ≤ _; exact Nat.le_of_eq rfl) (hb hby at_276) (fun _ _ => ⟨rfl, e5, (by decide : 2 + 0 ≤ _), (by decide : 12 + 0 ≤ _)⟩)
      dsimp only [Pt.U, Pt.locs, Pt.cells, Pt.slots] at X6 l6 y6 z6 st6 hQ6
      subst l6 y6 z6
      obtain ⟨rfl, N6q, e6⟩ := hQ6
      have N6 := Fr.app N5 N6q
      refine own_pre st6 ?_
      show OwnGoes p e below _ (T6.setTop (mkF m 279 #[.val (.int p0), .val (.int p1), .val (.int p2), .val (.int p3), .val (.int p4), .val (.int p5), .val (.int (Int32.ofNat k)), .val (.ref b), .val (.int (Int32.ofNat j)), .val (.ref b), .val (.int (1 : Int32))] [(.int (1 : Int32)), (.int (1 : Int32))]))
      refine own_pre (fun _ kz_ => XS.iand X6.here hx rfl (hb hby at_279) rfl kz_) ?_
      show OwnGoes p e below _ (T6.setTop (mkF m 280 #[.val (.int p0), .val (.int p1), .val (.int p2), .val (.int p3), .val (.int p4), .val (.int p5), .val (.int (Int32.ofNat k)), .val (.ref b), .val (.int (Int32.ofNat j)), .val (.ref b), .val (.int (1 : Int32))] [(.int ((1 : Int32) &&& (1 : Int32)))]))
      rw [show ((1 : Int32) &&& (1 : Int32)) = (1 : Int32) from by decide]
      show OwnGoes p e below _ (T6.setTop (mkF m 280 #[.val (.int p0), .val (.int p1), .val (.int p2), .val (.int p3), .val (.int p4), .val (.int p5), .val (.int (Int32.ofNat k)), .val (.ref b), .val (.int (Int32.ofNat j)), .val (.ref b), .val (.int (1 : Int32))] [(.int (1 : Int32))]))
      refine own_pre (fun _ kz_ => XS.istore X6.here hx rfl (hb hby at_280) rfl (l' := #[.val (.int p0), .val (.int p1), .val (.int p2), .val (.int p3), .val (.int p4), .val (.int p5), .val (.int (Int32.ofNat k)), .val (.ref b), .val (.int (Int32.ofNat j)), .val (.ref b), .val (.int (1 : Int32))]) rfl kz_) ?_
      show OwnGoes p e below _ (T6.setTop (mkF m 282 #[.val (.int p0), .val (.int p1), .val (.int p2), .val (.int p3), .val (.int p4), .val (.int p5), .val (.int (Int32.ofNat k)), .val (.ref b), .val (.int (Int32.ofNat j)), .val (.ref b), .val (.int (1 : Int32))] []))
      refine own_pre (fun _ kz_ => XS.iload X6.here hx rfl (hb hby at_282) rfl kz_) ?_
      show OwnGoes p e below _ (T6.setTop (mkF m 284 #[.val (.int p0), .val (.int p1), .val (.int p2), .val (.int p3), .val (.int p4), .val (.int p5), .val (.int (Int32.ofNat k)), .val (.ref b), .val (.int (Int32.ofNat j)), .val (.ref b), .val (.int (1 : Int32))] [(.int (1 : Int32))]))
      refine own_pre (fun _ kz_ => XS.aload X6.here hx rfl (hb hby at_284) rfl rfl kz_) ?_
      show OwnGoes p e below _ (T6.setTop (mkF m 286 #[.val (.int p0), .val (.int p1), .val (.int p2), .val (.int p3), .val (.int p4), .val (.int p5), .val (.int (Int32.ofNat k)), .val (.ref b), .val (.int (Int32.ofNat j)), .val (.ref b), .val (.int (1 : Int32))] [(.ref b), (.int (1 : Int32))]))
      refine own_pre (fun _ kz_ => XS.iconst X6.here hx rfl (hb hby at_286) kz_) ?_
      show OwnGoes p e below _ (T6.setTop (mkF m 287 #[.val (.int p0), .val (.int p1), .val (.int p2), .val (.int p3), .val (.int p4), .val (.int p5), .val (.int (Int32.ofNat k)), .val (.ref b), .val (.int (Int32.ofNat j)), .val (.ref b), .val (.int (1 : Int32))] [(.int (4 : Int32)), (.ref b), (.int (1 : Int32))]))
      refine own_pre (fun _ kz_ => XS.iload X6.here hx rfl (hb hby at_287) rfl kz_) ?_
      show OwnGoes p e below _ (T6.setTop (mkF m 289 #[.val (.int p0), .val (.int p1), .val (.int p2), .val (.int p3), .val (.int p4), .val (.int p5), .val (.int (Int32.ofNat k)), .val (.ref b), .val (.int (Int32.ofNat j)), .val (.ref b), .val (.int (1 : Int32))] [(.int (Int32.ofNat k)), (.int (4 : Int32)), (.ref b), (.int (1 : Int32))]))
      obtain ⟨_, _, ⟨T7, L7, k7, n7⟩, -, X7, ⟨Lc7, hQ7, l7, y7, z7⟩, st7⟩ := Jvm.LawKit.callS X6 hx (y := (⟨"com/example/embosser/embosser/domain/PositionsRoomPinLaw", "zeroAfter", "([III)Z"⟩ : MethodName)) hown (mvT hZ (hw _ (List.mem_of_getElem? (i := 25) rfl))) (mvT hZ (hw _ (List.mem_of_getElem? (i := 26) rfl))) (mvT hZ (hw _ (List.mem_of_getElem? (i := 20) rfl))) (mvT hZ (hw _ (List.mem_of_getElem? (i := 27) rfl))) (by decide) (backOf (W := 1) (rmZ l Z a0 hw [] b (4 : Int32) (Int32.ofNat k) (own_vs k p1 p2 p3 p4) T1.heap n0 Z1 f1_1 (by decide) (by rcases hk with rfl | rfl | rfl | rfl <;> (intro q1 q2; first | rfl | exact absurd (by decide) q1 | exact absurd q2 (by first | decide | (simp [own_vs]; done) | (simp [own_vs]; decide))))) hZ (hw _ (List.mem_of_getElem? (i := 27) rfl)) (hw _ (List.mem_of_getElem? (i := 20) rfl)) (by decide) (by decide)) (g := (mkF m 289 #[.val (.int p0), .val (.int p1), .val (.int p2), .val (.int p3), .val (.int p4), .val (.int p5), .val (.int (Int32.ofNat k)), .val (.ref b), .val (.int (Int32.ofNat j)), .val (.ref b), .val (.int (1 : Int32))] [(.int (Int32.ofNat k)), (.int (4 : Int32)), (.ref b), (.int (1 : Int32))])) rfl (by rw [hml]; rfl) (argsL := [(.ref b), (.int (4 : Int32)), (.int (Int32.ofNat k))]) (rest := [(.int (1 : Int32))]) (lenOf (d := "([III)Z") (ps := [(.array .int), .int, .int]) (r := some .boolean) (by decide +kernel) rfl) rfl (by show 2 * 0 + _ ≤ _; exact Nat.le_of_eq rfl) (hb hby at_289) (fun _ _ => ⟨rfl, e6, (by decide : 2 + 0 ≤ _), (by decide : 12 + 0 ≤ _)⟩)
      dsimp only [Pt.U, Pt.locs, Pt.cells, Pt.slots] at X7 l7 y7 z7 st7 hQ7
      subst l7 y7 z7
      obtain ⟨rfl, N7q, e7⟩ := hQ7
      have N7 := Fr.app N6 N7q
      refine own_pre st7 ?_
      show OwnGoes p e below _ (T7.setTop (mkF m 292 #[.val (.int p0), .val (.int p1), .val (.int p2), .val (.int p3), .val (.int p4), .val (.int p5), .val (.int (Int32.ofNat k)), .val (.ref b), .val (.int (Int32.ofNat j)), .val (.ref b), .val (.int (1 : Int32))] [(.int (1 : Int32)), (.int (1 : Int32))]))
      refine own_pre (fun _ kz_ => XS.iand X7.here hx rfl (hb hby at_292) rfl kz_) ?_
      show OwnGoes p e below _ (T7.setTop (mkF m 293 #[.val (.int p0), .val (.int p1), .val (.int p2), .val (.int p3), .val (.int p4), .val (.int p5), .val (.int (Int32.ofNat k)), .val (.ref b), .val (.int (Int32.ofNat j)), .val (.ref b), .val (.int (1 : Int32))] [(.int ((1 : Int32) &&& (1 : Int32)))]))
      rw [show ((1 : Int32) &&& (1 : Int32)) = (1 : Int32) from by decide]
      show OwnGoes p e below _ (T7.setTop (mkF m 293 #[.val (.int p0), .val (.int p1), .val (.int p2), .val (.int p3), .val (.int p4), .val (.int p5), .val (.int (Int32.ofNat k)), .val (.ref b), .val (.int (Int32.ofNat j)), .val (.ref b), .val (.int (1 : Int32))] [(.int (1 : Int32))]))
      refine own_pre (fun _ kz_ => XS.istore X7.here hx rfl (hb hby at_293) rfl (l' := #[.val (.int p0), .val (.int p1), .val (.int p2), .val (.int p3), .val (.int p4), .val (.int p5), .val (.int (Int32.ofNat k)), .val (.ref b), .val (.int (Int32.ofNat j)), .val (.ref b), .val (.int (1 : Int32))]) rfl kz_) ?_
      show OwnGoes p e below _ (T7.setTop (mkF m 295 #[.val (.int p0), .val (.int p1), .val (.int p2), .val (.int p3), .val (.int p4), .val (.int p5), .val (.int (Int32.ofNat k)), .val (.ref b), .val (.int (Int32.ofNat j)), .val (.ref b), .val (.int (1 : Int32))] []))
      refine own_pre (fun _ kz_ => XS.iload X7.here hx rfl (hb hby at_295) rfl kz_) ?_
      show OwnGoes p e below _ (T7.setTop (mkF m 297 #[.val (.int p0), .val (.int p1), .val (.int p2), .val (.int p3), .val (.int p4), .val (.int p5), .val (.int (Int32.ofNat k)), .val (.ref b), .val (.int (Int32.ofNat j)), .val (.ref b), .val (.int (1 : Int32))] [(.int (1 : Int32))]))
      refine own_pre (fun _ kz_ => XS.aload X7.here hx rfl (hb hby at_297) rfl rfl kz_) ?_
      show OwnGoes p e below _ (T7.setTop (mkF m 299 #[.val (.int p0), .val (.int p1), .val (.int p2), .val (.int p3), .val (.int p4), .val (.int p5), .val (.int (Int32.ofNat k)), .val (.ref b), .val (.int (Int32.ofNat j)), .val (.ref b), .val (.int (1 : Int32))] [(.ref b), (.int (1 : Int32))]))
      refine own_pre (fun _ kz_ => XS.iconst X7.here hx rfl (hb hby at_299) kz_) ?_
      show OwnGoes p e below _ (T7.setTop (mkF m 300 #[.val (.int p0), .val (.int p1), .val (.int p2), .val (.int p3), .val (.int p4), .val (.int p5), .val (.int (Int32.ofNat k)), .val (.ref b), .val (.int (Int32.ofNat j)), .val (.ref b), .val (.int (1 : Int32))] [(.int (5 : Int32)), (.ref b), (.int (1 : Int32))]))
      refine own_pre (fun _ kz_ => XS.iload X7.here hx rfl (hb hby at_300) rfl kz_) ?_
      show OwnGoes p e below _ (T7.setTop (mkF m 302 #[.val (.int p0), .val (.int p1), .val (.int p2), .val (.int p3), .val (.int p4), .val (.int p5), .val (.int (Int32.ofNat k)), .val (.ref b), .val (.int (Int32.ofNat j)), .val (.ref b), .val (.int (1 : Int32))] [(.int (Int32.ofNat k)), (.int (5 : Int32)), (.ref b), (.int (1 : Int32))]))
      obtain ⟨_, _, ⟨T8, L8, k8, n8⟩, -, X8, ⟨Lc8, hQ8, l8, y8, z8⟩, st8⟩ := Jvm.LawKit.callS X7 hx (y := (⟨"com/example/embosser/embosser/domain/PositionsRoomPinLaw", "zeroAfter", "([III)Z"⟩ : MethodName)) hown (mvT hZ (hw _ (List.mem_of_getElem? (i := 25) rfl))) (mvT hZ (hw _ (List.mem_of_getElem? (i := 26) rfl))) (mvT hZ (hw _ (List.mem_of_getElem? (i := 20) rfl))) (mvT hZ (hw _ (List.mem_of_getElem? (i := 27) rfl))) (by decide) (backOf (W := 1) (rmZ l Z a0 hw [] b (5 : Int32) (Int32.ofNat k) (own_vs k p1 p2 p3 p4) T1.heap n0 Z1 f1_1 (by decide) (by rcases hk with rfl | rfl | rfl | rfl <;> (intro q1 q2; first | rfl | exact absurd (by decide) q1 | exact absurd q2 (by first | decide | (simp [own_vs]; done) | (simp [own_vs]; decide))))) hZ (hw _ (List.mem_of_getElem? (i := 27) rfl)) (hw _ (List.mem_of_getElem? (i := 20) rfl)) (by decide) (by decide)) (g := (mkF m 302 #[.val (.int p0), .val (.int p1), .val (.int p2), .val (.int p3), .val (.int p4), .val (.int p5), .val (.int (Int32.ofNat k)), .val (.ref b), .val (.int (Int32.ofNat j)), .val (.ref b), .val (.int (1 : Int32))] [(.int (Int32.ofNat k)), (.int (5 : Int32)), (.ref b), (.int (1 : Int32))])) rfl (by rw [hml]; rfl) (argsL := [(.ref b), (.int (5 : Int32)), (.int (Int32.ofNat k))]) (rest := [(.int (1 : Int32))]) (lenOf (d := "([III)Z") (ps := [(.array .int), .int, .int]) (r := some .boolean) (by decide +kernel) rfl) rfl (by show 2 * 0 + _ ≤ _; exact Nat.le_of_eq rfl) (hb hby at_302) (fun _ _ => ⟨rfl, e7, (by decide : 2 + 0 ≤ _), (by decide : 12 + 0 ≤ _)⟩)
      dsimp only [Pt.U, Pt.locs, Pt.cells, Pt.slots] at X8 l8 y8 z8 st8 hQ8
      subst l8 y8 z8
      obtain ⟨rfl, N8q, e8⟩ := hQ8
      have N8 := Fr.app N7 N8q
      refine own_pre st8 ?_
      show OwnGoes p e below _ (T8.setTop (mkF m 305 #[.val (.int p0), .val (.int p1), .val (.int p2), .val (.int p3), .val (.int p4), .val (.int p5), .val (.int (Int32.ofNat k)), .val (.ref b), .val (.int (Int32.ofNat j)), .val (.ref b), .val (.int (1 : Int32))] [(.int (1 : Int32)), (.int (1 : Int32))]))
      refine own_pre (fun _ kz_ => XS.iand X8.here hx rfl (hb hby at_305) rfl kz_) ?_
      show OwnGoes p e below _ (T8.setTop (mkF m 306 #[.val (.int p0), .val (.int p1), .val (.int p2), .val (.int p3), .val (.int p4), .val (.int p5), .val (.int (Int32.ofNat k)), .val (.ref b), .val (.int (Int32.ofNat j)), .val (.ref b), .val (.int (1 : Int32))] [(.int ((1 : Int32) &&& (1 : Int32)))]))
      rw [show ((1 : Int32) &&& (1 : Int32)) = (1 : Int32) from by decide]
      show OwnGoes p e below _ (T8.setTop (mkF m 306 #[.val (.int p0), .val (.int p1), .val (.int p2), .val (.int p3), .val (.int p4), .val (.int p5), .val (.int (Int32.ofNat k)), .val (.ref b), .val (.int (Int32.ofNat j)), .val (.ref b), .val (.int (1 : Int32))] [(.int (1 : Int32))]))
      refine own_pre (fun _ kz_ => XS.istore X8.here hx rfl (hb hby at_306) rfl (l' := #[.val (.int p0), .val (.int p1), .val (.int p2), .val (.int p3), .val (.int p4), .val (.int p5), .val (.int (Int32.ofNat k)), .val (.ref b), .val (.int (Int32.ofNat j)), .val (.ref b), .val (.int (1 : Int32))]) rfl kz_) ?_
      show OwnGoes p e below _ (T8.setTop (mkF m 308 #[.val (.int p0), .val (.int p1), .val (.int p2), .val (.int p3), .val (.int p4), .val (.int p5), .val (.int (Int32.ofNat k)), .val (.ref b), .val (.int (Int32.ofNat j)), .val (.ref b), .val (.int (1 : Int32))] []))
      refine own_pre (fun _ kz_ => XS.iload X8.here hx rfl (hb hby at_308) rfl kz_) ?_
      show OwnGoes p e below _ (T8.setTop (mkF m 310 #[.val (.int p0), .val (.int p1), .val (.int p2), .val (.int p3), .val (.int p4), .val (.int p5), .val (.int (Int32.ofNat k)), .val (.ref b), .val (.int (Int32.ofNat j)), .val (.ref b), .val (.int (1 : Int32))] [(.int (1 : Int32))]))
      refine own_pre (fun _ kz_ => XS.aload X8.here hx rfl (hb hby at_310) rfl rfl kz_) ?_
      show OwnGoes p e below _ (T8.setTop (mkF m 312 #[.val (.int p0), .val (.int p1), .val (.int p2), .val (.int p3), .val (.int p4), .val (.int p5), .val (.int (Int32.ofNat k)), .val (.ref b), .val (.int (Int32.ofNat j)), .val (.ref b), .val (.int (1 : Int32))] [(.ref b), (.int (1 : Int32))]))
      refine own_pre (fun _ kz_ => XS.bipush X8.here hx rfl (hb hby at_312) kz_) ?_
      show OwnGoes p e below _ (T8.setTop (mkF m 314 #[.val (.int p0), .val (.int p1), .val (.int p2), .val (.int p3), .val (.int p4), .val (.int p5), .val (.int (Int32.ofNat k)), .val (.ref b), .val (.int (Int32.ofNat j)), .val (.ref b), .val (.int (1 : Int32))] [(.int (6 : Int32)), (.ref b), (.int (1 : Int32))]))
      refine own_pre (fun _ kz_ => XS.iload X8.here hx rfl (hb hby at_314) rfl kz_) ?_
      show OwnGoes p e below _ (T8.setTop (mkF m 316 #[.val (.int p0), .val (.int p1), .val (.int p2), .val (.int p3), .val (.int p4), .val (.int p5), .val (.int (Int32.ofNat k)), .val (.ref b), .val (.int (Int32.ofNat j)), .val (.ref b), .val (.int (1 : Int32))] [(.int (Int32.ofNat k)), (.int (6 : Int32)), (.ref b), (.int (1 : Int32))]))
      obtain ⟨_, _, ⟨T9, L9, k9, n9⟩, -, X9, ⟨Lc9, hQ9, l9, y9, z9⟩, st9⟩ := Jvm.LawKit.callS X8 hx (y := (⟨"com/example/embosser/embosser/domain/PositionsRoomPinLaw", "zeroAfter", "([III)Z"⟩ : MethodName)) hown (mvT hZ (hw _ (List.mem_of_getElem? (i := 25) rfl))) (mvT hZ (hw _ (List.mem_of_getElem? (i := 26) rfl))) (mvT hZ (hw _ (List.mem_of_getElem? (i := 20) rfl))) (mvT hZ (hw _ (List.mem_of_getElem? (i := 27) rfl))) (by decide) (backOf (W := 1) (rmZ l Z a0 hw [] b (6 : Int32) (Int32.ofNat k) (own_vs k p1 p2 p3 p4) T1.heap n0 Z1 f1_1 (by decide) (by rcases hk with rfl | rfl | rfl | rfl <;> (intro q1 q2; first | rfl | exact absurd (by decide) q1 | exact absurd q2 (by first | decide | (simp [own_vs]; done) | (simp [own_vs]; decide))))) hZ (hw _ (List.mem_of_getElem? (i := 27) rfl)) (hw _ (List.mem_of_getElem? (i := 20) rfl)) (by decide) (by decide)) (g := (mkF m 316 #[.val (.int p0), .val (.int p1), .val (.int p2), .val (.int p3), .val (.int p4), .val (.int p5), .val (.int (Int32.ofNat k)), .val (.ref b), .val (.int (Int32.ofNat j)), .val (.ref b), .val (.int (1 : Int32))] [(.int (Int32.ofNat k)), (.int (6 : Int32)), (.ref b), (.int (1 : Int32))])) rfl (by rw [hml]; rfl) (argsL := [(.ref b), (.int (6 : Int32)), (.int (Int32.ofNat k))]) (rest := [(.int (1 : Int32))]) (lenOf (d := "([III)Z") (ps := [(.array .int), .int, .int]) (r := some .boolean) (by decide +kernel) rfl) rfl (by show 2 * 0 + _ ≤ _; exact Nat.le_of_eq rfl) (hb hby at_316) (fun _ _ => ⟨rfl, e8, (by decide : 2 + 0 ≤ _), (by decide : 12 + 0 ≤ _)⟩)
      dsimp only [Pt.U, Pt.locs, Pt.cells, Pt.slots] at X9 l9 y9 z9 st9 hQ9
      subst l9 y9 z9
      obtain ⟨rfl, N9q, e9⟩ := hQ9
      have N9 := Fr.app N8 N9q
      refine own_pre st9 ?_
      show OwnGoes p e below _ (T9.setTop (mkF m 319 #[.val (.int p0), .val (.int p1), .val (.int p2), .val (.int p3), .val (.int p4), .val (.int p5), .val (.int (Int32.ofNat k)), .val (.ref b), .val (.int (Int32.ofNat j)), .val (.ref b), .val (.int (1 : Int32))] [(.int (1 : Int32)), (.int (1 : Int32))]))
      refine own_pre (fun _ kz_ => XS.iand X9.here hx rfl (hb hby at_319) rfl kz_) ?_
      show OwnGoes p e below _ (T9.setTop (mkF m 320 #[.val (.int p0), .val (.int p1), .val (.int p2), .val (.int p3), .val (.int p4), .val (.int p5), .val (.int (Int32.ofNat k)), .val (.ref b), .val (.int (Int32.ofNat j)), .val (.ref b), .val (.int (1 : Int32))] [(.int ((1 : Int32) &&& (1 : Int32)))]))
      rw [show ((1 : Int32) &&& (1 : Int32)) = (1 : Int32) from by decide]
      show OwnGoes p e below _ (T9.setTop (mkF m 320 #[.val (.int p0), .val (.int p1), .val (.int p2), .val (.int p3), .val (.int p4), .val (.int p5), .val (.int (Int32.ofNat k)), .val (.ref b), .val (.int (Int32.ofNat j)), .val (.ref b), .val (.int (1 : Int32))] [(.int (1 : Int32))]))
      refine own_pre (fun _ kz_ => XS.istore X9.here hx rfl (hb hby at_320) rfl (l' := #[.val (.int p0), .val (.int p1), .val (.int p2), .val (.int p3), .val (.int p4), .val (.int p5), .val (.int (Int32.ofNat k)), .val (.ref b), .val (.int (Int32.ofNat j)), .val (.ref b), .val (.int (1 : Int32))]) rfl kz_) ?_
      show OwnGoes p e below _ (T9.setTop (mkF m 322 #[.val (.int p0), .val (.int p1), .val (.int p2), .val (.int p3), .val (.int p4), .val (.int p5), .val (.int (Int32.ofNat k)), .val (.ref b), .val (.int (Int32.ofNat j)), .val (.ref b), .val (.int (1 : Int32))] []))
      refine own_pre (fun _ kz_ => XS.iload X9.here hx rfl (hb hby at_322) rfl kz_) ?_
      show OwnGoes p e below _ (T9.setTop (mkF m 324 #[.val (.int p0), .val (.int p1), .val (.int p2), .val (.int p3), .val (.int p4), .val (.int p5), .val (.int (Int32.ofNat k)), .val (.ref b), .val (.int (Int32.ofNat j)), .val (.ref b), .val (.int (1 : Int32))] [(.int (1 : Int32))]))
      refine own_pre (fun _ kz_ => XS.aload X9.here hx rfl (hb hby at_324) rfl rfl kz_) ?_
      show OwnGoes p e below _ (T9.setTop (mkF m 326 #[.val (.int p0), .val (.int p1), .val (.int p2), .val (.int p3), .val (.int p4), .val (.int p5), .val (.int (Int32.ofNat k)), .val (.ref b), .val (.int (Int32.ofNat j)), .val (.ref b), .val (.int (1 : Int32))] [(.ref b), (.int (1 : Int32))]))
      refine own_pre (fun _ kz_ => XS.bipush X9.here hx rfl (hb hby at_326) kz_) ?_
      show OwnGoes p e below _ (T9.setTop (mkF m 328 #[.val (.int p0), .val (.int p1), .val (.int p2), .val (.int p3), .val (.int p4), .val (.int p5), .val (.int (Int32.ofNat k)), .val (.ref b), .val (.int (Int32.ofNat j)), .val (.ref b), .val (.int (1 : Int32))] [(.int (7 : Int32)), (.ref b), (.int (1 : Int32))]))
      refine own_pre (fun _ kz_ => XS.iload X9.here hx rfl (hb hby at_328) rfl kz_) ?_
      show OwnGoes p e below _ (T9.setTop (mkF m 330 #[.val (.int p0), .val (.int p1), .val (.int p2), .val (.int p3), .val (.int p4), .val (.int p5), .val (.int (Int32.ofNat k)), .val (.ref b), .val (.int (Int32.ofNat j)), .val (.ref b), .val (.int (1 : Int32))] [(.int (Int32.ofNat k)), (.int (7 : Int32)), (.ref b), (.int (1 : Int32))]))
      obtain ⟨_, _, ⟨T10, L10, k10, n10⟩, -, X10, ⟨Lc10, hQ10, l10, y10, z10⟩, st10⟩ := Jvm.LawKit.callS X9 hx (y := (⟨"com/example/embosser/embosser/domain/PositionsRoomPinLaw", "zeroAfter", "([III)Z"⟩ : MethodName)) hown (mvT hZ (hw _ (List.mem_of_getElem? (i := 25) rfl))) (mvT hZ (hw _ (List.mem_of_getElem? (i := 26) rfl))) (mvT hZ (hw _ (List.mem_of_getElem? (i := 20) rfl))) (mvT hZ (hw _ (List.mem_of_getElem? (i := 27) rfl))) (by decide) (backOf (W := 1) (rmZ l Z a0 hw [] b (7 : Int32) (Int32.ofNat k) (own_vs k p1 p2 p3 p4) T1.heap n0 Z1 f1_1 (by decide) (by rcases hk with rfl | rfl | rfl | rfl <;> (intro q1 q2; first | rfl | exact absurd (by decide) q1 | exact absurd q2 (by first | decide | (simp [own_vs]; done) | (simp [own_vs]; decide))))) hZ (hw _ (List.mem_of_getElem? (i := 27) rfl)) (hw _ (List.mem_of_getElem? (i := 20) rfl)) (by decide) (by decide)) (g := (mkF m 330 #[.val (.int p0), .val (.int p1), .val (.int p2), .val (.int p3), .val (.int p4), .val (.int p5), .val (.int (Int32.ofNat k)), .val (.ref b), .val (.int (Int32.ofNat j)), .val (.ref b), .val (.int (1 : Int32))] [(.int (Int32.ofNat k)), (.int (7 : Int32)), (.ref b), (.int (1 : Int32))])) rfl (by rw [hml]; rfl) (argsL := [(.ref b), (.int (7 : Int32)), (.int (Int32.ofNat k))]) (rest := [(.int (1 : Int32))]) (lenOf (d := "([III)Z") (ps := [(.array .int), .int, .int]) (r := some .boolean) (by decide +kernel) rfl) rfl (by show 2 * 0 + _ ≤ _; exact Nat.le_of_eq rfl) (hb hby at_330) (fun _ _ => ⟨rfl, e9, (by decide : 2 + 0 ≤ _), (by decide : 12 + 0 ≤ _)⟩)
      dsimp only [Pt.U, Pt.locs, Pt.cells, Pt.slots] at X10 l10 y10 z10 st10 hQ10
      subst l10 y10 z10
      obtain ⟨rfl, N10q, e10⟩ := hQ10
      have N10 := Fr.app N9 N10q
      refine own_pre st10 ?_
      show OwnGoes p e below _ (T10.setTop (mkF m 333 #[.val (.int p0), .val (.int p1), .val (.int p2), .val (.int p3), .val (.int p4), .val (.int p5), .val (.int (Int32.ofNat k)), .val (.ref b), .val (.int (Int32.ofNat j)), .val (.ref b), .val (.int (1 : Int32))] [(.int (1 : Int32)), (.int (1 : Int32))]))
      refine own_pre (fun _ kz_ => XS.iand X10.here hx rfl (hb hby at_333) rfl kz_) ?_
      show OwnGoes p e below _ (T10.setTop (mkF m 334 #[.val (.int p0), .val (.int p1), .val (.int p2), .val (.int p3), .val (.int p4), .val (.int p5), .val (.int (Int32.ofNat k)), .val (.ref b), .val (.int (Int32.ofNat j)), .val (.ref b), .val (.int (1 : Int32))] [(.int ((1 : Int32) &&& (1 : Int32)))]))
      rw [show ((1 : Int32) &&& (1 : Int32)) = (1 : Int32) from by decide]
      show OwnGoes p e below _ (T10.setTop (mkF m 334 #[.val (.int p0), .val (.int p1), .val (.int p2), .val (.int p3), .val (.int p4), .val (.int p5), .val (.int (Int32.ofNat k)), .val (.ref b), .val (.int (Int32.ofNat j)), .val (.ref b), .val (.int (1 : Int32))] [(.int (1 : Int32))]))
      refine own_pre (fun _ kz_ => XS.istore X10.here hx rfl (hb hby at_334) rfl (l' := #[.val (.int p0), .val (.int p1), .val (.int p2), .val (.int p3), .val (.int p4), .val (.int p5), .val (.int (Int32.ofNat k)), .val (.ref b), .val (.int (Int32.ofNat j)), .val (.ref b), .val (.int (1 : Int32))]) rfl kz_) ?_
      show OwnGoes p e below _ (T10.setTop (mkF m 336 #[.val (.int p0), .val (.int p1), .val (.int p2), .val (.int p3), .val (.int p4), .val (.int p5), .val (.int (Int32.ofNat k)), .val (.ref b), .val (.int (Int32.ofNat j)), .val (.ref b), .val (.int (1 : Int32))] []))
      refine own_pre (fun _ kz_ => XS.iload X10.here hx rfl (hb hby at_336) rfl kz_) ?_
      show OwnGoes p e below _ (T10.setTop (mkF m 338 #[.val (.int p0), .val (.int p1), .val (.int p2), .val (.int p3), .val (.int p4), .val (.int p5), .val (.int (Int32.ofNat k)), .val (.ref b), .val (.int (Int32.ofNat j)), .val (.ref b), .val (.int (1 : Int32))] [(.int (1 : Int32))]))
      exact own_ret X10 hx Bd.returns (rfl) (Or.inl ⟨rfl, by simp, _, rfl⟩) Bd.notSynchronized (hb hby at_338) ⟨rfl, N10⟩ (by decide) (by decide)
    · rw [hlen] at hu
      have Vr : OwnA Z T1.heap r .int (own_vs k p1 p2 p3 p4 ++ List.replicate k (.int (0 : Int32))) := by have q := V1q; rw [hlen] at q; exact q
      show OwnGoes p e below _ (T1.setTop (mkF m 114 #[.val (.int p0), .val (.int p1), .val (.int p2), .val (.int p3), .val (.int p4), .val (.int p5), .val (.int (Int32.ofNat k)), .val (.ref b), .val (.int (Int32.ofNat j)), .unset, .unset] [(.ref r)]))
      refine own_pre (fun _ kz_ => XS.astore X1.here hx rfl (hb hby at_114) rfl rfl (l' := #[.val (.int p0), .val (.int p1), .val (.int p2), .val (.int p3), .val (.int p4), .val (.int p5), .val (.int (Int32.ofNat k)), .val (.ref b), .val (.int (Int32.ofNat j)), .val (.ref r), .unset]) rfl kz_) ?_
      show OwnGoes p e below _ (T1.setTop (mkF m 116 #[.val (.int p0), .val (.int p1), .val (.int p2), .val (.int p3), .val (.int p4), .val (.int p5), .val (.int (Int32.ofNat k)), .val (.ref b), .val (.int (Int32.ofNat j)), .val (.ref r), .unset] []))
      refine own_pre (fun _ kz_ => XS.iload X1.here hx rfl (hb hby at_116) rfl kz_) ?_
      show OwnGoes p e below _ (T1.setTop (mkF m 118 #[.val (.int p0), .val (.int p1), .val (.int p2), .val (.int p3), .val (.int p4), .val (.int p5), .val (.int (Int32.ofNat k)), .val (.ref b), .val (.int (Int32.ofNat j)), .val (.ref r), .unset] [(.int (Int32.ofNat j))]))
      refine own_pre (fun _ kz_ => XS.aload X1.here hx rfl (hb hby at_118) rfl rfl kz_) ?_
      show OwnGoes p e below _ (T1.setTop (mkF m 120 #[.val (.int p0), .val (.int p1), .val (.int p2), .val (.int p3), .val (.int p4), .val (.int p5), .val (.int (Int32.ofNat k)), .val (.ref b), .val (.int (Int32.ofNat j)), .val (.ref r), .unset] [(.ref r), (.int (Int32.ofNat j))]))
      refine own_pre (own_alen X1 hx hZ rfl Vr (n := (Int32.ofNat (2 * k))) (by rw [List.length_append, hlen, List.length_replicate]; congr 1; omega) (g := (mkF m 120 #[.val (.int p0), .val (.int p1), .val (.int p2), .val (.int p3), .val (.int p4), .val (.int p5), .val (.int (Int32.ofNat k)), .val (.ref b), .val (.int (Int32.ofNat j)), .val (.ref r), .unset] [(.ref r), (.int (Int32.ofNat j))])) rfl rfl (hb hby at_120)) ?_
      show OwnGoes p e below _ (T1.setTop (mkF m 121 #[.val (.int p0), .val (.int p1), .val (.int p2), .val (.int p3), .val (.int p4), .val (.int p5), .val (.int (Int32.ofNat k)), .val (.ref b), .val (.int (Int32.ofNat j)), .val (.ref r), .unset] [(.int (Int32.ofNat (2 * k))), (.int (Int32.ofNat j))]))
      refine own_pre (fun _ kz_ => XS.icmpNo X1.here hx rfl (hb hby at_121) rfl (tlt (XT.lt32 (by omega) (by omega) : (Int32.ofNat j) < (Int32.ofNat (2 * k)))).2.1 kz_) ?_
      show OwnGoes p e below _ (T1.setTop (mkF m 124 #[.val (.int p0), .val (.int p1), .val (.int p2), .val (.int p3), .val (.int p4), .val (.int p5), .val (.int (Int32.ofNat k)), .val (.ref b), .val (.int (Int32.ofNat j)), .val (.ref r), .unset] []))
      refine own_pre (fun _ kz_ => XS.iconst X1.here hx rfl (hb hby at_124) kz_) ?_
      show OwnGoes p e below _ (T1.setTop (mkF m 125 #[.val (.int p0), .val (.int p1), .val (.int p2), .val (.int p3), .val (.int p4), .val (.int p5), .val (.int (Int32.ofNat k)), .val (.ref b), .val (.int (Int32.ofNat j)), .val (.ref r), .unset] [(.int (1 : Int32))]))
      refine own_pre (fun _ kz_ => XS.goto X1.here hx rfl (pc0 := 125) (pc' := 129) rfl (hb hby at_125) (by decide) (by decide) kz_) ?_
      show OwnGoes p e below _ (T1.setTop (mkF m 129 #[.val (.int p0), .val (.int p1), .val (.int p2), .val (.int p3), .val (.int p4), .val (.int p5), .val (.int (Int32.ofNat k)), .val (.ref b), .val (.int (Int32.ofNat j)), .val (.ref r), .unset] [(.int (1 : Int32))]))
      refine own_pre (fun _ kz_ => XS.istore X1.here hx rfl (hb hby at_129) rfl (l' := #[.val (.int p0), .val (.int p1), .val (.int p2), .val (.int p3), .val (.int p4), .val (.int p5), .val (.int (Int32.ofNat k)), .val (.ref b), .val (.int (Int32.ofNat j)), .val (.ref r), .val (.int (1 : Int32))]) rfl kz_) ?_
      show OwnGoes p e below _ (T1.setTop (mkF m 131 #[.val (.int p0), .val (.int p1), .val (.int p2), .val (.int p3), .val (.int p4), .val (.int p5), .val (.int (Int32.ofNat k)), .val (.ref b), .val (.int (Int32.ofNat j)), .val (.ref r), .val (.int (1 : Int32))] []))
      refine own_pre (fun _ kz_ => XS.iload X1.here hx rfl (hb hby at_131) rfl kz_) ?_
      show OwnGoes p e below _ (T1.setTop (mkF m 133 #[.val (.int p0), .val (.int p1), .val (.int p2), .val (.int p3), .val (.int p4), .val (.int p5), .val (.int (Int32.ofNat k)), .val (.ref b), .val (.int (Int32.ofNat j)), .val (.ref r), .val (.int (1 : Int32))] [(.int (1 : Int32))]))
      refine own_pre (fun _ kz_ => XS.aload X1.here hx rfl (hb hby at_133) rfl rfl kz_) ?_
      show OwnGoes p e below _ (T1.setTop (mkF m 135 #[.val (.int p0), .val (.int p1), .val (.int p2), .val (.int p3), .val (.int p4), .val (.int p5), .val (.int (Int32.ofNat k)), .val (.ref b), .val (.int (Int32.ofNat j)), .val (.ref r), .val (.int (1 : Int32))] [(.ref b), (.int (1 : Int32))]))
      refine own_pre (own_alen X1 hx hZ rfl f1_1 (n := (Int32.ofNat k)) (by rw [hlen]) (g := (mkF m 135 #[.val (.int p0), .val (.int p1), .val (.int p2), .val (.int p3), .val (.int p4), .val (.int p5), .val (.int (Int32.ofNat k)), .val (.ref b), .val (.int (Int32.ofNat j)), .val (.ref r), .val (.int (1 : Int32))] [(.ref b), (.int (1 : Int32))])) rfl rfl (hb hby at_135)) ?_
      show OwnGoes p e below _ (T1.setTop (mkF m 136 #[.val (.int p0), .val (.int p1), .val (.int p2), .val (.int p3), .val (.int p4), .val (.int p5), .val (.int (Int32.ofNat k)), .val (.ref b), .val (.int (Int32.ofNat j)), .val (.ref r), .val (.int (1 : Int32))] [(.int (Int32.ofNat k)), (.int (1 : Int32))]))
      refine own_pre (fun _ kz_ => XS.iload X1.here hx rfl (hb hby at_136) rfl kz_) ?_
      show OwnGoes p e below _ (T1.setTop (mkF m 138 #[.val (.int p0), .val (.int p1), .val (.int p2), .val (.int p3), .val (.int p4), .val (.int p5), .val (.int (Int32.ofNat k)), .val (.ref b), .val (.int (Int32.ofNat j)), .val (.ref r), .val (.int (1 : Int32))] [(.int (Int32.ofNat k)), (.int (Int32.ofNat k)), (.int (1 : Int32))]))
      refine own_pre (fun _ kz_ => XS.icmpNo X1.here hx rfl (hb hby at_138) rfl (teq (rfl : (Int32.ofNat k) = (Int32.ofNat k))).2 kz_) ?_
      show OwnGoes p e below _ (T1.setTop (mkF m 141 #[.val (.int p0), .val (.int p1), .val (.int p2), .val (.int p3), .val (.int p4), .val (.int p5), .val (.int (Int32.ofNat k)), .val (.ref b), .val (.int (Int32.ofNat j)), .val (.ref r), .val (.int (1 : Int32))] [(.int (1 : Int32))]))
      refine own_pre (fun _ kz_ => XS.aload X1.here hx rfl (hb hby at_141) rfl rfl kz_) ?_
      show OwnGoes p e below _ (T1.setTop (mkF m 143 #[.val (.int p0), .val (.int p1), .val (.int p2), .val (.int p3), .val (.int p4), .val (.int p5), .val (.int (Int32.ofNat k)), .val (.ref b), .val (.int (Int32.ofNat j)), .val (.ref r), .val (.int (1 : Int32))] [(.ref b), (.int (1 : Int32))]))
      refine own_pre (fun _ kz_ => XS.iload X1.here hx rfl (hb hby at_143) rfl kz_) ?_
      show OwnGoes p e below _ (T1.setTop (mkF m 145 #[.val (.int p0), .val (.int p1), .val (.int p2), .val (.int p3), .val (.int p4), .val (.int p5), .val (.int (Int32.ofNat k)), .val (.ref b), .val (.int (Int32.ofNat j)), .val (.ref r), .val (.int (1 : Int32))] [(.int (Int32.ofNat k)), (.ref b), (.int (1 : Int32))]))
      refine own_pre (fun _ kz_ => XS.iloadN X1.here hx rfl (hb hby at_145) rfl kz_) ?_
      show OwnGoes p e below _ (T1.setTop (mkF m 146 #[.val (.int p0), .val (.int p1), .val (.int p2), .val (.int p3), .val (.int p4), .val (.int p5), .val (.int (Int32.ofNat k)), .val (.ref b), .val (.int (Int32.ofNat j)), .val (.ref r), .val (.int (1 : Int32))] [(.int p1), (.int (Int32.ofNat k)), (.ref b), (.int (1 : Int32))]))
      refine own_pre (fun _ kz_ => XS.iloadN X1.here hx rfl (hb hby at_146) rfl kz_) ?_
      show OwnGoes p e below _ (T1.setTop (mkF m 147 #[.val (.int p0), .val (.int p1), .val (.int p2), .val (.int p3), .val (.int p4), .val (.int p5), .val (.int (Int32.ofNat k)), .val (.ref b), .val (.int (Int32.ofNat j)), .val (.ref r), .val (.int (1 : Int32))] [(.int p2), (.int p1), (.int (Int32.ofNat k)), (.ref b), (.int (1 : Int32))]))
      refine own_pre (fun _ kz_ => XS.iloadN X1.here hx rfl (hb hby at_147) rfl kz_) ?_
      show OwnGoes p e below _ (T1.setTop (mkF m 148 #[.val (.int p0), .val (.int p1), .val (.int p2), .val (.int p3), .val (.int p4), .val (.int p5), .val (.int (Int32.ofNat k)), .val (.ref b), .val (.int (Int32.ofNat j)), .val (.ref r), .val (.int (1 : Int32))] [(.int p3), (.int p2), (.int p1), (.int (Int32.ofNat k)), (.ref b), (.int (1 : Int32))]))
      refine own_pre (fun _ kz_ => XS.iload X1.here hx rfl (hb hby at_148) rfl kz_) ?_
      show OwnGoes p e below _ (T1.setTop (mkF m 150 #[.val (.int p0), .val (.int p1), .val (.int p2), .val (.int p3), .val (.int p4), .val (.int p5), .val (.int (Int32.ofNat k)), .val (.ref b), .val (.int (Int32.ofNat j)), .val (.ref r), .val (.int (1 : Int32))] [(.int p4), (.int p3), (.int p2), (.int p1), (.int (Int32.ofNat k)), (.ref b), (.int (1 : Int32))]))
      obtain ⟨_, _, ⟨T11, L11, k11, n11⟩, -, X11, ⟨Lc11, hQ11, l11, y11, z11⟩, st11⟩ := Jvm.LawKit.callS X1 hx (y := (⟨"com/example/embosser/embosser/domain/PositionsRoomPinLaw", "prefix", "([IIIIII)Z"⟩ : MethodName)) hown (mvT hZ (hw _ (List.mem_of_getElem? (i := 18) rfl))) (mvT hZ (hw _ (List.mem_of_getElem? (i := 19) rfl))) (mvT hZ (hw _ (List.mem_of_getElem? (i := 20) rfl))) (mvT hZ (hw _ (List.mem_of_getElem? (i := 21) rfl))) (by decide) (backOf (W := 1) (rmPre l Z a0 hw [] b (Int32.ofNat k) p1 p2 p3 p4 (own_vs k p1 p2 p3 p4) T1.heap n0 Z1 f1_1 (by rw [hlen]; omega) (by rcases hk with rfl | rfl | rfl | rfl <;> first | rfl | (intro q; first | rfl | exact absurd (by decide) q)) (by rcases hk with rfl | rfl | rfl | rfl <;> first | rfl | (intro q; first | rfl | exact absurd (by decide) q)) (by rcases hk with rfl | rfl | rfl | rfl <;> first | rfl | (intro q; first | rfl | exact absurd (by decide) q)) (by rcases hk with rfl | rfl | rfl | rfl <;> first | rfl | (intro q; first | rfl | exact absurd (by decide) q))) hZ (hw _ (List.mem_of_getElem? (i := 21) rfl)) (hw _ (List.mem_of_getElem? (i := 20) rfl)) (by decide) (by decide)) (g := (mkF m 150 #[.val (.int p0), .val (.int p1), .val (.int p2), .val (.int p3), .val (.int p4), .val (.int p5), .val (.int (Int32.ofNat k)), .val (.ref b), .val (.int (Int32.ofNat j)), .val (.ref r), .val (.int (1 : Int32))] [(.int p4), (.int p3), (.int p2), (.int p1), (.int (Int32.ofNat k)), (.ref b), (.int (1 : Int32))])) rfl (by rw [hml]; rfl) (argsL := [(.ref b), (.int (Int32.ofNat k)), (.int p1), (.int p2), (.int p3), (.int p4)]) (rest := [(.int (1 : Int32))]) (lenOf (d := "([IIIIII)Z") (ps := [(.array .int), .int, .int, .int, .int, .int]) (r := some .boolean) (by decide +kernel) rfl) rfl (by show 2 * 0 + _ ≤ _; exact Nat.le_of_eq rfl) (hb hby at_150) (fun _ _ => ⟨rfl, rfl, (by decide : 2 + 0 ≤ _), (by decide : 12 + 0 ≤ _)⟩)
      dsimp only [Pt.U, Pt.locs, Pt.cells, Pt.slots] at X11 l11 y11 z11 st11 hQ11
      subst l11 y11 z11
      obtain ⟨rfl, N11q, e11⟩ := hQ11
      have N11 := Fr.app N1 N11q
      refine own_pre st11 ?_
      show OwnGoes p e below _ (T11.setTop (mkF m 153 #[.val (.int p0), .val (.int p1), .val (.int p2), .val (.int p3), .val (.int p4), .val (.int p5), .val (.int (Int32.ofNat k)), .val (.ref b), .val (.int (Int32.ofNat j)), .val (.ref r), .val (.int (1 : Int32))] [(.int (1 : Int32)), (.int (1 : Int32))]))
      refine own_pre (fun _ kz_ => XS.ifNo X11.here hx rfl (hb hby at_153) rfl ((if0 _ _).trans (feq (by decide : ¬ ((1 : Int32) = (0 : Int32)))).1) kz_) ?_
      show OwnGoes p e below _ (T11.setTop (mkF m 156 #[.val (.int p0), .val (.int p1), .val (.int p2), .val (.int p3), .val (.int p4), .val (.int p5), .val (.int (Int32.ofNat k)), .val (.ref b), .val (.int (Int32.ofNat j)), .val (.ref r), .val (.int (1 : Int32))] [(.int (1 : Int32))]))
      refine own_pre (fun _ kz_ => XS.iconst X11.here hx rfl (hb hby at_156) kz_) ?_
      show OwnGoes p e below _ (T11.setTop (mkF m 157 #[.val (.int p0), .val (.int p1), .val (.int p2), .val (.int p3), .val (.int p4), .val (.int p5), .val (.int (Int32.ofNat k)), .val (.ref b), .val (.int (Int32.ofNat j)), .val (.ref r), .val (.int (1 : Int32))] [(.int (1 : Int32)), (.int (1 : Int32))]))
      refine own_pre (fun _ kz_ => XS.goto X11.here hx rfl (pc0 := 157) (pc' := 161) rfl (hb hby at_157) (by decide) (by decide) kz_) ?_
      show OwnGoes p e below _ (T11.setTop (mkF m 161 #[.val (.int p0), .val (.int p1), .val (.int p2), .val (.int p3), .val (.int p4), .val (.int p5), .val (.int (Int32.ofNat k)), .val (.ref b), .val (.int (Int32.ofNat j)), .val (.ref r), .val (.int (1 : Int32))] [(.int (1 : Int32)), (.int (1 : Int32))]))
      refine own_pre (fun _ kz_ => XS.iand X11.here hx rfl (hb hby at_161) rfl kz_) ?_
      show OwnGoes p e below _ (T11.setTop (mkF m 162 #[.val (.int p0), .val (.int p1), .val (.int p2), .val (.int p3), .val (.int p4), .val (.int p5), .val (.int (Int32.ofNat k)), .val (.ref b), .val (.int (Int32.ofNat j)), .val (.ref r), .val (.int (1 : Int32))] [(.int ((1 : Int32) &&& (1 : Int32)))]))
      rw [show ((1 : Int32) &&& (1 : Int32)) = (1 : Int32) from by decide]
      show OwnGoes p e below _ (T11.setTop (mkF m 162 #[.val (.int p0), .val (.int p1), .val (.int p2), .val (.int p3), .val (.int p4), .val (.int p5), .val (.int (Int32.ofNat k)), .val (.ref b), .val (.int (Int32.ofNat j)), .val (.ref r), .val (.int (1 : Int32))] [(.int (1 : Int32))]))
      refine own_pre (fun _ kz_ => XS.istore X11.here hx rfl (hb hby at_162) rfl (l' := #[.val (.int p0), .val (.int p1), .val (.int p2), .val (.int p3), .val (.int p4), .val (.int p5), .val (.int (Int32.ofNat k)), .val (.ref b), .val (.int (Int32.ofNat j)), .val (.ref r), .val (.int (1 : Int32))]) rfl kz_) ?_
      show OwnGoes p e below _ (T11.setTop (mkF m 164 #[.val (.int p0), .val (.int p1), .val (.int p2), .val (.int p3), .val (.int p4), .val (.int p5), .val (.int (Int32.ofNat k)), .val (.ref b), .val (.int (Int32.ofNat j)), .val (.ref r), .val (.int (1 : Int32))] []))
      refine own_pre (fun _ kz_ => XS.iload X11.here hx rfl (hb hby at_164) rfl kz_) ?_
      show OwnGoes p e below _ (T11.setTop (mkF m 166 #[.val (.int p0), .val (.int p1), .val (.int p2), .val (.int p3), .val (.int p4), .val (.int p5), .val (.int (Int32.ofNat k)), .val (.ref b), .val (.int (Int32.ofNat j)), .val (.ref r), .val (.int (1 : Int32))] [(.int (Int32.ofNat j))]))
      refine own_pre (fun _ kz_ => XS.iload X11.here hx rfl (hb hby at_166) rfl kz_) ?_
      show OwnGoes p e below _ (T11.setTop (mkF m 168 #[.val (.int p0), .val (.int p1), .val (.int p2), .val (.int p3), .val (.int p4), .val (.int p5), .val (.int (Int32.ofNat k)), .val (.ref b), .val (.int (Int32.ofNat j)), .val (.ref r), .val (.int (1 : Int32))] [(.int (Int32.ofNat k)), (.int (Int32.ofNat j))]))
      refine own_pre (fun _ kz_ => XS.icmpYes X11.here hx rfl (pc0 := 168) (pc' := 199) rfl (hb hby at_168) rfl (flt (XT.nlt32 (by omega) (by omega) : ¬ ((Int32.ofNat j) < (Int32.ofNat k)))).2.1 (by decide) (by decide) kz_) ?_
      show OwnGoes p e below _ (T11.setTop (mkF m 199 #[.val (.int p0), .val (.int p1), .val (.int p2), .val (.int p3), .val (.int p4), .val (.int p5), .val (.int (Int32.ofNat k)), .val (.ref b), .val (.int (Int32.ofNat j)), .val (.ref r), .val (.int (1 : Int32))] []))
      refine own_pre (fun _ kz_ => XS.iload X11.here hx rfl (hb hby at_199) rfl kz_) ?_
      show OwnGoes p e below _ (T11.setTop (mkF m 201 #[.val (.int p0), .val (.int p1), .val (.int p2), .val (.int p3), .val (.int p4), .val (.int p5), .val (.int (Int32.ofNat k)), .val (.ref b), .val (.int (Int32.ofNat j)), .val (.ref r), .val (.int (1 : Int32))] [(.int (1 : Int32))]))
      refine own_pre (fun _ kz_ => XS.aload X11.here hx rfl (hb hby at_201) rfl rfl kz_) ?_
      show OwnGoes p e below _ (T11.setTop (mkF m 203 #[.val (.int p0), .val (.int p1), .val (.int p2), .val (.int p3), .val (.int p4), .val (.int p5), .val (.int (Int32.ofNat k)), .val (.ref b), .val (.int (Int32.ofNat j)), .val (.ref r), .val (.int (1 : Int32))] [(.ref r), (.int (1 : Int32))]))
      refine own_pre (fun _ kz_ => XS.aload X11.here hx rfl (hb hby at_203) rfl rfl kz_) ?_
      show OwnGoes p e below _ (T11.setTop (mkF m 205 #[.val (.int p0), .val (.int p1), .val (.int p2), .val (.int p3), .val (.int p4), .val (.int p5), .val (.int (Int32.ofNat k)), .val (.ref b), .val (.int (Int32.ofNat j)), .val (.ref r), .val (.int (1 : Int32))] [(.ref b), (.ref r), (.int (1 : Int32))]))
      refine own_pre (fun _ kz_ => Jvm.RoadKit.acmp (g := (mkF m 205 #[.val (.int p0), .val (.int p1), .val (.int p2), .val (.int p3), .val (.int p4), .val (.int p5), .val (.int (Int32.ofNat k)), .val (.ref b), .val (.int (Int32.ofNat j)), .val (.ref r), .val (.int (1 : Int32))] [(.ref b), (.ref r), (.int (1 : Int32))])) X11 hx rfl rfl rfl (pc0 := 205) (pc' := 208) (same := false) rfl (hb hby at_205) rfl (decide_eq_false fun q => (fun q => hne q.symm : ¬ (r = b)) (Value.ref.inj q)) (by decide) (by decide) kz_) ?_
      show OwnGoes p e below _ (T11.setTop (mkF m 208 #[.val (.int p0), .val (.int p1), .val (.int p2), .val (.int p3), .val (.int p4), .val (.int p5), .val (.int (Int32.ofNat k)), .val (.ref b), .val (.int (Int32.ofNat j)), .val (.ref r), .val (.int (1 : Int32))] [(.int (1 : Int32))]))
      refine own_pre (fun _ kz_ => XS.aload X11.here hx rfl (hb hby at_208) rfl rfl kz_) ?_
      show OwnGoes p e below _ (T11.setTop (mkF m 210 #[.val (.int p0), .val (.int p1), .val (.int p2), .val (.int p3), .val (.int p4), .val (.int p5), .val (.int (Int32.ofNat k)), .val (.ref b), .val (.int (Int32.ofNat j)), .val (.ref r), .val (.int (1 : Int32))] [(.ref r), (.int (1 : Int32))]))
      refine own_pre (own_alen X11 hx hZ e11 Vr (n := (Int32.ofNat (2 * k))) (by rw [List.length_append, hlen, List.length_replicate]; congr 1; omega) (g := (mkF m 210 #[.val (.int p0), .val (.int p1), .val (.int p2), .val (.int p3), .val (.int p4), .val (.int p5), .val (.int (Int32.ofNat k)), .val (.ref b), .val (.int (Int32.ofNat j)), .val (.ref r), .val (.int (1 : Int32))] [(.ref r), (.int (1 : Int32))])) rfl rfl (hb hby at_210)) ?_
      show OwnGoes p e below _ (T11.setTop (mkF m 211 #[.val (.int p0), .val (.int p1), .val (.int p2), .val (.int p3), .val (.int p4), .val (.int p5), .val (.int (Int32.ofNat k)), .val (.ref b), .val (.int (Int32.ofNat j)), .val (.ref r), .val (.int (1 : Int32))] [(.int (Int32.ofNat (2 * k))), (.int (1 : Int32))]))
      refine own_pre (fun _ kz_ => XS.iconst X11.here hx rfl (hb hby at_211) kz_) ?_
      show OwnGoes p e below _ (T11.setTop (mkF m 212 #[.val (.int p0), .val (.int p1), .val (.int p2), .val (.int p3), .val (.int p4), .val (.int p5), .val (.int (Int32.ofNat k)), .val (.ref b), .val (.int (Int32.ofNat j)), .val (.ref r), .val (.int (1 : Int32))] [(.int (2 : Int32)), (.int (Int32.ofNat (2 * k))), (.int (1 : Int32))]))
      refine own_pre (fun _ kz_ => XS.iload X11.here hx rfl (hb hby at_212) rfl kz_) ?_
      show OwnGoes p e below _ (T11.setTop (mkF m 214 #[.val (.int p0), .val (.int p1), .val (.int p2), .val (.int p3), .val (.int p4), .val (.int p5), .val (.int (Int32.ofNat k)), .val (.ref b), .val (.int (Int32.ofNat j)), .val (.ref r), .val (.int (1 : Int32))] [(.int (Int32.ofNat k)), (.int (2 : Int32)), (.int (Int32.ofNat (2 * k))), (.int (1 : Int32))]))
      refine own_pre (fun _ kz_ => XS.imul X11.here hx rfl (hb hby at_214) rfl kz_) ?_
      show OwnGoes p e below _ (T11.setTop (mkF m 215 #[.val (.int p0), .val (.int p1), .val (.int p2), .val (.int p3), .val (.int p4), .val (.int p5), .val (.int (Int32.ofNat k)), .val (.ref b), .val (.int (Int32.ofNat j)), .val (.ref r), .val (.int (1 : Int32))] [(.int ((2 : Int32) * (Int32.ofNat k))), (.int (Int32.ofNat (2 * k))), (.int (1 : Int32))]))
      refine own_pre (fun _ kz_ => XS.icmpNo X11.here hx rfl (hb hby at_215) rfl (teq (by rcases hk with rfl | rfl | rfl | rfl <;> decide : (Int32.ofNat (2 * k)) = ((2 : Int32) * (Int32.ofNat k)))).2 kz_) ?_
      show OwnGoes p e below _ (T11.setTop (mkF m 218 #[.val (.int p0), .val (.int p1), .val (.int p2), .val (.int p3), .val (.int p4), .val (.int p5), .val (.int (Int32.ofNat k)), .val (.ref b), .val (.int (Int32.ofNat j)), .val (.ref r), .val (.int (1 : Int32))] [(.int (1 : Int32))]))
      refine own_pre (fun _ kz_ => XS.iconst X11.here hx rfl (hb hby at_218) kz_) ?_
      show OwnGoes p e below _ (T11.setTop (mkF m 219 #[.val (.int p0), .val (.int p1), .val (.int p2), .val (.int p3), .val (.int p4), .val (.int p5), .val (.int (Int32.ofNat k)), .val (.ref b), .val (.int (Int32.ofNat j)), .val (.ref r), .val (.int (1 : Int32))] [(.int (1 : Int32)), (.int (1 : Int32))]))
      refine own_pre (fun _ kz_ => XS.goto X11.here hx rfl (pc0 := 219) (pc' := 223) rfl (hb hby at_219) (by decide) (by decide) kz_) ?_
      show OwnGoes p e below _ (T11.setTop (mkF m 223 #[.val (.int p0), .val (.int p1), .val (.int p2), .val (.int p3), .val (.int p4), .val (.int p5), .val (.int (Int32.ofNat k)), .val (.ref b), .val (.int (Int32.ofNat j)), .val (.ref r), .val (.int (1 : Int32))] [(.int (1 : Int32)), (.int (1 : Int32))]))
      refine own_pre (fun _ kz_ => XS.iand X11.here hx rfl (hb hby at_223) rfl kz_) ?_
      show OwnGoes p e below _ (T11.setTop (mkF m 224 #[.val (.int p0), .val (.int p1), .val (.int p2), .val (.int p3), .val (.int p4), .val (.int p5), .val (.int (Int32.ofNat k)), .val (.ref b), .val (.int (Int32.ofNat j)), .val (.ref r), .val (.int (1 : Int32))] [(.int ((1 : Int32) &&& (1 : Int32)))]))
      rw [show ((1 : Int32) &&& (1 : Int32)) = (1 : Int32) from by decide]
      show OwnGoes p e below _ (T11.setTop (mkF m 224 #[.val (.int p0), .val (.int p1), .val (.int p2), .val (.int p3), .val (.int p4), .val (.int p5), .val (.int (Int32.ofNat k)), .val (.ref b), .val (.int (Int32.ofNat j)), .val (.ref r), .val (.int (1 : Int32))] [(.int (1 : Int32))]))
      refine own_pre (fun _ kz_ => XS.istore X11.here hx rfl (hb hby at_224) rfl (l' := #[.val (.int p0), .val (.int p1), .val (.int p2), .val (.int p3), .val (.int p4), .val (.int p5), .val (.int (Int32.ofNat k)), .val (.ref b), .val (.int (Int32.ofNat j)), .val (.ref r), .val (.int (1 : Int32))]) rfl kz_) ?_
      show OwnGoes p e below _ (T11.setTop (mkF m 226 #[.val (.int p0), .val (.int p1), .val (.int p2), .val (.int p3), .val (.int p4), .val (.int p5), .val (.int (Int32.ofNat k)), .val (.ref b), .val (.int (Int32.ofNat j)), .val (.ref r), .val (.int (1 : Int32))] []))
      refine own_pre (fun _ kz_ => XS.iload X11.here hx rfl (hb hby at_226) rfl kz_) ?_
      show OwnGoes p e below _ (T11.setTop (mkF m 228 #[.val (.int p0), .val (.int p1), .val (.int p2), .val (.int p3), .val (.int p4), .val (.int p5), .val (.int (Int32.ofNat k)), .val (.ref b), .val (.int (Int32.ofNat j)), .val (.ref r), .val (.int (1 : Int32))] [(.int (1 : Int32))]))
      refine own_pre (fun _ kz_ => XS.aload X11.here hx rfl (hb hby at_228) rfl rfl kz_) ?_
      show OwnGoes p e below _ (T11.setTop (mkF m 230 #[.val (.int p0), .val (.int p1), .val (.int p2), .val (.int p3), .val (.int p4), .val (.int p5), .val (.int (Int32.ofNat k)), .val (.ref b), .val (.int (Int32.ofNat j)), .val (.ref r), .val (.int (1 : Int32))] [(.ref r), (.int (1 : Int32))]))
      refine own_pre (fun _ kz_ => XS.iload X11.here hx rfl (hb hby at_230) rfl kz_) ?_
      show OwnGoes p e below _ (T11.setTop (mkF m 232 #[.val (.int p0), .val (.int p1), .val (.int p2), .val (.int p3), .val (.int p4), .val (.int p5), .val (.int (Int32.ofNat k)), .val (.ref b), .val (.int (Int32.ofNat j)), .val (.ref r), .val (.int (1 : Int32))] [(.int (Int32.ofNat k)), (.ref r), (.int (1 : Int32))]))
      refine own_pre (fun _ kz_ => XS.iloadN X11.here hx rfl (hb hby at_232) rfl kz_) ?_
      show OwnGoes p e below _ (T11.setTop (mkF m 233 #[.val (.int p0), .val (.int p1), .val (.int p2), .val (.int p3), .val (.int p4), .val (.int p5), .val (.int (Int32.ofNat k)), .val (.ref b), .val (.int (Int32.ofNat j)), .val (.ref r), .val (.int (1 : Int32))] [(.int p1), (.int (Int32.ofNat k)), (.ref r), (.int (1 : Int32))]))
      refine own_pre (fun _ kz_ => XS.iloadN X11.here hx rfl (hb hby at_233) rfl kz_) ?_
      show OwnGoes p e below _ (T11.setTop (mkF m 234 #[.val (.int p0), .val (.int p1), .val (.int p2), .val (.int p3), .val (.int p4), .val (.int p5), .val (.int (Int32.ofNat k)), .val (.ref b), .val (.int (Int32.ofNat j)), .val (.ref r), .val (.int (1 : Int32))] [(.int p2), (.int p1), (.int (Int32.ofNat k)), (.ref r), (.int (1 : Int32))]))
      refine own_pre (fun _ kz_ => XS.iloadN X11.here hx rfl (hb hby at_234) rfl kz_) ?_
      show OwnGoes p e below _ (T11.setTop (mkF m 235 #[.val (.int p0), .val (.int p1), .val (.int p2), .val (.int p3), .val (.int p4), .val (.int p5), .val (.int (Int32.ofNat k)), .val (.ref b), .val (.int (Int32.ofNat j)), .val (.ref r), .val (.int (1 : Int32))] [(.int p3), (.int p2), (.int p1), (.int (Int32.ofNat k)), (.ref r), (.int (1 : Int32))]))
      refine own_pre (fun _ kz_ => XS.iload X11.here hx rfl (hb hby at_235) rfl kz_) ?_
      show OwnGoes p e below _ (T11.setTop (mkF m 237 #[.val (.int p0), .val (.int p1), .val (.int p2), .val (.int p3), .val (.int p4), .val (.int p5), .val (.int (Int32.ofNat k)), .val (.ref b), .val (.int (Int32.ofNat j)), .val (.ref r), .val (.int (1 : Int32))] [(.int p4), (.int p3), (.int p2), (.int p1), (.int (Int32.ofNat k)), (.ref r), (.int (1 : Int32))]))
      obtain ⟨_, _, ⟨T12, L12, k12, n12⟩, -, X12, ⟨Lc12, hQ12, l12, y12, z12⟩, st12⟩ := Jvm.LawKit.callS X11 hx (y := (⟨"com/example/embosser/embosser/domain/PositionsRoomPinLaw", "prefix", "([IIIIII)Z"⟩ : MethodName)) hown (mvT hZ (hw _ (List.mem_of_getElem? (i := 18) rfl))) (mvT hZ (hw _ (List.mem_of_getElem? (i := 19) rfl))) (mvT hZ (hw _ (List.mem_of_getElem? (i := 20) rfl))) (mvT hZ (hw _ (List.mem_of_getElem? (i := 21) rfl))) (by decide) (backOf (W := 1) (rmPre l Z a0 hw [] r (Int32.ofNat k) p1 p2 p3 p4 (own_vs k p1 p2 p3 p4 ++ List.replicate k (.int (0 : Int32))) T1.heap n0 Z1 Vr (by rw [List.length_append, hlen, List.length_replicate]; omega) (by rcases hk with rfl | rfl | rfl | rfl <;> first | rfl | (intro q; first | rfl | exact absurd (by decide) q)) (by rcases hk with rfl | rfl | rfl | rfl <;> first | rfl | (intro q; first | rfl | exact absurd (by decide) q)) (by rcases hk with rfl | rfl | rfl | rfl <;> first | rfl | (intro q; first | rfl | exact absurd (by decide) q)) (by rcases hk with rfl | rfl | rfl | rfl <;> first | rfl | (intro q; first | rfl | exact absurd (by decide) q))) hZ (hw _ (List.mem_of_getElem? (i := 21) rfl)) (hw _ (List.mem_of_getElem? (i := 20) rfl)) (by decide) (by decide)) (g := (mkF m 237 #[.val (.int p0), .val (.int p1), .val (.int p2), .val (.int p3), .val (.int p4), .val (.int p5), .val (.int (Int32.ofNat k)), .val (.ref b), .val (.int (Int32.ofNat j)), .val (.ref r), .val (.int (1 : Int32))] [(.int p4), (.int p3), (.int p2), (.int p1), (.int (Int32.ofNat k)), (.ref r), (.int (1 : Int32))])) rfl (by rw [hml]; rfl) (argsL := [(.ref r), (.int (Int32.ofNat k)), (.int p1), (.int p2), (.int p3), (.int p4)]) (rest := [(.int (1 : Int32))]) (lenOf (d := "([IIIIII)Z") (ps := [(.array .int), .int, .int, .int, .int, .int]) (r := some .boolean) (by decide +kernel) rfl) rfl (by show 2 * 0 + _ ≤ _; exact Nat.le_of_eq rfl) (hb hby at_237) (fun _ _ => ⟨rfl, e11, (by decide : 2 + 0 ≤ _), (by decide : 12 + 0 ≤ _)⟩)
      dsimp only [Pt.U, Pt.locs, Pt.cells, Pt.slots] at X12 l12 y12 z12 st12 hQ12
      subst l12 y12 z12
      obtain ⟨rfl, N12q, e12⟩ := hQ12
      have N12 := Fr.app N11 N12q
      refine own_pre st12 ?_
      show OwnGoes p e below _ (T12.setTop (mkF m 240 #[.val (.int p0), .val (.int p1), .val (.int p2), .val (.int p3), .val (.int p4), .val (.int p5), .val (.int (Int32.ofNat k)), .val (.ref b), .val (.int (Int32.ofNat j)), .val (.ref r), .val (.int (1 : Int32))] [(.int (1 : Int32)), (.int (1 : Int32))]))
      refine own_pre (fun _ kz_ => XS.iand X12.here hx rfl (hb hby at_240) rfl kz_) ?_
      show OwnGoes p e below _ (T12.setTop (mkF m 241 #[.val (.int p0), .val (.int p1), .val (.int p2), .val (.int p3), .val (.int p4), .val (.int p5), .val (.int (Int32.ofNat k)), .val (.ref b), .val (.int (Int32.ofNat j)), .val (.ref r), .val (.int (1 : Int32))] [(.int ((1 : Int32) &&& (1 : Int32)))]))
      rw [show ((1 : Int32) &&& (1 : Int32)) = (1 : Int32) from by decide]
      show OwnGoes p e below _ (T12.setTop (mkF m 241 #[.val (.int p0), .val (.int p1), .val (.int p2), .val (.int p3), .val (.int p4), .val (.int p5), .val (.int (Int32.ofNat k)), .val (.ref b), .val (.int (Int32.ofNat j)), .val (.ref r), .val (.int (1 : Int32))] [(.int (1 : Int32))]))
      refine own_pre (fun _ kz_ => XS.istore X12.here hx rfl (hb hby at_241) rfl (l' := #[.val (.int p0), .val (.int p1), .val (.int p2), .val (.int p3), .val (.int p4), .val (.int p5), .val (.int (Int32.ofNat k)), .val (.ref b), .val (.int (Int32.ofNat j)), .val (.ref r), .val (.int (1 : Int32))]) rfl kz_) ?_
      show OwnGoes p e below _ (T12.setTop (mkF m 243 #[.val (.int p0), .val (.int p1), .val (.int p2), .val (.int p3), .val (.int p4), .val (.int p5), .val (.int (Int32.ofNat k)), .val (.ref b), .val (.int (Int32.ofNat j)), .val (.ref r), .val (.int (1 : Int32))] []))
      refine own_pre (fun _ kz_ => XS.iload X12.here hx rfl (hb hby at_243) rfl kz_) ?_
      show OwnGoes p e below _ (T12.setTop (mkF m 245 #[.val (.int p0), .val (.int p1), .val (.int p2), .val (.int p3), .val (.int p4), .val (.int p5), .val (.int (Int32.ofNat k)), .val (.ref b), .val (.int (Int32.ofNat j)), .val (.ref r), .val (.int (1 : Int32))] [(.int (1 : Int32))]))
      refine own_pre (fun _ kz_ => XS.aload X12.here hx rfl (hb hby at_245) rfl rfl kz_) ?_
      show OwnGoes p e below _ (T12.setTop (mkF m 247 #[.val (.int p0), .val (.int p1), .val (.int p2), .val (.int p3), .val (.int p4), .val (.int p5), .val (.int (Int32.ofNat k)), .val (.ref b), .val (.int (Int32.ofNat j)), .val (.ref r), .val (.int (1 : Int32))] [(.ref r), (.int (1 : Int32))]))
      refine own_pre (fun _ kz_ => XS.iconst X12.here hx rfl (hb hby at_247) kz_) ?_
      show OwnGoes p e below _ (T12.setTop (mkF m 248 #[.val (.int p0), .val (.int p1), .val (.int p2), .val (.int p3), .val (.int p4), .val (.int p5), .val (.int (Int32.ofNat k)), .val (.ref b), .val (.int (Int32.ofNat j)), .val (.ref r), .val (.int (1 : Int32))] [(.int (1 : Int32)), (.ref r), (.int (1 : Int32))]))
      refine own_pre (fun _ kz_ => XS.iload X12.here hx rfl (hb hby at_248) rfl kz_) ?_
      show OwnGoes p e below _ (T12.setTop (mkF m 250 #[.val (.int p0), .val (.int p1), .val (.int p2), .val (.int p3), .val (.int p4), .val (.int p5), .val (.int (Int32.ofNat k)), .val (.ref b), .val (.int (Int32.ofNat j)), .val (.ref r), .val (.int (1 : Int32))] [(.int (Int32.ofNat k)), (.int (1 : Int32)), (.ref r), (.int (1 : Int32))]))
      obtain ⟨_, _, ⟨T13, L13, k13, n13⟩, -, X13, ⟨Lc13, hQ13, l13, y13, z13⟩, st13⟩ := Jvm.LawKit.callS X12 hx (y := (⟨"com/example/embosser/embosser/domain/PositionsRoomPinLaw", "zeroAfter", "([III)Z"⟩ : MethodName)) hown (mvT hZ (hw _ (List.mem_of_getElem? (i := 25) rfl))) (mvT hZ (hw _ (List.mem_of_getElem? (i := 26) rfl))) (mvT hZ (hw _ (List.mem_of_getElem? (i := 20) rfl))) (mvT hZ (hw _ (List.mem_of_getElem? (i := 27) rfl))) (by decide) (backOf (W := 1) (rmZ l Z a0 hw [] r (1 : Int32) (Int32.ofNat k) (own_vs k p1 p2 p3 p4 ++ List.replicate k (.int (0 : Int32))) T1.heap n0 Z1 Vr (by decide) (by rcases hk with rfl | rfl | rfl | rfl <;> (intro q1 q2; first | rfl | exact absurd (by decide) q1 | exact absurd q2 (by first | decide | (simp [own_vs]; done) | (simp [own_vs]; decide))))) hZ (hw _ (List.mem_of_getElem? (i := 27) rfl)) (hw _ (List.mem_of_getElem? (i := 20) rfl)) (by decide) (by decide)) (g := (mkF m 250 #[.val (.int p0), .val (.int p1), .val (.int p2), .val (.int p3), .val (.int p4), .val (.int p5), .val (.int (Int32.ofNat k)), .val (.ref b), .val (.int (Int32.ofNat j)), .val (.ref r), .val (.int (1 : Int32))] [(.int (Int32.ofNat k)), (.int (1 : Int32)), (.ref r), (.int (1 : Int32))])) rfl (by rw [hml]; rfl) (argsL := [(.ref r), (.int (1 : Int32)), (.int (Int32.ofNat k))]) (rest := [(.int (1 : Int32))]) (lenOf (d := "([III)Z") (ps := [(.array .int), .int, .int]) (r := some .boolean) (by decide +kernel) rfl) rfl (by show 2 * 0 + _ ≤ _; exact Nat.le_of_eq rfl) (hb hby at_250) (fun _ _ => ⟨rfl, e12, (by decide : 2 + 0 ≤ _), (by decide : 12 + 0 ≤ _)⟩)
      dsimp only [Pt.U, Pt.locs, Pt.cells, Pt.slots] at X13 l13 y13 z13 st13 hQ13
      subst l13 y13 z13
      obtain ⟨rfl, N13q, e13⟩ := hQ13
      have N13 := Fr.app N12 N13q
      refine own_pre st13 ?_
      show OwnGoes p e below _ (T13.setTop (mkF m 253 #[.val (.int p0), .val (.int p1), .val (.int p2), .val (.int p3), .val (.int p4), .val (.int p5), .val (.int (Int32.ofNat k)), .val (.ref b), .val (.int (Int32.ofNat j)), .val (.ref r), .val (.int (1 : Int32))] [(.int (1 : Int32)), (.int (1 : Int32))]))
      refine own_pre (fun _ kz_ => XS.iand X13.here hx rfl (hb hby at_253) rfl kz_) ?_
      show OwnGoes p e below _ (T13.setTop (mkF m 254 #[.val (.int p0), .val (.int p1), .val (.int p2), .val (.int p3), .val (.int p4), .val (.int p5), .val (.int (Int32.ofNat k)), .val (.ref b), .val (.int (Int32.ofNat j)), .val (.ref r), .val (.int (1 : Int32))] [(.int ((1 : Int32) &&& (1 : Int32)))]))
      rw [show ((1 : Int32) &&& (1 : Int32)) = (1 : Int32) from by decide]
      show OwnGoes p e below _ (T13.setTop (mkF m 254 #[.val (.int p0), .val (.int p1), .val (.int p2), .val (.int p3), .val (.int p4), .val (.int p5), .val (.int (Int32.ofNat k)), .val (.ref b), .val (.int (Int32.ofNat j)), .val (.ref r), .val (.int (1 : Int32))] [(.int (1 : Int32))]))
      refine own_pre (fun _ kz_ => XS.istore X13.here hx rfl (hb hby at_254) rfl (l' := #[.val (.int p0), .val (.int p1), .val (.int p2), .val (.int p3), .val (.int p4), .val (.int p5), .val (.int (Int32.ofNat k)), .val (.ref b), .val (.int (Int32.ofNat j)), .val (.ref r), .val (.int (1 : Int32))]) rfl kz_) ?_
      show OwnGoes p e below _ (T13.setTop (mkF m 256 #[.val (.int p0), .val (.int p1), .val (.int p2), .val (.int p3), .val (.int p4), .val (.int p5), .val (.int (Int32.ofNat k)), .val (.ref b), .val (.int (Int32.ofNat j)), .val (.ref r), .val (.int (1 : Int32))] []))
      refine own_pre (fun _ kz_ => XS.iload X13.here hx rfl (hb hby at_256) rfl kz_) ?_
      show OwnGoes p e below _ (T13.setTop (mkF m 258 #[.val (.int p0), .val (.int p1), .val (.int p2), .val (.int p3), .val (.int p4), .val (.int p5), .val (.int (Int32.ofNat k)), .val (.ref b), .val (.int (Int32.ofNat j)), .val (.ref r), .val (.int (1 : Int32))] [(.int (1 : Int32))]))
      refine own_pre (fun _ kz_ => XS.aload X13.here hx rfl (hb hby at_258) rfl rfl kz_) ?_
      show OwnGoes p e below _ (T13.setTop (mkF m 260 #[.val (.int p0), .val (.int p1), .val (.int p2), .val (.int p3), .val (.int p4), .val (.int p5), .val (.int (Int32.ofNat k)), .val (.ref b), .val (.int (Int32.ofNat j)), .val (.ref r), .val (.int (1 : Int32))] [(.ref r), (.int (1 : Int32))]))
      refine own_pre (fun _ kz_ => XS.iconst X13.here hx rfl (hb hby at_260) kz_) ?_
      show OwnGoes p e below _ (T13.setTop (mkF m 261 #[.val (.int p0), .val (.int p1), .val (.int p2), .val (.int p3), .val (.int p4), .val (.int p5), .val (.int (Int32.ofNat k)), .val (.ref b), .val (.int (Int32.ofNat j)), .val (.ref r), .val (.int (1 : Int32))] [(.int (2 : Int32)), (.ref r), (.int (1 : Int32))]))
      refine own_pre (fun _ kz_ => XS.iload X13.here hx rfl (hb hby at_261) rfl kz_) ?_
      show OwnGoes p e below _ (T13.setTop (mkF m 263 #[.val (.int p0), .val (.int p1), .val (.int p2), .val (.int p3), .val (.int p4), .val (.int p5), .val (.int (Int32.ofNat k)), .val (.ref b), .val (.int (Int32.ofNat j)), .val (.ref r), .val (.int (1 : Int32))] [(.int (Int32.ofNat k)), (.int (2 : Int32)), (.ref r), (.int (1 : Int32))]))
      obtain ⟨_, _, ⟨T14, L14, k14, n14⟩, -, X14, ⟨Lc14, hQ14, l14, y14, z14⟩, st14⟩ := Jvm.LawKit.callS X13 hx (y := (⟨"com/example/embosser/embosser/domain/PositionsRoomPinLaw", "zeroAfter", "([III)Z"⟩ : MethodName)) hown (mvT hZ (hw _ (List.mem_of_getElem? (i := 25) rfl))) (mvT hZ (hw _ (List.mem_of_getElem? (i := 26) rfl))) (mvT hZ (hw _ (List.mem_of_getElem? (i := 20) rfl))) (mvT hZ (hw _ (List.mem_of_getElem? (i := 27) rfl))) (by decide) (backOf (W := 1) (rmZ l Z a0 hw [] r (2 : Int32) (Int32.ofNat k) (own_vs k p1 p2 p3 p4 ++ List.replicate k (.int (0 : Int32))) T1.heap n0 Z1 Vr (by decide) (by rcases hk with rfl | rfl | rfl | rfl <;> (intro q1 q2; first | rfl | exact absurd (by decide) q1 | exact absurd q2 (by first | decide | (simp [own_vs]; done) | (simp [own_vs]; decide))))) hZ (hw _ (List.mem_of_getElem? (i := 27) rfl)) (hw _ (List.mem_of_getElem? (i := 20) rfl)) (by decide) (by decide)) (g := (mkF m 263 #[.val (.int p0), .val (.int p1), .val (.int p2), .val (.int p3), .val (.int p4), .val (.int p5), .val (.int (Int32.ofNat k)), .val (.ref b), .val (.int (Int32.ofNat j)), .val (.ref r), .val (.int (1 : Int32))] [(.int (Int32.ofNat k)), (.int (2 : Int32)), (.ref r), (.int (1 : Int32))])) rfl (by rw [hml]; rfl) (argsL := [(.ref r), (.int (2 : Int32)), (.int (Int32.ofNat k))]) (rest := [(.int (1 : Int32))]) (lenOf (d := "([III)Z") (ps := [(.array .int), .int, .int]) (r := some .boolean) (by decide +kernel) rfl) rfl (by show 2 * 0 + _ ≤ _; exact Nat.le_of_eq rfl) (hb hby at_263) (fun _ _ => ⟨rfl, e13, (by decide : 2 + 0 ≤ _), (by decide : 12 + 0 ≤ _)⟩)
      dsimp only [Pt.U, Pt.locs, Pt.cells, Pt.slots] at X14 l14 y14 z14 st14 hQ14
      subst l14 y14 z14
      obtain ⟨rfl, N14q, e14⟩ := hQ14
      have N14 := Fr.app N13 N14q
      refine own_pre st14 ?_
      show OwnGoes p e below _ (T14.setTop (mkF m 266 #[.val (.int p0), .val (.int p1), .val (.int p2), .val (.int p3), .val (.int p4), .val (.int p5), .val (.int (Int32.ofNat k)), .val (.ref b), .val (.int (Int32.ofNat j)), .val (.ref r), .val (.int (1 : Int32))] [(.int (1 : Int32)), (.int (1 : Int32))]))
      refine own_pre (fun _ kz_ => XS.iand X14.here hx rfl (hb hby at_266) rfl kz_) ?_
      show OwnGoes p e below _ (T14.setTop (mkF m 267 #[.val (.int p0), .val (.int p1), .val (.int p2), .val (.int p3), .val (.int p4), .val (.int p5), .val (.int (Int32.ofNat k)), .val (.ref b), .val (.int (Int32.ofNat j)), .val (.ref r), .val (.int (1 : Int32))] [(.int ((1 : Int32) &&& (1 : Int32)))]))
      rw [show ((1 : Int32) &&& (1 : Int32)) = (1 : Int32) from by decide]
      show OwnGoes p e below _ (T14.setTop (mkF m 267 #[.val (.int p0), .val (.int p1), .val (.int p2), .val (.int p3), .val (.int p4), .val (.int p5), .val (.int (Int32.ofNat k)), .val (.ref b), .val (.int (Int32.ofNat j)), .val (.ref r), .val (.int (1 : Int32))] [(.int (1 : Int32))]))
      refine own_pre (fun _ kz_ => XS.istore X14.here hx rfl (hb hby at_267) rfl (l' := #[.val (.int p0), .val (.int p1), .val (.int p2), .val (.int p3), .val (.int p4), .val (.int p5), .val (.int (Int32.ofNat k)), .val (.ref b), .val (.int (Int32.ofNat j)), .val (.ref r), .val (.int (1 : Int32))]) rfl kz_) ?_
      show OwnGoes p e below _ (T14.setTop (mkF m 269 #[.val (.int p0), .val (.int p1), .val (.int p2), .val (.int p3), .val (.int p4), .val (.int p5), .val (.int (Int32.ofNat k)), .val (.ref b), .val (.int (Int32.ofNat j)), .val (.ref r), .val (.int (1 : Int32))] []))
      refine own_pre (fun _ kz_ => XS.iload X14.here hx rfl (hb hby at_269) rfl kz_) ?_
      show OwnGoes p e below _ (T14.setTop (mkF m 271 #[.val (.int p0), .val (.int p1), .val (.int p2), .val (.int p3), .val (.int p4), .val (.int p5), .val (.int (Int32.ofNat k)), .val (.ref b), .val (.int (Int32.ofNat j)), .val (.ref r), .val (.int (1 : Int32))] [(.int (1 : Int32))]))
      refine own_pre (fun _ kz_ => XS.aload X14.here hx rfl (hb hby at_271) rfl rfl kz_) ?_
      show OwnGoes p e below _ (T14.setTop (mkF m 273 #[.val (.int p0), .val (.int p1), .val (.int p2), .val (.int p3), .val (.int p4), .val (.int p5), .val (.int (Int32.ofNat k)), .val (.ref b), .val (.int (Int32.ofNat j)), .val (.ref r), .val (.int (1 : Int32))] [(.ref r), (.int (1 : Int32))]))
      refine own_pre (fun _ kz_ => XS.iconst X14.here hx rfl (hb hby at_273) kz_) ?_
      show OwnGoes p e below _ (T14.setTop (mkF m 274 #[.val (.int p0), .val (.int p1), .val (.int p2), .val (.int p3), .val (.int p4), .val (.int p5), .val (.int (Int32.ofNat k)), .val (.ref b), .val (.int (Int32.ofNat j)), .val (.ref r), .val (.int (1 : Int32))] [(.int (3 : Int32)), (.ref r), (.int (1 : Int32))]))
      refine own_pre (fun _ kz_ => XS.iload X14.here hx rfl (hb hby at_274) rfl kz_) ?_
      show OwnGoes p e below _ (T14.setTop (mkF m 276 #[.val (.int p0), .val (.int p1), .val (.int p2), .val (.int p3), .val (.int p4), .val (.int p5), .val (.int (Int32.ofNat k)), .val (.ref b), .val (.int (Int32.ofNat j)), .val (.ref r), .val (.int (1 : Int32))] [(.int (Int32.ofNat k)), (.int (3 : Int32)), (.ref r), (.int (1 : Int32))]))
      obtain ⟨_, _, ⟨T15, L15, k15, n15⟩, -, X15, ⟨Lc15, hQ15, l15, y15, z15⟩, st15⟩ := Jvm.LawKit.callS X14 hx (y := (⟨"com/example/embosser/embosser/domain/PositionsRoomPinLaw", "zeroAfter", "([III)Z"⟩ : MethodName)) hown (mvT hZ (hw _ (List.mem_of_getElem? (i := 25) rfl))) (mvT hZ (hw _ (List.mem_of_getElem? (i := 26) rfl))) (mvT hZ (hw _ (List.mem_of_getElem? (i := 20) rfl))) (mvT hZ (hw _ (List.mem_of_getElem? (i := 27) rfl))) (by decide) (backOf (W := 1) (rmZ l Z a0 hw [] r (3 : Int32) (Int32.ofNat k) (own_vs k p1 p2 p3 p4 ++ List.replicate k (.int (0 : Int32))) T1.heap n0 Z1 Vr (by decide) (by rcases hk with rfl | rfl | rfl | rfl <;> (intro q1 q2; first | rfl | exact absurd (by decide) q1 | exact absurd q2 (by first | decide | (simp [own_vs]; done) | (simp [own_vs]; decide))))) hZ (hw _ (List.mem_of_getElem? (i := 27) rfl)) (hw _ (List.mem_of_getElem? (i := 20) rfl)) (by decide) (by decide)) (g := (mkF m 276 #[.val (.int p0), .val (.int p1), .val (.int p2), .val (.int p3), .val (.int p4), .val (.int p5), .val (.int (Int32.ofNat k)), .val (.ref b), .val (.int (Int32.ofNat j)), .val (.ref r), .val (.int (1 : Int32))] [(.int (Int32.ofNat k)), (.int (3 : Int32)), (.ref r), (.int (1 : Int32))])) rfl (by rw [hml]; rfl) (argsL := [(.ref r), (.int (3 : Int32)), (.int (Int32.ofNat k))]) (rest := [(.int (1 : Int32))]) (lenOf (d := "([III)Z") (ps := [(.array .int), .int, .int]) (r := some .boolean) (by decide +kernel) rfl) rfl (by show 2 * 0 + _ ≤ _; exact Nat.le_of_eq rfl) (hb hby at_276) (fun _ _ => ⟨rfl, e14, (by decide : 2 + 0 ≤ _), (by decide : 12 + 0 ≤ _)⟩)
      dsimp only [Pt.U, Pt.locs, Pt.cells, Pt.slots] at X15 l15 y15 z15 st15 hQ15
      subst l15 y15 z15
      obtain ⟨rfl, N15q, e15⟩ := hQ15
      have N15 := Fr.app N14 N15q
      refine own_pre st15 ?_
      show OwnGoes p e below _ (T15.setTop (mkF m 279 #[.val (.int p0), .val (.int p1), .val (.int p2), .val (.int p3), .val (.int p4), .val (.int p5), .val (.int (Int32.ofNat k)), .val (.ref b), .val (.int (Int32.ofNat j)), .val (.ref r), .val (.int (1 : Int32))] [(.int (1 : Int32)), (.int (1 : Int32))]))
      refine own_pre (fun _ kz_ => XS.iand X15.here hx rfl (hb hby at_279) rfl kz_) ?_
      show OwnGoes p e below _ (T15.setTop (mkF m 280 #[.val (.int p0), .val (.int p1), .val (.int p2), .val (.int p3), .val (.int p4), .val (.int p5), .val (.int (Int32.ofNat k)), .val (.ref b), .val (.int (Int32.ofNat j)), .val (.ref r), .val (.int (1 : Int32))] [(.int ((1 : Int32) &&& (1 : Int32)))]))
      rw [show ((1 : Int32) &&& (1 : Int32)) = (1 : Int32) from by decide]
      show OwnGoes p e below _ (T15.setTop (mkF m 280 #[.val (.int p0), .val (.int p1), .val (.int p2), .val (.int p3), .val (.int p4), .val (.int p5), .val (.int (Int32.ofNat k)), .val (.ref b), .val (.int (Int32.ofNat j)), .val (.ref r), .val (.int (1 : Int32))] [(.int (1 : Int32))]))
      refine own_pre (fun _ kz_ => XS.istore X15.here hx rfl (hb hby at_280) rfl (l' := #[.val (.int p0), .val (.int p1), .val (.int p2), .val (.int p3), .val (.int p4), .val (.int p5), .val (.int (Int32.ofNat k)), .val (.ref b), .val (.int (Int32.ofNat j)), .val (.ref r), .val (.int (1 : Int32))]) rfl kz_) ?_
      show OwnGoes p e below _ (T15.setTop (mkF m 282 #[.val (.int p0), .val (.int p1), .val (.int p2), .val (.int p3), .val (.int p4), .val (.int p5), .val (.int (Int32.ofNat k)), .val (.ref b), .val (.int (Int32.ofNat j)), .val (.ref r), .val (.int (1 : Int32))] []))
      refine own_pre (fun _ kz_ => XS.iload X15.here hx rfl (hb hby at_282) rfl kz_) ?_
      show OwnGoes p e below _ (T15.setTop (mkF m 284 #[.val (.int p0), .val (.int p1), .val (.int p2), .val (.int p3), .val (.int p4), .val (.int p5), .val (.int (Int32.ofNat k)), .val (.ref b), .val (.int (Int32.ofNat j)), .val (.ref r), .val (.int (1 : Int32))] [(.int (1 : Int32))]))
      refine own_pre (fun _ kz_ => XS.aload X15.here hx rfl (hb hby at_284) rfl rfl kz_) ?_
      show OwnGoes p e below _ (T15.setTop (mkF m 286 #[.val (.int p0), .val (.int p1), .val (.int p2), .val (.int p3), .val (.int p4), .val (.int p5), .val (.int (Int32.ofNat k)), .val (.ref b), .val (.int (Int32.ofNat j)), .val (.ref r), .val (.int (1 : Int32))] [(.ref r), (.int (1 : Int32))]))
      refine own_pre (fun _ kz_ => XS.iconst X15.here hx rfl (hb hby at_286) kz_) ?_
      show OwnGoes p e below _ (T15.setTop (mkF m 287 #[.val (.int p0), .val (.int p1), .val (.int p2), .val (.int p3), .val (.int p4), .val (.int p5), .val (.int (Int32.ofNat k)), .val (.ref b), .val (.int (Int32.ofNat j)), .val (.ref r), .val (.int (1 : Int32))] [(.int (4 : Int32)), (.ref r), (.int (1 : Int32))]))
      refine own_pre (fun _ kz_ => XS.iload X15.here hx rfl (hb hby at_287) rfl kz_) ?_
      show OwnGoes p e below _ (T15.setTop (mkF m 289 #[.val (.int p0), .val (.int p1), .val (.int p2), .val (.int p3), .val (.int p4), .val (.int p5), .val (.int (Int32.ofNat k)), .val (.ref b), .val (.int (Int32.ofNat j)), .val (.ref r), .val (.int (1 : Int32))] [(.int (Int32.ofNat k)), (.int (4 : Int32)), (.ref r), (.int (1 : Int32))]))
      obtain ⟨_, _, ⟨T16, L16, k16, n16⟩, -, X16, ⟨Lc16, hQ16, l16, y16, z16⟩, st16⟩ := Jvm.LawKit.callS X15 hx (y := (⟨"com/example/embosser/embosser/domain/PositionsRoomPinLaw", "zeroAfter", "([III)Z"⟩ : MethodName)) hown (mvT hZ (hw _ (List.mem_of_getElem? (i := 25) rfl))) (mvT hZ (hw _ (List.mem_of_getElem? (i := 26) rfl))) (mvT hZ (hw _ (List.mem_of_getElem? (i := 20) rfl))) (mvT hZ (hw _ (List.mem_of_getElem? (i := 27) rfl))) (by decide) (backOf (W := 1) (rmZ l Z a0 hw [] r (4 : Int32) (Int32.ofNat k) (own_vs k p1 p2 p3 p4 ++ List.replicate k (.int (0 : Int32))) T1.heap n0 Z1 Vr (by decide) (by rcases hk with rfl | rfl | rfl | rfl <;> (intro q1 q2; first | rfl | exact absurd (by decide) q1 | exact absurd q2 (by first | decide | (simp [own_vs]; done) | (simp [own_vs]; decide))))) hZ (hw _ (List.mem_of_getElem? (i := 27) rfl)) (hw _ (List.mem_of_getElem? (i := 20) rfl)) (by decide) (by decide)) (g := (mkF m 289 #[.val (.int p0), .val (.int p1), .val (.int p2), .val (.int p3), .val (.int p4), .val (.int p5), .val (.int (Int32.ofNat k)), .val (.ref b), .val (.int (Int32.ofNat j)), .val (.ref r), .val (.int (1 : Int32))] [(.int (Int32.ofNat k)), (.int (4 : Int32)), (.ref r), (.int (1 : Int32))])) rfl (by rw [hml]; rfl) (argsL := [(.ref r), (.int (4 : Int32)), (.int (Int32.ofNat k))]) (rest := [(.int (1 : Int32))]) (lenOf (d := "([III)Z") (ps := [(.array .int), .int, .int]) (r := some .boolean) (by decide +kernel) rfl) rfl (by show 2 * 0 + _ ≤ _; exact Nat.le_of_eq rfl) (hb hby at_289) (fun _ _ => ⟨rfl, e15, (by decide : 2 + 0 ≤ _), (by decide : 12 + 0 ≤ _)⟩)
      dsimp only [Pt.U, Pt.locs, Pt.cells, Pt.slots] at X16 l16 y16 z16 st16 hQ16
      subst l16 y16 z16
      obtain ⟨rfl, N16q, e16⟩ := hQ16
      have N16 := Fr.app N15 N16q
      refine own_pre st16 ?_
      show OwnGoes p e below _ (T16.setTop (mkF m 292 #[.val (.int p0), .val (.int p1), .val (.int p2), .val (.int p3), .val (.int p4), .val (.int p5), .val (.int (Int32.ofNat k)), .val (.ref b), .val (.int (Int32.ofNat j)), .val (.ref r), .val (.int (1 : Int32))] [(.int (1 : Int32)), (.int (1 : Int32))]))
      refine own_pre (fun _ kz_ => XS.iand X16.here hx rfl (hb hby at_292) rfl kz_) ?_
      show OwnGoes p e below _ (T16.setTop (mkF m 293 #[.val (.int p0), .val (.int p1), .val (.int p2), .val (.int p3), .val (.int p4), .val (.int p5), .val (.int (Int32.ofNat k)), .val (.ref b), .val (.int (Int32.ofNat j)), .val (.ref r), .val (.int (1 : Int32))] [(.int ((1 : Int32) &&& (1 : Int32)))]))
      rw [show ((1 : Int32) &&& (1 : Int32)) = (1 : Int32) from by decide]
      show OwnGoes p e below _ (T16.setTop (mkF m 293 #[.val (.int p0), .val (.int p1), .val (.int p2), .val (.int p3), .val (.int p4), .val (.int p5), .val (.int (Int32.ofNat k)), .val (.ref b), .val (.int (Int32.ofNat j)), .val (.ref r), .val (.int (1 : Int32))] [(.int (1 : Int32))]))
      refine own_pre (fun _ kz_ => XS.istore X16.here hx rfl (hb hby at_293) rfl (l' := #[.val (.int p0), .val (.int p1), .val (.int p2), .val (.int p3), .val (.int p4), .val (.int p5), .val (.int (Int32.ofNat k)), .val (.ref b), .val (.int (Int32.ofNat j)), .val (.ref r), .val (.int (1 : Int32))]) rfl kz_) ?_
      show OwnGoes p e below _ (T16.setTop (mkF m 295 #[.val (.int p0), .val (.int p1), .val (.int p2), .val (.int p3), .val (.int p4), .val (.int p5), .val (.int (Int32.ofNat k)), .val (.ref b), .val (.int (Int32.ofNat j)), .val (.ref r), .val (.int (1 : Int32))] []))
      refine own_pre (fun _ kz_ => XS.iload X16.here hx rfl (hb hby at_295) rfl kz_) ?_
      show OwnGoes p e below _ (T16.setTop (mkF m 297 #[.val (.int p0), .val (.int p1), .val (.int p2), .val (.int p3), .val (.int p4), .val (.int p5), .val (.int (Int32.ofNat k)), .val (.ref b), .val (.int (Int32.ofNat j)), .val (.ref r), .val (.int (1 : Int32))] [(.int (1 : Int32))]))
      refine own_pre (fun _ kz_ => XS.aload X16.here hx rfl (hb hby at_297) rfl rfl kz_) ?_
      show OwnGoes p e below _ (T16.setTop (mkF m 299 #[.val (.int p0), .val (.int p1), .val (.int p2), .val (.int p3), .val (.int p4), .val (.int p5), .val (.int (Int32.ofNat k)), .val (.ref b), .val (.int (Int32.ofNat j)), .val (.ref r), .val (.int (1 : Int32))] [(.ref r), (.int (1 : Int32))]))
      refine own_pre (fun _ kz_ => XS.iconst X16.here hx rfl (hb hby at_299) kz_) ?_
      show OwnGoes p e below _ (T16.setTop (mkF m 300 #[.val (.int p0), .val (.int p1), .val (.int p2), .val (.int p3), .val (.int p4), .val (.int p5), .val (.int (Int32.ofNat k)), .val (.ref b), .val (.int (Int32.ofNat j)), .val (.ref r), .val (.int (1 : Int32))] [(.int (5 : Int32)), (.ref r), (.int (1 : Int32))]))
      refine own_pre (fun _ kz_ => XS.iload X16.here hx rfl (hb hby at_300) rfl kz_) ?_
      show OwnGoes p e below _ (T16.setTop (mkF m 302 #[.val (.int p0), .val (.int p1), .val (.int p2), .val (.int p3), .val (.int p4), .val (.int p5), .val (.int (Int32.ofNat k)), .val (.ref b), .val (.int (Int32.ofNat j)), .val (.ref r), .val (.int (1 : Int32))] [(.int (Int32.ofNat k)), (.int (5 : Int32)), (.ref r), (.int (1 : Int32))]))
      obtain ⟨_, _, ⟨T17, L17, k17, n17⟩, -, X17, ⟨Lc17, hQ17, l17, y17, z17⟩, st17⟩ := Jvm.LawKit.callS X16 hx (y := (⟨"com/example/embosser/embosser/domain/PositionsRoomPinLaw", "zeroAfter", "([III)Z"⟩ : MethodName)) hown (mvT hZ (hw _ (List.mem_of_getElem? (i := 25) rfl))) (mvT hZ (hw _ (List.mem_of_getElem? (i := 26) rfl))) (mvT hZ (hw _ (List.mem_of_getElem? (i := 20) rfl))) (mvT hZ (hw _ (List.mem_of_getElem? (i := 27) rfl))) (by decide) (backOf (W := 1) (rmZ l Z a0 hw [] r (5 : Int32) (Int32.ofNat k) (own_vs k p1 p2 p3 p4 ++ List.replicate k (.int (0 : Int32))) T1.heap n0 Z1 Vr (by decide) (by rcases hk with rfl | rfl | rfl | rfl <;> (intro q1 q2; first | rfl | exact absurd (by decide) q1 | exact absurd q2 (by first | decide | (simp [own_vs]; done) | (simp [own_vs]; decide))))) hZ (hw _ (List.mem_of_getElem? (i := 27) rfl)) (hw _ (List.mem_of_getElem? (i := 20) rfl)) (by decide) (by decide)) (g := (mkF m 302 #[.val (.int p0), .val (.int p1), .val (.int p2), .val (.int p3), .val (.int p4), .val (.int p5), .val (.int (Int32.ofNat k)), .val (.ref b), .val (.int (Int32.ofNat j)), .val (.ref r), .val (.int (1 : Int32))] [(.int (Int32.ofNat k)), (.int (5 : Int32)), (.ref r), (.int (1 : Int32))])) rfl (by rw [hml]; rfl) (argsL := [(.ref r), (.int (5 : Int32)), (.int (Int32.ofNat k))]) (rest := [(.int (1 : Int32))]) (lenOf (d := "([III)Z") (ps := [(.array .int), .int, .int]) (r := some .boolean) (by decide +kernel) rfl) rfl (by show 2 * 0 + _ ≤ _; exact Nat.le_of_eq rfl) (hb hby at_302) (fun _ _ => ⟨rfl, e16, (by decide : 2 + 0 ≤ _), (by decide : 12 + 0 ≤ _)⟩)
      dsimp only [Pt.U, Pt.locs, Pt.cells, Pt.slots] at X17 l17 y17 z17 st17 hQ17
      subst l17 y17 z17
      obtain ⟨rfl, N17q, e17⟩ := hQ17
      have N17 := Fr.app N16 N17q
      refine own_pre st17 ?_
      show OwnGoes p e below _ (T17.setTop (mkF m 305 #[.val (.int p0), .val (.int p1), .val (.int p2), .val (.int p3), .val (.int p4), .val (.int p5), .val (.int (Int32.ofNat k)), .val (.ref b), .val (.int (Int32.ofNat j)), .val (.ref r), .val (.int (1 : Int32))] [(.int (1 : Int32)), (.int (1 : Int32))]))
      refine own_pre (fun _ kz_ => XS.iand X17.here hx rfl (hb hby at_305) rfl kz_) ?_
      show OwnGoes p e below _ (T17.setTop (mkF m 306 #[.val (.int p0), .val (.int p1), .val (.int p2), .val (.int p3), .val (.int p4), .val (.int p5), .val (.int (Int32.ofNat k)), .val (.ref b), .val (.int (Int32.ofNat j)), .val (.ref r), .val (.int (1 : Int32))] [(.int ((1 : Int32) &&& (1 : Int32)))]))
      rw [show ((1 : Int32) &&& (1 : Int32)) = (1 : Int32) from by decide]
      show OwnGoes p e below _ (T17.setTop (mkF m 306 #[.val (.int p0), .val (.int p1), .val (.int p2), .val (.int p3), .val (.int p4), .val (.int p5), .val (.int (Int32.ofNat k)), .val (.ref b), .val (.int (Int32.ofNat j)), .val (.ref r), .val (.int (1 : Int32))] [(.int (1 : Int32))]))
      refine own_pre (fun _ kz_ => XS.istore X17.here hx rfl (hb hby at_306) rfl (l' := #[.val (.int p0), .val (.int p1), .val (.int p2), .val (.int p3), .val (.int p4), .val (.int p5), .val (.int (Int32.ofNat k)), .val (.ref b), .val (.int (Int32.ofNat j)), .val (.ref r), .val (.int (1 : Int32))]) rfl kz_) ?_
      show OwnGoes p e below _ (T17.setTop (mkF m 308 #[.val (.int p0), .val (.int p1), .val (.int p2), .val (.int p3), .val (.int p4), .val (.int p5), .val (.int (Int32.ofNat k)), .val (.ref b), .val (.int (Int32.ofNat j)), .val (.ref r), .val (.int (1 : Int32))] []))
      refine own_pre (fun _ kz_ => XS.iload X17.here hx rfl (hb hby at_308) rfl kz_) ?_
      show OwnGoes p e below _ (T17.setTop (mkF m 310 #[.val (.int p0), .val (.int p1), .val (.int p2), .val (.int p3), .val (.int p4), .val (.int p5), .val (.int (Int32.ofNat k)), .val (.ref b), .val (.int (Int32.ofNat j)), .val (.ref r), .val (.int (1 : Int32))] [(.int (1 : Int32))]))
      refine own_pre (fun _ kz_ => XS.aload X17.here hx rfl (hb hby at_310) rfl rfl kz_) ?_
      show OwnGoes p e below _ (T17.setTop (mkF m 312 #[.val (.int p0), .val (.int p1), .val (.int p2), .val (.int p3), .val (.int p4), .val (.int p5), .val (.int (Int32.ofNat k)), .val (.ref b), .val (.int (Int32.ofNat j)), .val (.ref r), .val (.int (1 : Int32))] [(.ref r), (.int (1 : Int32))]))
      refine own_pre (fun _ kz_ => XS.bipush X17.here hx rfl (hb hby at_312) kz_) ?_
      show OwnGoes p e below _ (T17.setTop (mkF m 314 #[.val (.int p0), .val (.int p1), .val (.int p2), .val (.int p3), .val (.int p4), .val (.int p5), .val (.int (Int32.ofNat k)), .val (.ref b), .val (.int (Int32.ofNat j)), .val (.ref r), .val (.int (1 : Int32))] [(.int (6 : Int32)), (.ref r), (.int (1 : Int32))]))
      refine own_pre (fun _ kz_ => XS.iload X17.here hx rfl (hb hby at_314) rfl kz_) ?_
      show OwnGoes p e below _ (T17.setTop (mkF m 316 #[.val (.int p0), .val (.int p1), .val (.int p2), .val (.int p3), .val (.int p4), .val (.int p5), .val (.int (Int32.ofNat k)), .val (.ref b), .val (.int (Int32.ofNat j)), .val (.ref r), .val (.int (1 : Int32))] [(.int (Int32.ofNat k)), (.int (6 : Int32)), (.ref r), (.int (1 : Int32))]))
      obtain ⟨_, _, ⟨T18, L18, k18, n18⟩, -, X18, ⟨Lc18, hQ18, l18, y18, z18⟩, st18⟩ := Jvm.LawKit.callS X17 hx (y := (⟨"com/example/embosser/embosser/domain/PositionsRoomPinLaw", "zeroAfter", "([III)Z"⟩ : MethodName)) hown (mvT hZ (hw _ (List.mem_of_getElem? (i := 25) rfl))) (mvT hZ (hw _ (List.mem_of_getElem? (i := 26) rfl))) (mvT hZ (hw _ (List.mem_of_getElem? (i := 20) rfl))) (mvT hZ (hw _ (List.mem_of_getElem? (i := 27) rfl))) (by decide) (backOf (W := 1) (rmZ l Z a0 hw [] r (6 : Int32) (Int32.ofNat k) (own_vs k p1 p2 p3 p4 ++ List.replicate k (.int (0 : Int32))) T1.heap n0 Z1 Vr (by decide) (by rcases hk with rfl | rfl | rfl | rfl <;> (intro q1 q2; first | rfl | exact absurd (by decide) q1 | exact absurd q2 (by first | decide | (simp [own_vs]; done) | (simp [own_vs]; decide))))) hZ (hw _ (List.mem_of_getElem? (i := 27) rfl)) (hw _ (List.mem_of_getElem? (i := 20) rfl)) (by decide) (by decide)) (g := (mkF m 316 #[.val (.int p0), .val (.int p1), .val (.int p2), .val (.int p3), .val (.int p4), .val (.int p5), .val (.int (Int32.ofNat k)), .val (.ref b), .val (.int (Int32.ofNat j)), .val (.ref r), .val (.int (1 : Int32))] [(.int (Int32.ofNat k)), (.int (6 : Int32)), (.ref r), (.int (1 : Int32))])) rfl (by rw [hml]; rfl) (argsL := [(.ref r), (.int (6 : Int32)), (.int (Int32.ofNat k))]) (rest := [(.int (1 : Int32))]) (lenOf (d := "([III)Z") (ps := [(.array .int), .int, .int]) (r := some .boolean) (by decide +kernel) rfl) rfl (by show 2 * 0 + _ ≤ _; exact Nat.le_of_eq rfl) (hb hby at_316) (fun _ _ => ⟨rfl, e17, (by decide : 2 + 0 ≤ _), (by decide : 12 + 0 ≤ _)⟩)
      dsimp only [Pt.U, Pt.locs, Pt.cells, Pt.slots] at X18 l18 y18 z18 st18 hQ18
      subst l18 y18 z18
      obtain ⟨rfl, N18q, e18⟩ := hQ18
      have N18 := Fr.app N17 N18q
      refine own_pre st18 ?_
      show OwnGoes p e below _ (T18.setTop (mkF m 319 #[.val (.int p0), .val (.int p1), .val (.int p2), .val (.int p3), .val (.int p4), .val (.int p5), .val (.int (Int32.ofNat k)), .val (.ref b), .val (.int (Int32.ofNat j)), .val (.ref r), .val (.int (1 : Int32))] [(.int (1 : Int32)), (.int (1 : Int32))]))
      refine own_pre (fun _ kz_ => XS.iand X18.here hx rfl (hb hby at_319) rfl kz_) ?_
      show OwnGoes p e below _ (T18.setTop (mkF m 320 #[.val (.int p0), .val (.int p1), .val (.int p2), .val (.int p3), .val (.int p4), .val (.int p5), .val (.int (Int32.ofNat k)), .val (.ref b), .val (.int (Int32.ofNat j)), .val (.ref r), .val (.int (1 : Int32))] [(.int ((1 : Int32) &&& (1 : Int32)))]))
      rw [show ((1 : Int32) &&& (1 : Int32)) = (1 : Int32) from by decide]
      show OwnGoes p e below _ (T18.setTop (mkF m 320 #[.val (.int p0), .val (.int p1), .val (.int p2), .val (.int p3), .val (.int p4), .val (.int p5), .val (.int (Int32.ofNat k)), .val (.ref b), .val (.int (Int32.ofNat j)), .val (.ref r), .val (.int (1 : Int32))] [(.int (1 : Int32))]))
      refine own_pre (fun _ kz_ => XS.istore X18.here hx rfl (hb hby at_320) rfl (l' := #[.val (.int p0), .val (.int p1), .val (.int p2), .val (.int p3), .val (.int p4), .val (.int p5), .val (.int (Int32.ofNat k)), .val (.ref b), .val (.int (Int32.ofNat j)), .val (.ref r), .val (.int (1 : Int32))]) rfl kz_) ?_
      show OwnGoes p e below _ (T18.setTop (mkF m 322 #[.val (.int p0), .val (.int p1), .val (.int p2), .val (.int p3), .val (.int p4), .val (.int p5), .val (.int (Int32.ofNat k)), .val (.ref b), .val (.int (Int32.ofNat j)), .val (.ref r), .val (.int (1 : Int32))] []))
      refine own_pre (fun _ kz_ => XS.iload X18.here hx rfl (hb hby at_322) rfl kz_) ?_
      show OwnGoes p e below _ (T18.setTop (mkF m 324 #[.val (.int p0), .val (.int p1), .val (.int p2), .val (.int p3), .val (.int p4), .val (.int p5), .val (.int (Int32.ofNat k)), .val (.ref b), .val (.int (Int32.ofNat j)), .val (.ref r), .val (.int (1 : Int32))] [(.int (1 : Int32))]))
      refine own_pre (fun _ kz_ => XS.aload X18.here hx rfl (hb hby at_324) rfl rfl kz_) ?_
      show OwnGoes p e below _ (T18.setTop (mkF m 326 #[.val (.int p0), .val (.int p1), .val (.int p2), .val (.int p3), .val (.int p4), .val (.int p5), .val (.int (Int32.ofNat k)), .val (.ref b), .val (.int (Int32.ofNat j)), .val (.ref r), .val (.int (1 : Int32))] [(.ref r), (.int (1 : Int32))]))
      refine own_pre (fun _ kz_ => XS.bipush X18.here hx rfl (hb hby at_326) kz_) ?_
      show OwnGoes p e below _ (T18.setTop (mkF m 328 #[.val (.int p0), .val (.int p1), .val (.int p2), .val (.int p3), .val (.int p4), .val (.int p5), .val (.int (Int32.ofNat k)), .val (.ref b), .val (.int (Int32.ofNat j)), .val (.ref r), .val (.int (1 : Int32))] [(.int (7 : Int32)), (.ref r), (.int (1 : Int32))]))
      refine own_pre (fun _ kz_ => XS.iload X18.here hx rfl (hb hby at_328) rfl kz_) ?_
      show OwnGoes p e below _ (T18.setTop (mkF m 330 #[.val (.int p0), .val (.int p1), .val (.int p2), .val (.int p3), .val (.int p4), .val (.int p5), .val (.int (Int32.ofNat k)), .val (.ref b), .val (.int (Int32.ofNat j)), .val (.ref r), .val (.int (1 : Int32))] [(.int (Int32.ofNat k)), (.int (7 : Int32)), (.ref r), (.int (1 : Int32))]))
      obtain ⟨_, _, ⟨T19, L19, k19, n19⟩, -, X19, ⟨Lc19, hQ19, l19, y19, z19⟩, st19⟩ := Jvm.LawKit.callS X18 hx (y := (⟨"com/example/embosser/embosser/domain/PositionsRoomPinLaw", "zeroAfter", "([III)Z"⟩ : MethodName)) hown (mvT hZ (hw _ (List.mem_of_getElem? (i := 25) rfl))) (mvT hZ (hw _ (List.mem_of_getElem? (i := 26) rfl))) (mvT hZ (hw _ (List.mem_of_getElem? (i := 20) rfl))) (mvT hZ (hw _ (List.mem_of_getElem? (i := 27) rfl))) (by decide) (backOf (W := 1) (rmZ l Z a0 hw [] r (7 : Int32) (Int32.ofNat k) (own_vs k p1 p2 p3 p4 ++ List.replicate k (.int (0 : Int32))) T1.heap n0 Z1 Vr (by decide) (by rcases hk with rfl | rfl | rfl | rfl <;> (intro q1 q2; first | rfl | exact absurd (by decide) q1 | exact absurd q2 (by first | decide | (simp [own_vs]; done) | (simp [own_vs]; decide))))) hZ (hw _ (List.mem_of_getElem? (i := 27) rfl)) (hw _ (List.mem_of_getElem? (i := 20) rfl)) (by decide) (by decide)) (g := (mkF m 330 #[.val (.int p0), .val (.int p1), .val (.int p2), .val (.int p3), .val (.int p4), .val (.int p5), .val (.int (Int32.ofNat k)), .val (.ref b), .val (.int (Int32.ofNat j)), .val (.ref r), .val (.int (1 : Int32))] [(.int (Int32.ofNat k)), (.int (7 : Int32)), (.ref r), (.int (1 : Int32))])) rfl (by rw [hml]; rfl) (argsL := [(.ref r), (.int (7 : Int32)), (.int (Int32.ofNat k))]) (rest := [(.int (1 : Int32))]) (lenOf (d := "([III)Z") (ps := [(.array .int), .int, .int]) (r := some .boolean) (by decide +kernel) rfl) rfl (by show 2 * 0 + _ ≤ _; exact Nat.le_of_eq rfl) (hb hby at_330) (fun _ _ => ⟨rfl, e18, (by decide : 2 + 0 ≤ _), (by decide : 12 + 0 ≤ _)⟩)
      dsimp only [Pt.U, Pt.locs, Pt.cells, Pt.slots] at X19 l19 y19 z19 st19 hQ19
      subst l19 y19 z19
      obtain ⟨rfl, N19q, e19⟩ := hQ19
      have N19 := Fr.app N18 N19q
      refine own_pre st19 ?_
      show OwnGoes p e below _ (T19.setTop (mkF m 333 #[.val (.int p0), .val (.int p1), .val (.int p2), .val (.int p3), .val (.int p4), .val (.int p5), .val (.int (Int32.ofNat k)), .val (.ref b), .val (.int (Int32.ofNat j)), .val (.ref r), .val (.int (1 : Int32))] [(.int (1 : Int32)), (.int (1 : Int32))]))
      refine own_pre (fun _ kz_ => XS.iand X19.here hx rfl (hb hby at_333) rfl kz_) ?_
      show OwnGoes p e below _ (T19.setTop (mkF m 334 #[.val (.int p0), .val (.int p1), .val (.int p2), .val (.int p3), .val (.int p4), .val (.int p5), .val (.int (Int32.ofNat k)), .val (.ref b), .val (.int (Int32.ofNat j)), .val (.ref r), .val (.int (1 : Int32))] [(.int ((1 : Int32) &&& (1 : Int32)))]))
      rw [show ((1 : Int32) &&& (1 : Int32)) = (1 : Int32) from by decide]
      show OwnGoes p e below _ (T19.setTop (mkF m 334 #[.val (.int p0), .val (.int p1), .val (.int p2), .val (.int p3), .val (.int p4), .val (.int p5), .val (.int (Int32.ofNat k)), .val (.ref b), .val (.int (Int32.ofNat j)), .val (.ref r), .val (.int (1 : Int32))] [(.int (1 : Int32))]))
      refine own_pre (fun _ kz_ => XS.istore X19.here hx rfl (hb hby at_334) rfl (l' := #[.val (.int p0), .val (.int p1), .val (.int p2), .val (.int p3), .val (.int p4), .val (.int p5), .val (.int (Int32.ofNat k)), .val (.ref b), .val (.int (Int32.ofNat j)), .val (.ref r), .val (.int (1 : Int32))]) rfl kz_) ?_
      show OwnGoes p e below _ (T19.setTop (mkF m 336 #[.val (.int p0), .val (.int p1), .val (.int p2), .val (.int p3), .val (.int p4), .val (.int p5), .val (.int (Int32.ofNat k)), .val (.ref b), .val (.int (Int32.ofNat j)), .val (.ref r), .val (.int (1 : Int32))] []))
      refine own_pre (fun _ kz_ => XS.iload X19.here hx rfl (hb hby at_336) rfl kz_) ?_
      show OwnGoes p e below _ (T19.setTop (mkF m 338 #[.val (.int p0), .val (.int p1), .val (.int p2), .val (.int p3), .val (.int p4), .val (.int p5), .val (.int (Int32.ofNat k)), .val (.ref b), .val (.int (Int32.ofNat j)), .val (.ref r), .val (.int (1 : Int32))] [(.int (1 : Int32))]))
      exact own_ret X19 hx Bd.returns (rfl) (Or.inl ⟨rfl, by simp, _, rfl⟩) Bd.notSynchronized (hb hby at_338) ⟨rfl, N19⟩ (by decide) (by decide)
  show OwnGoes p e below _ (s₁.setTop (mkF m 0 #[.val (.int p0), .val (.int p1), .val (.int p2), .val (.int p3), .val (.int p4), .val (.int p5), .unset, .unset, .unset, .unset, .unset] []))
  refine own_pre (fun _ kz_ => XS.iconst X0.here hx rfl (hb hby at_0) kz_) ?_
  show OwnGoes p e below _ (s₁.setTop (mkF m 1 #[.val (.int p0), .val (.int p1), .val (.int p2), .val (.int p3), .val (.int p4), .val (.int p5), .unset, .unset, .unset, .unset, .unset] [(.int (1 : Int32))]))
  refine own_pre (fun _ kz_ => XS.iloadN X0.here hx rfl (hb hby at_1) rfl kz_) ?_
  show OwnGoes p e below _ (s₁.setTop (mkF m 2 #[.val (.int p0), .val (.int p1), .val (.int p2), .val (.int p3), .val (.int p4), .val (.int p5), .unset, .unset, .unset, .unset, .unset] [(.int p0), (.int (1 : Int32))]))
  refine own_pre (fun _ kz_ => XS.iconst X0.here hx rfl (hb hby at_2) kz_) ?_
  show OwnGoes p e below _ (s₁.setTop (mkF m 3 #[.val (.int p0), .val (.int p1), .val (.int p2), .val (.int p3), .val (.int p4), .val (.int p5), .unset, .unset, .unset, .unset, .unset] [(.int (3 : Int32)), (.int p0), (.int (1 : Int32))]))
  refine own_pre (fun _ kz_ => XS.iand X0.here hx rfl (hb hby at_3) rfl kz_) ?_
  show OwnGoes p e below _ (s₁.setTop (mkF m 4 #[.val (.int p0), .val (.int p1), .val (.int p2), .val (.int p3), .val (.int p4), .val (.int p5), .unset, .unset, .unset, .unset, .unset] [(.int (p0 &&& (3 : Int32))), (.int (1 : Int32))]))
  rcases own_and3 p0 with hk | hk | hk | hk
  · rw [hk]
    show OwnGoes p e below _ (s₁.setTop (mkF m 4 #[.val (.int p0), .val (.int p1), .val (.int p2), .val (.int p3), .val (.int p4), .val (.int p5), .unset, .unset, .unset, .unset, .unset] [(.int (0 : Int32)), (.int (1 : Int32))]))
    refine own_pre (fun _ kz_ => XS.iadd X0.here hx rfl (hb hby at_4) rfl kz_) ?_
    show OwnGoes p e below _ (s₁.setTop (mkF m 5 #[.val (.int p0), .val (.int p1), .val (.int p2), .val (.int p3), .val (.int p4), .val (.int p5), .unset, .unset, .unset, .unset, .unset] [(.int ((1 : Int32) + (0 : Int32)))]))
    rw [show ((1 : Int32) + (0 : Int32)) = (1 : Int32) from by decide]
    show OwnGoes p e below _ (s₁.setTop (mkF m 5 #[.val (.int p0), .val (.int p1), .val (.int p2), .val (.int p3), .val (.int p4), .val (.int p5), .unset, .unset, .unset, .unset, .unset] [(.int (1 : Int32))]))
    refine own_pre (fun _ kz_ => XS.istore X0.here hx rfl (hb hby at_5) rfl (l' := #[.val (.int p0), .val (.int p1), .val (.int p2), .val (.int p3), .val (.int p4), .val (.int p5), .val (.int (1 : Int32)), .unset, .unset, .unset, .unset]) rfl kz_) ?_
    show OwnGoes p e below _ (s₁.setTop (mkF m 7 #[.val (.int p0), .val (.int p1), .val (.int p2), .val (.int p3), .val (.int p4), .val (.int p5), .val (.int (1 : Int32)), .unset, .unset, .unset, .unset] []))
    refine own_pre (fun _ kz_ => XS.iload X0.here hx rfl (hb hby at_7) rfl kz_) ?_
    show OwnGoes p e below _ (s₁.setTop (mkF m 9 #[.val (.int p0), .val (.int p1), .val (.int p2), .val (.int p3), .val (.int p4), .val (.int p5), .val (.int (1 : Int32)), .unset, .unset, .unset, .unset] [(.int (1 : Int32))]))
    refine own_pre (fun _ kz_ => XS.iconst X0.here hx rfl (hb hby at_9) kz_) ?_
    show OwnGoes p e below _ (s₁.setTop (mkF m 10 #[.val (.int p0), .val (.int p1), .val (.int p2), .val (.int p3), .val (.int p4), .val (.int p5), .val (.int (1 : Int32)), .unset, .unset, .unset, .unset] [(.int (1 : Int32)), (.int (1 : Int32))]))
    refine own_pre (fun _ kz_ => XS.icmpNo X0.here hx rfl (hb hby at_10) rfl (teq (by decide : (1 : Int32) = (1 : Int32))).2 kz_) ?_
    show OwnGoes p e below _ (s₁.setTop (mkF m 13 #[.val (.int p0), .val (.int p1), .val (.int p2), .val (.int p3), .val (.int p4), .val (.int p5), .val (.int (1 : Int32)), .unset, .unset, .unset, .unset] []))
    refine own_pre (fun _ kz_ => XS.iconst X0.here hx rfl (hb hby at_13) kz_) ?_
    show OwnGoes p e below _ (s₁.setTop (mkF m 14 #[.val (.int p0), .val (.int p1), .val (.int p2), .val (.int p3), .val (.int p4), .val (.int p5), .val (.int (1 : Int32)), .unset, .unset, .unset, .unset] [(.int (1 : Int32))]))
    obtain ⟨T1, h1, X1, e1, E1, V1, st1⟩ := own_newa X0 hx hZ (hw _ (List.mem_of_getElem? (i := 0) rfl)) e0 (g := (mkF m 14 #[.val (.int p0), .val (.int p1), .val (.int p2), .val (.int p3), .val (.int p4), .val (.int p5), .val (.int (1 : Int32)), .unset, .unset, .unset, .unset] [(.int (1 : Int32))])) rfl (hb hby at_14) rfl (by decide) (cap := 4) (by decide) (by decide) (by decide) (by decide)
    obtain ⟨b1, g1⟩ : ∃ z, z = h0.size := ⟨_, rfl⟩
    rw [← g1] at V1 st1
    have g_b1 : n0 ≤ b1 := Nat.le_trans Z0 (Nat.le_of_eq g1.symm)
    have sz_b1 : h0.size ≤ b1 := Nat.le_trans ((Keep.refl h0 [])).1 (Nat.le_of_eq g1.symm)
    have K1 := ((Keep.refl h0 [])).ext E1
    have Z1 := Nat.le_trans Z0 E1.1
    have Va1 : OwnA Z h1 b1 .int [(.int (0 : Int32))] := V1
    refine own_pre st1 ?_
    show OwnGoes p e below _ (T1.setTop (mkF m 16 #[.val (.int p0), .val (.int p1), .val (.int p2), .val (.int p3), .val (.int p4), .val (.int p5), .val (.int (1 : Int32)), .unset, .unset, .unset, .unset] [(.ref b1)]))
    refine own_pre (fun _ kz_ => XS.dup X1.here hx rfl (hb hby at_16) rfl rfl kz_) ?_
    show OwnGoes p e below _ (T1.setTop (mkF m 17 #[.val (.int p0), .val (.int p1), .val (.int p2), .val (.int p3), .val (.int p4), .val (.int p5), .val (.int (1 : Int32)), .unset, .unset, .unset, .unset] [(.ref b1), (.ref b1)]))
    refine own_pre (fun _ kz_ => XS.iconst X1.here hx rfl (hb hby at_17) kz_) ?_
    show OwnGoes p e below _ (T1.setTop (mkF m 18 #[.val (.int p0), .val (.int p1), .val (.int p2), .val (.int p3), .val (.int p4), .val (.int p5), .val (.int (1 : Int32)), .unset, .unset, .unset, .unset] [(.int (0 : Int32)), (.ref b1), (.ref b1)]))
    refine own_pre (fun _ kz_ => XS.iloadN X1.here hx rfl (hb hby at_18) rfl kz_) ?_
    show OwnGoes p e below _ (T1.setTop (mkF m 19 #[.val (.int p0), .val (.int p1), .val (.int p2), .val (.int p3), .val (.int p4), .val (.int p5), .val (.int (1 : Int32)), .unset, .unset, .unset, .unset] [(.int p1), (.int (0 : Int32)), (.ref b1), (.ref b1)]))
    obtain ⟨T2, h2, X2, e2, W2, V2, st2⟩ := own_ist X1 hx hZ e1 Va1 (j := (0 : Int32)) (by decide) (by show 0 < 1; decide) (g := (mkF m 19 #[.val (.int p0), .val (.int p1), .val (.int p2), .val (.int p3), .val (.int p4), .val (.int p5), .val (.int (1 : Int32)), .unset, .unset, .unset, .unset] [(.int p1), (.int (0 : Int32)), (.ref b1), (.ref b1)])) rfl rfl (hb hby at_19)
    have K2 := (K1).wr W2 (Or.inr sz_b1)
    have Z2 := Nat.le_trans Z1 (Keep.of_wr W2).1
    have Va2 : OwnA Z h2 b1 .int [(.int p1)] := V2
    have N2 := Fr.snoc X2 N0 g_b1
    refine own_pre st2 ?_
    show OwnGoes p e below _ (T2.setTop (mkF m 20 #[.val (.int p0), .val (.int p1), .val (.int p2), .val (.int p3), .val (.int p4), .val (.int p5), .val (.int (1 : Int32)), .unset, .unset, .unset, .unset] [(.ref b1)]))
    refine own_pre (fun _ kz_ => XS.astore X2.here hx rfl (hb hby at_20) rfl rfl (l' := #[.val (.int p0), .val (.int p1), .val (.int p2), .val (.int p3), .val (.int p4), .val (.int p5), .val (.int (1 : Int32)), .val (.ref b1), .unset, .unset, .unset]) rfl kz_) ?_
    show OwnGoes p e below _ (T2.setTop (mkF m 22 #[.val (.int p0), .val (.int p1), .val (.int p2), .val (.int p3), .val (.int p4), .val (.int p5), .val (.int (1 : Int32)), .val (.ref b1), .unset, .unset, .unset] []))
    refine own_pre (fun _ kz_ => XS.goto X2.here hx rfl (pc0 := 22) (pc' := 95) rfl (hb hby at_22) (by decide) (by decide) kz_) ?_
    show OwnGoes p e below _ (T2.setTop (mkF m 95 #[.val (.int p0), .val (.int p1), .val (.int p2), .val (.int p3), .val (.int p4), .val (.int p5), .val (.int (1 : Int32)), .val (.ref b1), .unset, .unset, .unset] []))
    exact J95 1 (by decide) b1 _ _ _ X2 e2 N2 Z2 Va2
  · rw [hk]
    show OwnGoes p e below _ (s₁.setTop (mkF m 4 #[.val (.int p0), .val (.int p1), .val (.int p2), .val (.int p3), .val (.int p4), .val (.int p5), .unset, .unset, .unset, .unset, .unset] [(.int (1 : Int32)), (.int (1 : Int32))]))
    refine own_pre (fun _ kz_ => XS.iadd X0.here hx rfl (hb hby at_4) rfl kz_) ?_
    show OwnGoes p e below _ (s₁.setTop (mkF m 5 #[.val (.int p0), .val (.int p1), .val (.int p2), .val (.int p3), .val (.int p4), .val (.int p5), .unset, .unset, .unset, .unset, .unset] [(.int ((1 : Int32) + (1 : Int32)))]))
    rw [show ((1 : Int32) + (1 : Int32)) = (2 : Int32) from by decide]
    show OwnGoes p e below _ (s₁.setTop (mkF m 5 #[.val (.int p0), .val (.int p1), .val (.int p2), .val (.int p3), .val (.int p4), .val (.int p5), .unset, .unset, .unset, .unset, .unset] [(.int (2 : Int32))]))
    refine own_pre (fun _ kz_ => XS.istore X0.here hx rfl (hb hby at_5) rfl (l' := #[.val (.int p0), .val (.int p1), .val (.int p2), .val (.int p3), .val (.int p4), .val (.int p5), .val (.int (2 : Int32)), .unset, .unset, .unset, .unset]) rfl kz_) ?_
    show OwnGoes p e below _ (s₁.setTop (mkF m 7 #[.val (.int p0), .val (.int p1), .val (.int p2), .val (.int p3), .val (.int p4), .val (.int p5), .val (.int (2 : Int32)), .unset, .unset, .unset, .unset] []))
    refine own_pre (fun _ kz_ => XS.iload X0.here hx rfl (hb hby at_7) rfl kz_) ?_
    show OwnGoes p e below _ (s₁.setTop (mkF m 9 #[.val (.int p0), .val (.int p1), .val (.int p2), .val (.int p3), .val (.int p4), .val (.int p5), .val (.int (2 : Int32)), .unset, .unset, .unset, .unset] [(.int (2 : Int32))]))
    refine own_pre (fun _ kz_ => XS.iconst X0.here hx rfl (hb hby at_9) kz_) ?_
    show OwnGoes p e below _ (s₁.setTop (mkF m 10 #[.val (.int p0), .val (.int p1), .val (.int p2), .val (.int p3), .val (.int p4), .val (.int p5), .val (.int (2 : Int32)), .unset, .unset, .unset, .unset] [(.int (1 : Int32)), (.int (2 : Int32))]))
    refine own_pre (fun _ kz_ => XS.icmpYes X0.here hx rfl (pc0 := 10) (pc' := 25) rfl (hb hby at_10) rfl (feq (by decide : ¬ ((2 : Int32) = (1 : Int32)))).2 (by decide) (by decide) kz_) ?_
    show OwnGoes p e below _ (s₁.setTop (mkF m 25 #[.val (.int p0), .val (.int p1), .val (.int p2), .val (.int p3), .val (.int p4), .val (.int p5), .val (.int (2 : Int32)), .unset, .unset, .unset, .unset] []))
    refine own_pre (fun _ kz_ => XS.iload X0.here hx rfl (hb hby at_25) rfl kz_) ?_
    show OwnGoes p e below _ (s₁.setTop (mkF m 27 #[.val (.int p0), .val (.int p1), .val (.int p2), .val (.int p3), .val (.int p4), .val (.int p5), .val (.int (2 : Int32)), .unset, .unset, .unset, .unset] [(.int (2 : Int32))]))
    refine own_pre (fun _ kz_ => XS.iconst X0.here hx rfl (hb hby at_27) kz_) ?_
    show OwnGoes p e below _ (s₁.setTop (mkF m 28 #[.val (.int p0), .val (.int p1), .val (.int p2), .val (.int p3), .val (.int p4), .val (.int p5), .val (.int (2 : Int32)), .unset, .unset, .unset, .unset] [(.int (2 : Int32)), (.int (2 : Int32))]))
    refine own_pre (fun _ kz_ => XS.icmpNo X0.here hx rfl (hb hby at_28) rfl (teq (by decide : (2 : Int32) = (2 : Int32))).2 kz_) ?_
    show OwnGoes p e below _ (s₁.setTop (mkF m 31 #[.val (.int p0), .val (.int p1), .val (.int p2), .val (.int p3), .val (.int p4), .val (.int p5), .val (.int (2 : Int32)), .unset, .unset, .unset, .unset] []))
    refine own_pre (fun _ kz_ => XS.iconst X0.here hx rfl (hb hby at_31) kz_) ?_
    show OwnGoes p e below _ (s₁.setTop (mkF m 32 #[.val (.int p0), .val (.int p1), .val (.int p2), .val (.int p3), .val (.int p4), .val (.int p5), .val (.int (2 : Int32)), .unset, .unset, .unset, .unset] [(.int (2 : Int32))]))
    obtain ⟨T3, h3, X3, e3, E3, V3, st3⟩ := own_newa X0 hx hZ (hw _ (List.mem_of_getElem? (i := 0) rfl)) e0 (g := (mkF m 32 #[.val (.int p0), .val (.int p1), .val (.int p2), .val (.int p3), .val (.int p4), .val (.int p5), .val (.int (2 : Int32)), .unset, .unset, .unset, .unset] [(.int (2 : Int32))])) rfl (hb hby at_32) rfl (by decide) (cap := 4) (by decide) (by decide) (by decide) (by decide)
    obtain ⟨b3, g3⟩ : ∃ z, z = h0.size := ⟨_, rfl⟩
    rw [← g3] at V3 st3
    have g_b3 : n0 ≤ b3 := Nat.le_trans Z0 (Nat.le_of_eq g3.symm)
    have sz_b3 : h0.size ≤ b3 := Nat.le_trans ((Keep.refl h0 [])).1 (Nat.le_of_eq g3.symm)
    have K3 := ((Keep.refl h0 [])).ext E3
    have Z3 := Nat.le_trans Z0 E3.1
    have Va3 : OwnA Z h3 b3 .int [(.int (0 : Int32)), (.int (0 : Int32))] := V3
    refine own_pre st3 ?_
    show OwnGoes p e below _ (T3.setTop (mkF m 34 #[.val (.int p0), .val (.int p1), .val (.int p2), .val (.int p3), .val (.int p4), .val (.int p5), .val (.int (2 : Int32)), .unset, .unset, .unset, .unset] [(.ref b3)]))
    refine own_pre (fun _ kz_ => XS.dup X3.here hx rfl (hb hby at_34) rfl rfl kz_) ?_
    show OwnGoes p e below _ (T3.setTop (mkF m 35 #[.val (.int p0), .val (.int p1), .val (.int p2), .val (.int p3), .val (.int p4), .val (.int p5), .val (.int (2 : Int32)), .unset, .unset, .unset, .unset] [(.ref b3), (.ref b3)]))
    refine own_pre (fun _ kz_ => XS.iconst X3.here hx rfl (hb hby at_35) kz_) ?_
    show OwnGoes p e below _ (T3.setTop (mkF m 36 #[.val (.int p0), .val (.int p1), .val (.int p2), .val (.int p3), .val (.int p4), .val (.int p5), .val (.int (2 : Int32)), .unset, .unset, .unset, .unset] [(.int (0 : Int32)), (.ref b3), (.ref b3)]))
    refine own_pre (fun _ kz_ => XS.iloadN X3.here hx rfl (hb hby at_36) rfl kz_) ?_
    show OwnGoes p e below _ (T3.setTop (mkF m 37 #[.val (.int p0), .val (.int p1), .val (.int p2), .val (.int p3), .val (.int p4), .val (.int p5), .val (.int (2 : Int32)), .unset, .unset, .unset, .unset] [(.int p1), (.int (0 : Int32)), (.ref b3), (.ref b3)]))
    obtain ⟨T4, h4, X4, e4, W4, V4, st4⟩ := own_ist X3 hx hZ e3 Va3 (j := (0 : Int32)) (by decide) (by show 0 < 2; decide) (g := (mkF m 37 #[.val (.int p0), .val (.int p1), .val (.int p2), .val (.int p3), .val (.int p4), .val (.int p5), .val (.int (2 : Int32)), .unset, .unset, .unset, .unset] [(.int p1), (.int (0 : Int32)), (.ref b3), (.ref b3)])) rfl rfl (hb hby at_37)
    have K4 := (K3).wr W4 (Or.inr sz_b3)
    have Z4 := Nat.le_trans Z3 (Keep.of_wr W4).1
    have Va4 : OwnA Z h4 b3 .int [(.int p1), (.int (0 : Int32))] := V4
    have N4 := Fr.snoc X4 N0 g_b3
    refine own_pre st4 ?_
    show OwnGoes p e below _ (T4.setTop (mkF m 38 #[.val (.int p0), .val (.int p1), .val (.int p2), .val (.int p3), .val (.int p4), .val (.int p5), .val (.int (2 : Int32)), .unset, .unset, .unset, .unset] [(.ref b3)]))
    refine own_pre (fun _ kz_ => XS.dup X4.here hx rfl (hb hby at_38) rfl rfl kz_) ?_
    show OwnGoes p e below _ (T4.setTop (mkF m 39 #[.val (.int p0), .val (.int p1), .val (.int p2), .val (.int p3), .val (.int p4), .val (.int p5), .val (.int (2 : Int32)), .unset, .unset, .unset, .unset] [(.ref b3), (.ref b3)]))
    refine own_pre (fun _ kz_ => XS.iconst X4.here hx rfl (hb hby at_39) kz_) ?_
    show OwnGoes p e below _ (T4.setTop (mkF m 40 #[.val (.int p0), .val (.int p1), .val (.int p2), .val (.int p3), .val (.int p4), .val (.int p5), .val (.int (2 : Int32)), .unset, .unset, .unset, .unset] [(.int (1 : Int32)), (.ref b3), (.ref b3)]))
    refine own_pre (fun _ kz_ => XS.iloadN X4.here hx rfl (hb hby at_40) rfl kz_) ?_
    show OwnGoes p e below _ (T4.setTop (mkF m 41 #[.val (.int p0), .val (.int p1), .val (.int p2), .val (.int p3), .val (.int p4), .val (.int p5), .val (.int (2 : Int32)), .unset, .unset, .unset, .unset] [(.int p2), (.int (1 : Int32)), (.ref b3), (.ref b3)]))
    obtain ⟨T5, h5, X5, e5, W5, V5, st5⟩ := own_ist X4 hx hZ e4 Va4 (j := (1 : Int32)) (by decide) (by show 1 < 2; decide) (g := (mkF m 41 #[.val (.int p0), .val (.int p1), .val (.int p2), .val (.int p3), .val (.int p4), .val (.int p5), .val (.int (2 : Int32)), .unset, .unset, .unset, .unset] [(.int p2), (.int (1 : Int32)), (.ref b3), (.ref b3)])) rfl rfl (hb hby at_41)
    have K5 := (K4).wr W5 (Or.inr sz_b3)
    have Z5 := Nat.le_trans Z4 (Keep.of_wr W5).1
    have Va5 : OwnA Z h5 b3 .int [(.int p1), (.int p2)] := V5
    have N5 := Fr.snoc X5 N4 g_b3
    refine own_pre st5 ?_
    show OwnGoes p e below _ (T5.setTop (mkF m 42 #[.val (.int p0), .val (.int p1), .val (.int p2), .val (.int p3), .val (.int p4), .val (.int p5), .val (.int (2 : Int32)), .unset, .unset, .unset, .unset] [(.ref b3)]))
    refine own_pre (fun _ kz_ => XS.astore X5.here hx rfl (hb hby at_42) rfl rfl (l' := #[.val (.int p0), .val (.int p1), .val (.int p2), .val (.int p3), .val (.int p4), .val (.int p5), .val (.int (2 : Int32)), .val (.ref b3), .unset, .unset, .unset]) rfl kz_) ?_
    show OwnGoes p e below _ (T5.setTop (mkF m 44 #[.val (.int p0), .val (.int p1), .val (.int p2), .val (.int p3), .val (.int p4), .val (.int p5), .val (.int (2 : Int32)), .val (.ref b3), .unset, .unset, .unset] []))
    refine own_pre (fun _ kz_ => XS.goto X5.here hx rfl (pc0 := 44) (pc' := 95) rfl (hb hby at_44) (by decide) (by decide) kz_) ?_
    show OwnGoes p e below _ (T5.setTop (mkF m 95 #[.val (.int p0), .val (.int p1), .val (.int p2), .val (.int p3), .val (.int p4), .val (.int p5), .val (.int (2 : Int32)), .val (.ref b3), .unset, .unset, .unset] []))
    exact J95 2 (by decide) b3 _ _ _ X5 e5 N5 Z5 Va5
  · rw [hk]
    show OwnGoes p e below _ (s₁.setTop (mkF m 4 #[.val (.int p0), .val (.int p1), .val (.int p2), .val (.int p3), .val (.int p4), .val (.int p5), .unset, .unset, .unset, .unset, .unset] [(.int (2 : Int32)), (.int (1 : Int32))]))
    refine own_pre (fun _ kz_ => XS.iadd X0.here hx rfl (hb hby at_4) rfl kz_) ?_
    show OwnGoes p e below _ (s₁.setTop (mkF m 5 #[.val (.int p0), .val (.int p1), .val (.int p2), .val (.int p3), .val (.int p4), .val (.int p5), .unset, .unset, .unset, .unset, .unset] [(.int ((1 : Int32) + (2 : Int32)))]))
    rw [show ((1 : Int32) + (2 : Int32)) = (3 : Int32) from by decide]
    show OwnGoes p e below _ (s₁.setTop (mkF m 5 #[.val (.int p0), .val (.int p1), .val (.int p2), .val (.int p3), .val (.int p4), .val (.int p5), .unset, .unset, .unset, .unset, .unset] [(.int (3 : Int32))]))
    refine own_pre (fun _ kz_ => XS.istore X0.here hx rfl (hb hby at_5) rfl (l' := #[.val (.int p0), .val (.int p1), .val (.int p2), .val (.int p3), .val (.int p4), .val (.int p5), .val (.int (3 : Int32)), .unset, .unset, .unset, .unset]) rfl kz_) ?_
    show OwnGoes p e below _ (s₁.setTop (mkF m 7 #[.val (.int p0), .val (.int p1), .val (.int p2), .val (.int p3), .val (.int p4), .val (.int p5), .val (.int (3 : Int32)), .unset, .unset, .unset, .unset] []))
    refine own_pre (fun _ kz_ => XS.iload X0.here hx rfl (hb hby at_7) rfl kz_) ?_
    show OwnGoes p e below _ (s₁.setTop (mkF m 9 #[.val (.int p0), .val (.int p1), .val (.int p2), .val (.int p3), .val (.int p4), .val (.int p5), .val (.int (3 : Int32)), .unset, .unset, .unset, .unset] [(.int (3 : Int32))]))
    refine own_pre (fun _ kz_ => XS.iconst X0.here hx rfl (hb hby at_9) kz_) ?_
    show OwnGoes p e below _ (s₁.setTop (mkF m 10 #[.val (.int p0), .val (.int p1), .val (.int p2), .val (.int p3), .val (.int p4), .val (.int p5), .val (.int (3 : Int32)), .unset, .unset, .unset, .unset] [(.int (1 : Int32)), (.int (3 : Int32))]))
    refine own_pre (fun _ kz_ => XS.icmpYes X0.here hx rfl (pc0 := 10) (pc' := 25) rfl (hb hby at_10) rfl (feq (by decide : ¬ ((3 : Int32) = (1 : Int32)))).2 (by decide) (by decide) kz_) ?_
    show OwnGoes p e below _ (s₁.setTop (mkF m 25 #[.val (.int p0), .val (.int p1), .val (.int p2), .val (.int p3), .val (.int p4), .val (.int p5), .val (.int (3 : Int32)), .unset, .unset, .unset, .unset] []))
    refine own_pre (fun _ kz_ => XS.iload X0.here hx rfl (hb hby at_25) rfl kz_) ?_
    show OwnGoes p e below _ (s₁.setTop (mkF m 27 #[.val (.int p0), .val (.int p1), .val (.int p2), .val (.int p3), .val (.int p4), .val (.int p5), .val (.int (3 : Int32)), .unset, .unset, .unset, .unset] [(.int (3 : Int32))]))
    refine own_pre (fun _ kz_ => XS.iconst X0.here hx rfl (hb hby at_27) kz_) ?_
    show OwnGoes p e below _ (s₁.setTop (mkF m 28 #[.val (.int p0), .val (.int p1), .val (.int p2), .val (.int p3), .val (.int p4), .val (.int p5), .val (.int (3 : Int32)), .unset, .unset, .unset, .unset] [(.int (2 : Int32)), (.int (3 : Int32))]))
    refine own_pre (fun _ kz_ => XS.icmpYes X0.here hx rfl (pc0 := 28) (pc' := 47) rfl (hb hby at_28) rfl (feq (by decide : ¬ ((3 : Int32) = (2 : Int32)))).2 (by decide) (by decide) kz_) ?_
    show OwnGoes p e below _ (s₁.setTop (mkF m 47 #[.val (.int p0), .val (.int p1), .val (.int p2), .val (.int p3), .val (.int p4), .val (.int p5), .val (.int (3 : Int32)), .unset, .unset, .unset, .unset] []))
    refine own_pre (fun _ kz_ => XS.iload X0.here hx rfl (hb hby at_47) rfl kz_) ?_
    show OwnGoes p e below _ (s₁.setTop (mkF m 49 #[.val (.int p0), .val (.int p1), .val (.int p2), .val (.int p3), .val (.int p4), .val (.int p5), .val (.int (3 : Int32)), .unset, .unset, .unset, .unset] [(.int (3 : Int32))]))
    refine own_pre (fun _ kz_ => XS.iconst X0.here hx rfl (hb hby at_49) kz_) ?_
    show OwnGoes p e below _ (s₁.setTop (mkF m 50 #[.val (.int p0), .val (.int p1), .val (.int p2), .val (.int p3), .val (.int p4), .val (.int p5), .val (.int (3 : Int32)), .unset, .unset, .unset, .unset] [(.int (3 : Int32)), (.int (3 : Int32))]))
    refine own_pre (fun _ kz_ => XS.icmpNo X0.here hx rfl (hb hby at_50) rfl (teq (by decide : (3 : Int32) = (3 : Int32))).2 kz_) ?_
    show OwnGoes p e below _ (s₁.setTop (mkF m 53 #[.val (.int p0), .val (.int p1), .val (.int p2), .val (.int p3), .val (.int p4), .val (.int p5), .val (.int (3 : Int32)), .unset, .unset, .unset, .unset] []))
    refine own_pre (fun _ kz_ => XS.iconst X0.here hx rfl (hb hby at_53) kz_) ?_
    show OwnGoes p e below _ (s₁.setTop (mkF m 54 #[.val (.int p0), .val (.int p1), .val (.int p2), .val (.int p3), .val (.int p4), .val (.int p5), .val (.int (3 : Int32)), .unset, .unset, .unset, .unset] [(.int (3 : Int32))]))
    obtain ⟨T6, h6, X6, e6, E6, V6, st6⟩ := own_newa X0 hx hZ (hw _ (List.mem_of_getElem? (i := 0) rfl)) e0 (g := (mkF m 54 #[.val (.int p0), .val (.int p1), .val (.int p2), .val (.int p3), .val (.int p4), .val (.int p5), .val (.int (3 : Int32)), .unset, .unset, .unset, .unset] [(.int (3 : Int32))])) rfl (hb hby at_54) rfl (by decide) (cap := 4) (by decide) (by decide) (by decide) (by decide)
    obtain ⟨b6, g6⟩ : ∃ z, z = h0.size := ⟨_, rfl⟩
    rw [← g6] at V6 st6
    have g_b6 : n0 ≤ b6 := Nat.le_trans Z0 (Nat.le_of_eq g6.symm)
    have sz_b6 : h0.size ≤ b6 := Nat.le_trans ((Keep.refl h0 [])).1 (Nat.le_of_eq g6.symm)
    have K6 := ((Keep.refl h0 [])).ext E6
    have Z6 := Nat.le_trans Z0 E6.1
    have Va6 : OwnA Z h6 b6 .int [(.int (0 : Int32)), (.int (0 : Int32)), (.int (0 : Int32))] := V6
    refine own_pre st6 ?_
    show OwnGoes p e below _ (T6.setTop (mkF m 56 #[.val (.int p0), .val (.int p1), .val (.int p2), .val (.int p3), .val (.int p4), .val (.int p5), .val (.int (3 : Int32)), .unset, .unset, .unset, .unset] [(.ref b6)]))
    refine own_pre (fun _ kz_ => XS.dup X6.here hx rfl (hb hby at_56) rfl rfl kz_) ?_
    show OwnGoes p e below _ (T6.setTop (mkF m 57 #[.val (.int p0), .val (.int p1), .val (.int p2), .val (.int p3), .val (.int p4), .val (.int p5), .val (.int (3 : Int32)), .unset, .unset, .unset, .unset] [(.ref b6), (.ref b6)]))
    refine own_pre (fun _ kz_ => XS.iconst X6.here hx rfl (hb hby at_57) kz_) ?_
    show OwnGoes p e below _ (T6.setTop (mkF m 58 #[.val (.int p0), .val (.int p1), .val (.int p2), .val (.int p3), .val (.int p4), .val (.int p5), .val (.int (3 : Int32)), .unset, .unset, .unset, .unset] [(.int (0 : Int32)), (.ref b6), (.ref b6)]))
    refine own_pre (fun _ kz_ => XS.iloadN X6.here hx rfl (hb hby at_58) rfl kz_) ?_
    show OwnGoes p e below _ (T6.setTop (mkF m 59 #[.val (.int p0), .val (.int p1), .val (.int p2), .val (.int p3), .val (.int p4), .val (.int p5), .val (.int (3 : Int32)), .unset, .unset, .unset, .unset] [(.int p1), (.int (0 : Int32)), (.ref b6), (.ref b6)]))
    obtain ⟨T7, h7, X7, e7, W7, V7, st7⟩ := own_ist X6 hx hZ e6 Va6 (j := (0 : Int32)) (by decide) (by show 0 < 3; decide) (g := (mkF m 59 #[.val (.int p0), .val (.int p1), .val (.int p2), .val (.int p3), .val (.int p4), .val (.int p5), .val (.int (3 : Int32)), .unset, .unset, .unset, .unset] [(.int p1), (.int (0 : Int32)), (.ref b6), (.ref b6)])) rfl rfl (hb hby at_59)
    have K7 := (K6).wr W7 (Or.inr sz_b6)
    have Z7 := Nat.le_trans Z6 (Keep.of_wr W7).1
    have Va7 : OwnA Z h7 b6 .int [(.int p1), (.int (0 : Int32)), (.int (0 : Int32))] := V7
    have N7 := Fr.snoc X7 N0 g_b6
    refine own_pre st7 ?_
    show OwnGoes p e below _ (T7.setTop (mkF m 60 #[.val (.int p0), .val (.int p1), .val (.int p2), .val (.int p3), .val (.int p4), .val (.int p5), .val (.int (3 : Int32)), .unset, .unset, .unset, .unset] [(.ref b6)]))
    refine own_pre (fun _ kz_ => XS.dup X7.here hx rfl (hb hby at_60) rfl rfl kz_) ?_
    show OwnGoes p e below _ (T7.setTop (mkF m 61 #[.val (.int p0), .val (.int p1), .val (.int p2), .val (.int p3), .val (.int p4), .val (.int p5), .val (.int (3 : Int32)), .unset, .unset, .unset, .unset] [(.ref b6), (.ref b6)]))
    refine own_pre (fun _ kz_ => XS.iconst X7.here hx rfl (hb hby at_61) kz_) ?_
    show OwnGoes p e below _ (T7.setTop (mkF m 62 #[.val (.int p0), .val (.int p1), .val (.int p2), .val (.int p3), .val (.int p4), .val (.int p5), .val (.int (3 : Int32)), .unset, .unset, .unset, .unset] [(.int (1 : Int32)), (.ref b6), (.ref b6)]))
    refine own_pre (fun _ kz_ => XS.iloadN X7.here hx rfl (hb hby at_62) rfl kz_) ?_
    show OwnGoes p e below _ (T7.setTop (mkF m 63 #[.val (.int p0), .val (.int p1), .val (.int p2), .val (.int p3), .val (.int p4), .val (.int p5), .val (.int (3 : Int32)), .unset, .unset, .unset, .unset] [(.int p2), (.int (1 : Int32)), (.ref b6), (.ref b6)]))
    obtain ⟨T8, h8, X8, e8, W8, V8, st8⟩ := own_ist X7 hx hZ e7 Va7 (j := (1 : Int32)) (by decide) (by show 1 < 3; decide) (g := (mkF m 63 #[.val (.int p0), .val (.int p1), .val (.int p2), .val (.int p3), .val (.int p4), .val (.int p5), .val (.int (3 : Int32)), .unset, .unset, .unset, .unset] [(.int p2), (.int (1 : Int32)), (.ref b6), (.ref b6)])) rfl rfl (hb hby at_63)
    have K8 := (K7).wr W8 (Or.inr sz_b6)
    have Z8 := Nat.le_trans Z7 (Keep.of_wr W8).1
    have Va8 : OwnA Z h8 b6 .int [(.int p1), (.int p2), (.int (0 : Int32))] := V8
    have N8 := Fr.snoc X8 N7 g_b6
    refine own_pre st8 ?_
    show OwnGoes p e below _ (T8.setTop (mkF m 64 #[.val (.int p0), .val (.int p1), .val (.int p2), .val (.int p3), .val (.int p4), .val (.int p5), .val (.int (3 : Int32)), .unset, .unset, .unset, .unset] [(.ref b6)]))
    refine own_pre (fun _ kz_ => XS.dup X8.here hx rfl (hb hby at_64) rfl rfl kz_) ?_
    show OwnGoes p e below _ (T8.setTop (mkF m 65 #[.val (.int p0), .val (.int p1), .val (.int p2), .val (.int p3), .val (.int p4), .val (.int p5), .val (.int (3 : Int32)), .unset, .unset, .unset, .unset] [(.ref b6), (.ref b6)]))
    refine own_pre (fun _ kz_ => XS.iconst X8.here hx rfl (hb hby at_65) kz_) ?_
    show OwnGoes p e below _ (T8.setTop (mkF m 66 #[.val (.int p0), .val (.int p1), .val (.int p2), .val (.int p3), .val (.int p4), .val (.int p5), .val (.int (3 : Int32)), .unset, .unset, .unset, .unset] [(.int (2 : Int32)), (.ref b6), (.ref b6)]))
    refine own_pre (fun _ kz_ => XS.iloadN X8.here hx rfl (hb hby at_66) rfl kz_) ?_
    show OwnGoes p e below _ (T8.setTop (mkF m 67 #[.val (.int p0), .val (.int p1), .val (.int p2), .val (.int p3), .val (.int p4), .val (.int p5), .val (.int (3 : Int32)), .unset, .unset, .unset, .unset] [(.int p3), (.int (2 : Int32)), (.ref b6), (.ref b6)]))
    obtain ⟨T9, h9, X9, e9, W9, V9, st9⟩ := own_ist X8 hx hZ e8 Va8 (j := (2 : Int32)) (by decide) (by show 2 < 3; decide) (g := (mkF m 67 #[.val (.int p0), .val (.int p1), .val (.int p2), .val (.int p3), .val (.int p4), .val (.int p5), .val (.int (3 : Int32)), .unset, .unset, .unset, .unset] [(.int p3), (.int (2 : Int32)), (.ref b6), (.ref b6)])) rfl rfl (hb hby at_67)
    have K9 := (K8).wr W9 (Or.inr sz_b6)
    have Z9 := Nat.le_trans Z8 (Keep.of_wr W9).1
    have Va9 : OwnA Z h9 b6 .int [(.int p1), (.int p2), (.int p3)] := V9
    have N9 := Fr.snoc X9 N8 g_b6
    refine own_pre st9 ?_
    show OwnGoes p e below _ (T9.setTop (mkF m 68 #[.val (.int p0), .val (.int p1), .val (.int p2), .val (.int p3), .val (.int p4), .val (.int p5), .val (.int (3 : Int32)), .unset, .unset, .unset, .unset] [(.ref b6)]))
    refine own_pre (fun _ kz_ => XS.astore X9.here hx rfl (hb hby at_68) rfl rfl (l' := #[.val (.int p0), .val (.int p1), .val (.int p2), .val (.int p3), .val (.int p4), .val (.int p5), .val (.int (3 : Int32)), .val (.ref b6), .unset, .unset, .unset]) rfl kz_) ?_
    show OwnGoes p e below _ (T9.setTop (mkF m 70 #[.val (.int p0), .val (.int p1), .val (.int p2), .val (.int p3), .val (.int p4), .val (.int p5), .val (.int (3 : Int32)), .val (.ref b6), .unset, .unset, .unset] []))
    refine own_pre (fun _ kz_ => XS.goto X9.here hx rfl (pc0 := 70) (pc' := 95) rfl (hb hby at_70) (by decide) (by decide) kz_) ?_
    show OwnGoes p e below _ (T9.setTop (mkF m 95 #[.val (.int p0), .val (.int p1), .val (.int p2), .val (.int p3), .val (.int p4), .val (.int p5), .val (.int (3 : Int32)), .val (.ref b6), .unset, .unset, .unset] []))
    exact J95 3 (by decide) b6 _ _ _ X9 e9 N9 Z9 Va9
  · rw [hk]
    show OwnGoes p e below _ (s₁.setTop (mkF m 4 #[.val (.int p0), .val (.int p1), .val (.int p2), .val (.int p3), .val (.int p4), .val (.int p5), .unset, .unset, .unset, .unset, .unset] [(.int (3 : Int32)), (.int (1 : Int32))]))
    refine own_pre (fun _ kz_ => XS.iadd X0.here hx rfl (hb hby at_4) rfl kz_) ?_
    show OwnGoes p e below _ (s₁.setTop (mkF m 5 #[.val (.int p0), .val (.int p1), .val (.int p2), .val (.int p3), .val (.int p4), .val (.int p5), .unset, .unset, .unset, .unset, .unset] [(.int ((1 : Int32) + (3 : Int32)))]))
    rw [show ((1 : Int32) + (3 : Int32)) = (4 : Int32) from by decide]
    show OwnGoes p e below _ (s₁.setTop (mkF m 5 #[.val (.int p0), .val (.int p1), .val (.int p2), .val (.int p3), .val (.int p4), .val (.int p5), .unset, .unset, .unset, .unset, .unset] [(.int (4 : Int32))]))
    refine own_pre (fun _ kz_ => XS.istore X0.here hx rfl (hb hby at_5) rfl (l' := #[.val (.int p0), .val (.int p1), .val (.int p2), .val (.int p3), .val (.int p4), .val (.int p5), .val (.int (4 : Int32)), .unset, .unset, .unset, .unset]) rfl kz_) ?_
    show OwnGoes p e below _ (s₁.setTop (mkF m 7 #[.val (.int p0), .val (.int p1), .val (.int p2), .val (.int p3), .val (.int p4), .val (.int p5), .val (.int (4 : Int32)), .unset, .unset, .unset, .unset] []))
    refine own_pre (fun _ kz_ => XS.iload X0.here hx rfl (hb hby at_7) rfl kz_) ?_
    show OwnGoes p e below _ (s₁.setTop (mkF m 9 #[.val (.int p0), .val (.int p1), .val (.int p2), .val (.int p3), .val (.int p4), .val (.int p5), .val (.int (4 : Int32)), .unset, .unset, .unset, .unset] [(.int (4 : Int32))]))
    refine own_pre (fun _ kz_ => XS.iconst X0.here hx rfl (hb hby at_9) kz_) ?_
    show OwnGoes p e below _ (s₁.setTop (mkF m 10 #[.val (.int p0), .val (.int p1), .val (.int p2), .val (.int p3), .val (.int p4), .val (.int p5), .val (.int (4 : Int32)), .unset, .unset, .unset, .unset] [(.int (1 : Int32)), (.int (4 : Int32))]))
    refine own_pre (fun _ kz_ => XS.icmpYes X0.here hx rfl (pc0 := 10) (pc' := 25) rfl (hb hby at_10) rfl (feq (by decide : ¬ ((4 : Int32) = (1 : Int32)))).2 (by decide) (by decide) kz_) ?_
    show OwnGoes p e below _ (s₁.setTop (mkF m 25 #[.val (.int p0), .val (.int p1), .val (.int p2), .val (.int p3), .val (.int p4), .val (.int p5), .val (.int (4 : Int32)), .unset, .unset, .unset, .unset] []))
    refine own_pre (fun _ kz_ => XS.iload X0.here hx rfl (hb hby at_25) rfl kz_) ?_
    show OwnGoes p e below _ (s₁.setTop (mkF m 27 #[.val (.int p0), .val (.int p1), .val (.int p2), .val (.int p3), .val (.int p4), .val (.int p5), .val (.int (4 : Int32)), .unset, .unset, .unset, .unset] [(.int (4 : Int32))]))
    refine own_pre (fun _ kz_ => XS.iconst X0.here hx rfl (hb hby at_27) kz_) ?_
    show OwnGoes p e below _ (s₁.setTop (mkF m 28 #[.val (.int p0), .val (.int p1), .val (.int p2), .val (.int p3), .val (.int p4), .val (.int p5), .val (.int (4 : Int32)), .unset, .unset, .unset, .unset] [(.int (2 : Int32)), (.int (4 : Int32))]))
    refine own_pre (fun _ kz_ => XS.icmpYes X0.here hx rfl (pc0 := 28) (pc' := 47) rfl (hb hby at_28) rfl (feq (by decide : ¬ ((4 : Int32) = (2 : Int32)))).2 (by decide) (by decide) kz_) ?_
    show OwnGoes p e below _ (s₁.setTop (mkF m 47 #[.val (.int p0), .val (.int p1), .val (.int p2), .val (.int p3), .val (.int p4), .val (.int p5), .val (.int (4 : Int32)), .unset, .unset, .unset, .unset] []))
    refine own_pre (fun _ kz_ => XS.iload X0.here hx rfl (hb hby at_47) rfl kz_) ?_
    show OwnGoes p e below _ (s₁.setTop (mkF m 49 #[.val (.int p0), .val (.int p1), .val (.int p2), .val (.int p3), .val (.int p4), .val (.int p5), .val (.int (4 : Int32)), .unset, .unset, .unset, .unset] [(.int (4 : Int32))]))
    refine own_pre (fun _ kz_ => XS.iconst X0.here hx rfl (hb hby at_49) kz_) ?_
    show OwnGoes p e below _ (s₁.setTop (mkF m 50 #[.val (.int p0), .val (.int p1), .val (.int p2), .val (.int p3), .val (.int p4), .val (.int p5), .val (.int (4 : Int32)), .unset, .unset, .unset, .unset] [(.int (3 : Int32)), (.int (4 : Int32))]))
    refine own_pre (fun _ kz_ => XS.icmpYes X0.here hx rfl (pc0 := 50) (pc' := 73) rfl (hb hby at_50) rfl (feq (by decide : ¬ ((4 : Int32) = (3 : Int32)))).2 (by decide) (by decide) kz_) ?_
    show OwnGoes p e below _ (s₁.setTop (mkF m 73 #[.val (.int p0), .val (.int p1), .val (.int p2), .val (.int p3), .val (.int p4), .val (.int p5), .val (.int (4 : Int32)), .unset, .unset, .unset, .unset] []))
    refine own_pre (fun _ kz_ => XS.iconst X0.here hx rfl (hb hby at_73) kz_) ?_
    show OwnGoes p e below _ (s₁.setTop (mkF m 74 #[.val (.int p0), .val (.int p1), .val (.int p2), .val (.int p3), .val (.int p4), .val (.int p5), .val (.int (4 : Int32)), .unset, .unset, .unset, .unset] [(.int (4 : Int32))]))
    obtain ⟨T10, h10, X10, e10, E10, V10, st10⟩ := own_newa X0 hx hZ (hw _ (List.mem_of_getElem? (i := 0) rfl)) e0 (g := (mkF m 74 #[.val (.int p0), .val (.int p1), .val (.int p2), .val (.int p3), .val (.int p4), .val (.int p5), .val (.int (4 : Int32)), .unset, .unset, .unset, .unset] [(.int (4 : Int32))])) rfl (hb hby at_74) rfl (by decide) (cap := 4) (by decide) (by decide) (by decide) (by decide)
    obtain ⟨b10, g10⟩ : ∃ z, z = h0.size := ⟨_, rfl⟩
    rw [← g10] at V10 st10
    have g_b10 : n0 ≤ b10 := Nat.le_trans Z0 (Nat.le_of_eq g10.symm)
    have sz_b10 : h0.size ≤ b10 := Nat.le_trans ((Keep.refl h0 [])).1 (Nat.le_of_eq g10.symm)
    have K10 := ((Keep.refl h0 [])).ext E10
    have Z10 := Nat.le_trans Z0 E10.1
    have Va10 : OwnA Z h10 b10 .int [(.int (0 : Int32)), (.int (0 : Int32)), (.int (0 : Int32)), (.int (0 : Int32))] := V10
    refine own_pre st10 ?_
    show OwnGoes p e below _ (T10.setTop (mkF m 76 #[.val (.int p0), .val (.int p1), .val (.int p2), .val (.int p3), .val (.int p4), .val (.int p5), .val (.int (4 : Int32)), .unset, .unset, .unset, .unset] [(.ref b10)]))
    refine own_pre (fun _ kz_ => XS.dup X10.here hx rfl (hb hby at_76) rfl rfl kz_) ?_
    show OwnGoes p e below _ (T10.setTop (mkF m 77 #[.val (.int p0), .val (.int p1), .val (.int p2), .val (.int p3), .val (.int p4), .val (.int p5), .val (.int (4 : Int32)), .unset, .unset, .unset, .unset] [(.ref b10), (.ref b10)]))
    refine own_pre (fun _ kz_ => XS.iconst X10.here hx rfl (hb hby at_77) kz_) ?_
    show OwnGoes p e below _ (T10.setTop (mkF m 78 #[.val (.int p0), .val (.int p1), .val (.int p2), .val (.int p3), .val (.int p4), .val (.int p5), .val (.int (4 : Int32)), .unset, .unset, .unset, .unset] [(.int (0 : Int32)), (.ref b10), (.ref b10)]))
    refine own_pre (fun _ kz_ => XS.iloadN X10.here hx rfl (hb hby at_78) rfl kz_) ?_
    show OwnGoes p e below _ (T10.setTop (mkF m 79 #[.val (.int p0), .val (.int p1), .val (.int p2), .val (.int p3), .val (.int p4), .val (.int p5), .val (.int (4 : Int32)), .unset, .unset, .unset, .unset] [(.int p1), (.int (0 : Int32)), (.ref b10), (.ref b10)]))
    obtain ⟨T11, h11, X11, e11, W11, V11, st11⟩ := own_ist X10 hx hZ e10 Va10 (j := (0 : Int32)) (by decide) (by show 0 < 4; decide) (g := (mkF m 79 #[.val (.int p0), .val (.int p1), .val (.int p2), .val (.int p3), .val (.int p4), .val (.int p5), .val (.int (4 : Int32)), .unset, .unset, .unset, .unset] [(.int p1), (.int (0 : Int32)), (.ref b10), (.ref b10)])) rfl rfl (hb hby at_79)
    have K11 := (K10).wr W11 (Or.inr sz_b10)
    have Z11 := Nat.le_trans Z10 (Keep.of_wr W11).1
    have Va11 : OwnA Z h11 b10 .int [(.int p1), (.int (0 : Int32)), (.int (0 : Int32)), (.int (0 : Int32))] := V11
    have N11 := Fr.snoc X11 N0 g_b10
    refine own_pre st11 ?_
    show OwnGoes p e below _ (T11.setTop (mkF m 80 #[.val (.int p0), .val (.int p1), .val (.int p2), .val (.int p3), .val (.int p4), .val (.int p5), .val (.int (4 : Int32)), .unset, .unset, .unset, .unset] [(.ref b10)]))
    refine own_pre (fun _ kz_ => XS.dup X11.here hx rfl (hb hby at_80) rfl rfl kz_) ?_
    show OwnGoes p e below _ (T11.setTop (mkF m 81 #[.val (.int p0), .val (.int p1), .val (.int p2), .val (.int p3), .val (.int p4), .val (.int p5), .val (.int (4 : Int32)), .unset, .unset, .unset, .unset] [(.ref b10), (.ref b10)]))
    refine own_pre (fun _ kz_ => XS.iconst X11.here hx rfl (hb hby at_81) kz_) ?_
    show OwnGoes p e below _ (T11.setTop (mkF m 82 #[.val (.int p0), .val (.int p1), .val (.int p2), .val (.int p3), .val (.int p4), .val (.int p5), .val (.int (4 : Int32)), .unset, .unset, .unset, .unset] [(.int (1 : Int32)), (.ref b10), (.ref b10)]))
    refine own_pre (fun _ kz_ => XS.iloadN X11.here hx rfl (hb hby at_82) rfl kz_) ?_
    show OwnGoes p e below _ (T11.setTop (mkF m 83 #[.val (.int p0), .val (.int p1), .val (.int p2), .val (.int p3), .val (.int p4), .val (.int p5), .val (.int (4 : Int32)), .unset, .unset, .unset, .unset] [(.int p2), (.int (1 : Int32)), (.ref b10), (.ref b10)]))
    obtain ⟨T12, h12, X12, e12, W12, V12, st12⟩ := own_ist X11 hx hZ e11 Va11 (j := (1 : Int32)) (by decide) (by show 1 < 4; decide) (g := (mkF m 83 #[.val (.int p0), .val (.int p1), .val (.int p2), .val (.int p3), .val (.int p4), .val (.int p5), .val (.int (4 : Int32)), .unset, .unset, .unset, .unset] [(.int p2), (.int (1 : Int32)), (.ref b10), (.ref b10)])) rfl rfl (hb hby at_83)
    have K12 := (K11).wr W12 (Or.inr sz_b10)
    have Z12 := Nat.le_trans Z11 (Keep.of_wr W12).1
    have Va12 : OwnA Z h12 b10 .int [(.int p1), (.int p2), (.int (0 : Int32)), (.int (0 : Int32))] := V12
    have N12 := Fr.snoc X12 N11 g_b10
    refine own_pre st12 ?_
    show OwnGoes p e below _ (T12.setTop (mkF m 84 #[.val (.int p0), .val (.int p1), .val (.int p2), .val (.int p3), .val (.int p4), .val (.int p5), .val (.int (4 : Int32)), .unset, .unset, .unset, .unset] [(.ref b10)]))
    refine own_pre (fun _ kz_ => XS.dup X12.here hx rfl (hb hby at_84) rfl rfl kz_) ?_
    show OwnGoes p e below _ (T12.setTop (mkF m 85 #[.val (.int p0), .val (.int p1), .val (.int p2), .val (.int p3), .val (.int p4), .val (.int p5), .val (.int (4 : Int32)), .unset, .unset, .unset, .unset] [(.ref b10), (.ref b10)]))
    refine own_pre (fun _ kz_ => XS.iconst X12.here hx rfl (hb hby at_85) kz_) ?_
    show OwnGoes p e below _ (T12.setTop (mkF m 86 #[.val (.int p0), .val (.int p1), .val (.int p2), .val (.int p3), .val (.int p4), .val (.int p5), .val (.int (4 : Int32)), .unset, .unset, .unset, .unset] [(.int (2 : Int32)), (.ref b10), (.ref b10)]))
    refine own_pre (fun _ kz_ => XS.iloadN X12.here hx rfl (hb hby at_86) rfl kz_) ?_
    show OwnGoes p e below _ (T12.setTop (mkF m 87 #[.val (.int p0), .val (.int p1), .val (.int p2), .val (.int p3), .val (.int p4), .val (.int p5), .val (.int (4 : Int32)), .unset, .unset, .unset, .unset] [(.int p3), (.int (2 : Int32)), (.ref b10), (.ref b10)]))
    obtain ⟨T13, h13, X13, e13, W13, V13, st13⟩ := own_ist X12 hx hZ e12 Va12 (j := (2 : Int32)) (by decide) (by show 2 < 4; decide) (g := (mkF m 87 #[.val (.int p0), .val (.int p1), .val (.int p2), .val (.int p3), .val (.int p4), .val (.int p5), .val (.int (4 : Int32)), .unset, .unset, .unset, .unset] [(.int p3), (.int (2 : Int32)), (.ref b10), (.ref b10)])) rfl rfl (hb hby at_87)
    have K13 := (K12).wr W13 (Or.inr sz_b10)
    have Z13 := Nat.le_trans Z12 (Keep.of_wr W13).1
    have Va13 : OwnA Z h13 b10 .int [(.int p1), (.int p2), (.int p3), (.int (0 : Int32))] := V13
    have N13 := Fr.snoc X13 N12 g_b10
    refine own_pre st13 ?_
    show OwnGoes p e below _ (T13.setTop (mkF m 88 #[.val (.int p0), .val (.int p1), .val (.int p2), .val (.int p3), .val (.int p4), .val (.int p5), .val (.int (4 : Int32)), .unset, .unset, .unset, .unset] [(.ref b10)]))
    refine own_pre (fun _ kz_ => XS.dup X13.here hx rfl (hb hby at_88) rfl rfl kz_) ?_
    show OwnGoes p e below _ (T13.setTop (mkF m 89 #[.val (.int p0), .val (.int p1), .val (.int p2), .val (.int p3), .val (.int p4), .val (.int p5), .val (.int (4 : Int32)), .unset, .unset, .unset, .unset] [(.ref b10), (.ref b10)]))
    refine own_pre (fun _ kz_ => XS.iconst X13.here hx rfl (hb hby at_89) kz_) ?_
    show OwnGoes p e below _ (T13.setTop (mkF m 90 #[.val (.int p0), .val (.int p1), .val (.int p2), .val (.int p3), .val (.int p4), .val (.int p5), .val (.int (4 : Int32)), .unset, .unset, .unset, .unset] [(.int (3 : Int32)), (.ref b10), (.ref b10)]))
    refine own_pre (fun _ kz_ => XS.iload X13.here hx rfl (hb hby at_90) rfl kz_) ?_
    show OwnGoes p e below _ (T13.setTop (mkF m 92 #[.val (.int p0), .val (.int p1), .val (.int p2), .val (.int p3), .val (.int p4), .val (.int p5), .val (.int (4 : Int32)), .unset, .unset, .unset, .unset] [(.int p4), (.int (3 : Int32)), (.ref b10), (.ref b10)]))
    obtain ⟨T14, h14, X14, e14, W14, V14, st14⟩ := own_ist X13 hx hZ e13 Va13 (j := (3 : Int32)) (by decide) (by show 3 < 4; decide) (g := (mkF m 92 #[.val (.int p0), .val (.int p1), .val (.int p2), .val (.int p3), .val (.int p4), .val (.int p5), .val (.int (4 : Int32)), .unset, .unset, .unset, .unset] [(.int p4), (.int (3 : Int32)), (.ref b10), (.ref b10)])) rfl rfl (hb hby at_92)
    have K14 := (K13).wr W14 (Or.inr sz_b10)
    have Z14 := Nat.le_trans Z13 (Keep.of_wr W14).1
    have Va14 : OwnA Z h14 b10 .int [(.int p1), (.int p2), (.int p3), (.int p4)] := V14
    have N14 := Fr.snoc X14 N13 g_b10
    refine own_pre st14 ?_
    show OwnGoes p e below _ (T14.setTop (mkF m 93 #[.val (.int p0), .val (.int p1), .val (.int p2), .val (.int p3), .val (.int p4), .val (.int p5), .val (.int (4 : Int32)), .unset, .unset, .unset, .unset] [(.ref b10)]))
    refine own_pre (fun _ kz_ => XS.astore X14.here hx rfl (hb hby at_93) rfl rfl (l' := #[.val (.int p0), .val (.int p1), .val (.int p2), .val (.int p3), .val (.int p4), .val (.int p5), .val (.int (4 : Int32)), .val (.ref b10), .unset, .unset, .unset]) rfl kz_) ?_
    show OwnGoes p e below _ (T14.setTop (mkF m 95 #[.val (.int p0), .val (.int p1), .val (.int p2), .val (.int p3), .val (.int p4), .val (.int p5), .val (.int (4 : Int32)), .val (.ref b10), .unset, .unset, .unset] []))
    exact J95 4 (by decide) b10 _ _ _ X14 e14 N14 Z14 Va14
set_option maxRecDepth 65536 in
set_option maxHeartbeats 40000000 in
theorem comes_1 {Post : Tables → Env → Array Value → State → Outcome → State → Prop} (hpost : ∀ tb e args s v u, (limb_1_1.after args s (.returned v) u = true ∧ limb_1_2.after args s (.returned v) u = true ∧ True) → FrameEnd s (.returned v) u (Jvm.fieldLocs frame_1_writes args s ++ Jvm.arrayLocs frame_1_arrays args s ++ Jvm.staticLocs frame_1_statics s) 16 128 → Post tb e args s (.returned v) u) :
    ArmFor flags0 classFile x code maxLocals ret World_1 tables_1 room_1 Calls_1 rest_1 Pre_1 Post := by
  intro l hfl _ _ p e ha hc hk s m args below hf hA hF happ hP
  obtain ⟨hcalls, hrest, hpre⟩ := hP
  obtain ⟨-, -, -, hnamed, -, -, -, hat⟩ := (Spec.applies_iff hf).mp happ
  obtain ⟨hg, hn⟩ := and_e (Cond.before_iff.mp (show (Jvm.Cond.and given_1 narrow_1).before args s = true from hpre))
  obtain ⟨hcount, hgs⟩ := and_e hg
  obtain ⟨ha0, hgs0⟩ := and_e hgs
  obtain ⟨ha1, hgs1⟩ := and_e hgs0
  obtain ⟨ha2, hgs2⟩ := and_e hgs1
  obtain ⟨ha3, hgs3⟩ := and_e hgs2
  obtain ⟨ha4, hgs4⟩ := and_e hgs3
  have ha5 := hgs4
  obtain ⟨w0, w1, w2, w3, w4, w5, rfl⟩ : ∃ w0 w1 w2 w3 w4 w5 : Value, args = #[w0, w1, w2, w3, w4, w5] := by
    have hs : args.size = 6 := by simpa [Cond.value, given_1] using hcount
    obtain ⟨L⟩ := args
    match L, hs with
    | [w0, w1, w2, w3, w4, w5], _ => exact ⟨w0, w1, w2, w3, w4, w5, rfl⟩
  have hw := fun d (hd : d ∈ tables_1) => atoms_spec (ws := Jvm.Cond.code x code maxLocals ret :: tables_1) hat d (List.mem_cons_of_mem _ hd)
  have hfit : Fit s := fun {y c} hc i hi => by
    obtain ⟨ha, rfl⟩ := Array.getElem?_eq_some_iff.mp hc
    have q := List.all_eq_true.mp ((Array.all_eq_true_iff_forall_mem.mp hF) _ (Array.getElem_mem ha)) i (List.mem_range.mpr hi)
    simpa [Array.getElem?_eq_getElem hi] using q
  obtain ⟨i0, ei0⟩ := is_v ha0
  obtain rfl : w0 = (.int i0) := Option.some.inj ei0
  obtain ⟨i1, ei1⟩ := is_v ha1
  obtain rfl : w1 = (.int i1) := Option.some.inj ei1
  obtain ⟨i2, ei2⟩ := is_v ha2
  obtain rfl : w2 = (.int i2) := Option.some.inj ei2
  obtain ⟨i3, ei3⟩ := is_v ha3
  obtain rfl : w3 = (.int i3) := Option.some.inj ei3
  obtain ⟨i4, ei4⟩ := is_v ha4
  obtain rfl : w4 = (.int i4) := Option.some.inj ei4
  obtain ⟨i5, ei5⟩ := is_v ha5
  obtain rfl : w5 = (.int i5) := Option.some.inj ei5
  obtain ⟨n, o, h1, h2, h3, _, L, rfl, ⟨rfl, N⟩, hq⟩ := rm0 l s _ hw tables_1 i0 i1 i2 i3 i4 i5 s.heap s.heap.size (Nat.le_refl _) p e ha hc hk s m _ below hf ((Spec.applies_iff_loose hf).mp happ).1 ⟨rfl, State.Warmed39.refl s, rfl⟩ trivial
  refine ⟨n, _, h1, h2, h3, hpost _ _ _ _ _ _ ⟨Cond.after_iff.mpr rfl, Cond.after_iff.mpr (eq_i res_at (Term.int_eval (1)) rfl), trivial⟩ ⟨hq.1, hq.2.1, (hq.2.2.sift fun y hy => Or.inr (N y hy)).mono (by decide) (by decide)⟩⟩
theorem main_1_1 : Claimed_1_1 := comes_1 fun _ _ _ _ _ _ h hF => ⟨h.1, hF⟩
theorem main_1_2 : Claimed_1_2 := comes_1 fun _ _ _ _ _ _ h hF => ⟨h.2.1, hF⟩
end Jvm.Pilot.@@N@@
namespace Jvm.Pilot.@@N@@
open Jvm Jvm.ClassFile Sem Op Lib Jvm.Free Jvm.Stand Jvm.Pilot.@@N@@.Jvm.D
/-! MADE BY PROGRAM (witnessworld.py) out of the Statement's table words and the real class files: 12 classes; the members and pool entries that the words name. The judged class is class 1, her method 4. -/
namespace start1
open Jvm.ClassFile
def u (s : String) : CpInfo := .utf8 (stringToUtf16 s)
/-- a pool by its gaps: so many unusable entries, then the entry; so many at the end -/
def gap : Nat → List CpInfo → List CpInfo
  | 0, r => r
  | n + 1, r => .unusable :: gap n r
def poolList (es : List (Nat × CpInfo)) (last : Nat) : List CpInfo := es.foldr (fun e r => gap e.1 (e.2 :: r)) (gap last [])
def pool (es : List (Nat × CpInfo)) (last : Nat) : Array CpInfo := ⟨poolList es last⟩
def fileOf (pool : Array CpInfo) (this : Nat) (attrs : Array Attribute := #[]) (ms : Array MethodInfo := #[]) (fl : Nat := 33) (sup : Nat := 0) (ifs : Array Nat := #[]) (fds : Array FieldInfo := #[]) : ClassFile where
  minorVersion := 0
  majorVersion := 65
  constantPool := pool
  accessFlags := fl
  thisClass := this
  superClass := sup
  interfaces := ifs
  fields := fds
  methods := ms
  attributes := attrs
def plain (name : String) (sup : Option ClassId) : Class where
  name := name
  kind := .ordinary
  loader := none
  accessFlags := 33
  super := sup
  interfaces := #[]
  cf := none
  fields := #[]
  methods := #[]
  instanceTypes := #[]
  staticTypes := #[]
  resolved := #[]
  callSites := []
  init := .initialized
  statics := none
  mirror := none

def pool0 : Array CpInfo := pool [(5, u "<init>"), (0, u "()V"), (1, .class_ 10), (1, u "java/lang/Object")] 113

def k0m0 : Method := { name := "<init>", desc := "()V", sig := { parameters := [], returnType := none }, accessFlags := 1, code := none }
/-- java/lang/Object -/
def k0 : Class := { plain "java/lang/Object" none with
  accessFlags := 33
  interfaces := #[]
  cf := some (fileOf pool0 8 #[] #[{ accessFlags := 1, nameIndex := 5, descriptorIndex := 6, attributes := #[] }] 33 0 #[] #[])
  fields := #[]
  methods := #[k0m0]
  instanceTypes := #[]
  staticTypes := #[]
  resolved := Array.replicate 124 none
  statics := none }

def pool1 : Array CpInfo := pool [(2, .class_ 4), (1, u "java/lang/Object"), (0, u "<init>"), (0, u "()V"), (0, .methodref 8 9), (0, .class_ 10), (0, .nameAndType 11 12), (0, u "com/example/embosser/embosser/domain/PositionsRoomPinLaw"), (0, u "at"), (0, u "([III)Z"), (0, .integer 2147483647), (0, .methodref 15 16), (0, .class_ 17), (0, .nameAndType 18 19), (0, u "com/example/embosser/embosser/domain/Positions"), (0, u "room"), (0, u "([II)[I"), (0, .methodref 8 21), (0, .nameAndType 22 23), (0, u "prefix"), (0, u "([IIIIII)Z"), (0, .methodref 8 25), (0, .nameAndType 26 12), (0, u "zeroAfter"), (5, u "law"), (0, u "(IIIIII)Z")] 2

def k1m0 : Method := { name := "<init>", desc := "()V", sig := { parameters := [], returnType := none }, accessFlags := 2, code := none }
def k1c1 : Code := { maxStack := 2, maxLocals := 3, code := method_2_code, exceptionTable := #[], attributes := #[] }
def k1m1 : Method := { name := "at", desc := "([III)Z", sig := { parameters := [(.array .int), .int, .int], returnType := some .boolean }, accessFlags := 10, code := some k1c1 }
def k1c2 : Code := { maxStack := 4, maxLocals := 7, code := method_3_code, exceptionTable := #[], attributes := #[] }
def k1m2 : Method := { name := "prefix", desc := "([IIIIII)Z", sig := { parameters := [(.array .int), .int, .int, .int, .int, .int], returnType := some .boolean }, accessFlags := 10, code := some k1c2 }
def k1c3 : Code := { maxStack := 2, maxLocals := 3, code := method_4_code, exceptionTable := #[], attributes := #[] }
def k1m3 : Method := { name := "zeroAfter", desc := "([III)Z", sig := { parameters := [(.array .int), .int, .int], returnType := some .boolean }, accessFlags := 10, code := some k1c3 }
def k1c4 : Code := { maxStack := 7, maxLocals := 11, code := code, exceptionTable := #[], attributes := #[] }
def k1m4 : Method := { name := "law", desc := "(IIIIII)Z", sig := { parameters := [.int, .int, .int, .int, .int, .int], returnType := some .boolean }, accessFlags := 9, code := some k1c4 }
/-- com/example/embosser/embosser/domain/PositionsRoomPinLaw -/
def k1 : Class := { plain "com/example/embosser/embosser/domain/PositionsRoomPinLaw" (some 0) with
  accessFlags := 49
  interfaces := #[]
  cf := some (fileOf pool1 8 #[] #[{ accessFlags := 2, nameIndex := 5, descriptorIndex := 6, attributes := #[] }, { accessFlags := 10, nameIndex := 11, descriptorIndex := 12, attributes := #[] }, { accessFlags := 10, nameIndex := 22, descriptorIndex := 23, attributes := #[] }, { accessFlags := 10, nameIndex := 26, descriptorIndex := 12, attributes := #[] }, { accessFlags := 9, nameIndex := 32, descriptorIndex := 33, attributes := #[] }] 49 2 #[] #[])
  fields := #[]
  methods := #[k1m0, k1m1, k1m2, k1m3, k1m4]
  instanceTypes := #[]
  staticTypes := #[]
  resolved := Array.replicate 36 none
  statics := none }

def pool2 : Array CpInfo := pool [(2, .class_ 4), (1, u "java/lang/Object"), (0, u "<init>"), (0, u "()V"), (6, .methodref 14 15), (0, .class_ 16), (0, .nameAndType 17 18), (0, u "java/util/Arrays"), (0, u "copyOf"), (0, u "([II)[I"), (3, .class_ 23), (0, u "com/example/embosser/embosser/domain/Positions"), (5, u "room")] 8

def k2m0 : Method := { name := "<init>", desc := "()V", sig := { parameters := [], returnType := none }, accessFlags := 2, code := none }
def k2c1 : Code := { maxStack := 3, maxLocals := 2, code := prog_101_method_3_code, exceptionTable := #[], attributes := #[] }
def k2m1 : Method := { name := "room", desc := "([II)[I", sig := { parameters := [(.array .int), .int], returnType := some (.array .int) }, accessFlags := 8, code := some k2c1 }
/-- com/example/embosser/embosser/domain/Positions -/
def k2 : Class := { plain "com/example/embosser/embosser/domain/Positions" (some 0) with
  accessFlags := 48
  interfaces := #[]
  cf := some (fileOf pool2 22 #[] #[{ accessFlags := 2, nameIndex := 5, descriptorIndex := 6, attributes := #[] }, { accessFlags := 8, nameIndex := 29, descriptorIndex := 18, attributes := #[] }] 48 2 #[] #[])
  fields := #[]
  methods := #[k2m0, k2m1]
  instanceTypes := #[]
  staticTypes := #[]
  resolved := Array.replicate 38 none
  statics := none }

def pool3 : Array CpInfo := pool [(2, .class_ 4), (1, u "java/lang/Object"), (0, u "<init>"), (0, u "()V"), (7, .class_ 16), (1, u "java/util/Arrays"), (57, .class_ 76), (1, u "java/util/Arrays$NaturalOrder"), (36, .class_ 115), (1, u "java/util/Arrays$LegacyMergeSort"), (1, u "Z"), (32, .methodref 151 152), (0, .class_ 153), (0, .nameAndType 154 155), (0, u "java/lang/System"), (0, u "arraycopy"), (0, u "(Ljava/lang/Object;ILjava/lang/Object;II)V"), (146, u "copyOf"), (1, .methodref 305 306), (0, .class_ 307), (0, .nameAndType 308 309), (0, u "java/lang/Math"), (0, u "min"), (0, u "(II)I"), (65, .class_ 376), (0, u "java/util/Arrays$ArrayList"), (68, u "$assertionsDisabled"), (269, u "MIN_ARRAY_SORT_GRAN"), (0, u "I"), (2, u "INSERTIONSORT_THRESHOLD"), (151, u "([II)[I"), (103, .class_ 976), (0, u "java/util/Arrays$ArrayItr")] 52

def k3m0 : Method := { name := "<init>", desc := "()V", sig := { parameters := [], returnType := none }, accessFlags := 2, code := none }
def k3c1 : Code := { maxStack := 6, maxLocals := 3, code := jdk_65_method_123_code, exceptionTable := #[], attributes := #[] }
def k3m1 : Method := { name := "copyOf", desc := "([II)[I", sig := { parameters := [(.array .int), .int], returnType := some (.array .int) }, accessFlags := 9, code := some k3c1 }
/-- java/util/Arrays -/
def k3 : Class := { plain "java/util/Arrays" (some 0) with
  accessFlags := 49
  interfaces := #[]
  cf := some (fileOf pool3 14 #[.nestMembers #[975, 375, 113, 74]] #[{ accessFlags := 2, nameIndex := 5, descriptorIndex := 6, attributes := #[] }, { accessFlags := 9, nameIndex := 302, descriptorIndex := 871, attributes := #[] }] 49 2 #[] #[{ accessFlags := 26, nameIndex := 715, descriptorIndex := 716, attributes := #[] }, { accessFlags := 26, nameIndex := 719, descriptorIndex := 716, attributes := #[] }, { accessFlags := 4120, nameIndex := 445, descriptorIndex := 117, attributes := #[] }])
  fields := #[{ name := "MIN_ARRAY_SORT_GRAN", type := .int, accessFlags := 26, slot := 0, constantValue := 0 }, { name := "INSERTIONSORT_THRESHOLD", type := .int, accessFlags := 26, slot := 1, constantValue := 0 }, { name := "$assertionsDisabled", type := .boolean, accessFlags := 4120, slot := 2, constantValue := 0 }]
  methods := #[k3m0, k3m1]
  instanceTypes := #[]
  staticTypes := #[.int, .int, .boolean]
  resolved := Array.replicate 1029 none
  statics := none }

def pool4 : Array CpInfo := pool [(1, .class_ 2), (0, u "java/lang/Math"), (1, .class_ 6), (1, u "java/lang/Object"), (0, u "<init>"), (0, u "()V"), (89, .class_ 100), (1, u "java/lang/Math$RandomNumberGeneratorHolder"), (71, u "negativeZeroFloatBits"), (0, u "J"), (2, u "negativeZeroDoubleBits"), (24, u "min"), (43, u "$assertionsDisabled"), (0, u "Z"), (88, u "(II)I"), (2, u "twoToTheDoubleScaleDown"), (0, u "D"), (4, u "twoToTheDoubleScaleUp"), (9, u "E"), (3, u "PI"), (2, u "TAU"), (2, u "DEGREES_TO_RADIANS"), (0, u "RADIANS_TO_DEGREES")] 94

def k4m0 : Method := { name := "<init>", desc := "()V", sig := { parameters := [], returnType := none }, accessFlags := 2, code := none }
def k4c1 : Code := { maxStack := 2, maxLocals := 2, code := jdk_29_method_69_code, exceptionTable := #[], attributes := #[] }
def k4m1 : Method := { name := "min", desc := "(II)I", sig := { parameters := [.int, .int], returnType := some .int }, accessFlags := 9, code := some k4c1 }
/-- java/lang/Math -/
def k4 : Class := { plain "java/lang/Math" (some 0) with
  accessFlags := 49
  interfaces := #[]
  cf := some (fileOf pool4 1 #[.nestMembers #[98]] #[{ accessFlags := 2, nameIndex := 7, descriptorIndex := 8, attributes := #[] }, { accessFlags := 9, nameIndex := 201, descriptorIndex := 335, attributes := #[] }] 49 4 #[] #[{ accessFlags := 25, nameIndex := 354, descriptorIndex := 339, attributes := #[] }, { accessFlags := 25, nameIndex := 358, descriptorIndex := 339, attributes := #[] }, { accessFlags := 25, nameIndex := 361, descriptorIndex := 339, attributes := #[] }, { accessFlags := 26, nameIndex := 364, descriptorIndex := 339, attributes := #[] }, { accessFlags := 26, nameIndex := 365, descriptorIndex := 339, attributes := #[] }, { accessFlags := 26, nameIndex := 172, descriptorIndex := 173, attributes := #[] }, { accessFlags := 26, nameIndex := 176, descriptorIndex := 173, attributes := #[] }, { accessFlags := 8, nameIndex := 344, descriptorIndex := 339, attributes := #[] }, { accessFlags := 8, nameIndex := 338, descriptorIndex := 339, attributes := #[] }, { accessFlags := 4120, nameIndex := 245, descriptorIndex := 246, attributes := #[] }])
  fields := #[{ name := "E", type := .double, accessFlags := 25, slot := 0, constantValue := 0 }, { name := "PI", type := .double, accessFlags := 25, slot := 1, constantValue := 0 }, { name := "TAU", type := .double, accessFlags := 25, slot := 2, constantValue := 0 }, { name := "DEGREES_TO_RADIANS", type := .double, accessFlags := 26, slot := 3, constantValue := 0 }, { name := "RADIANS_TO_DEGREES", type := .double, accessFlags := 26, slot := 4, constantValue := 0 }, { name := "negativeZeroFloatBits", type := .long, accessFlags := 26, slot := 5, constantValue := 0 }, { name := "negativeZeroDoubleBits", type := .long, accessFlags := 26, slot := 6, constantValue := 0 }, { name := "twoToTheDoubleScaleUp", type := .double, accessFlags := 8, slot := 7, constantValue := 0 }, { name := "twoToTheDoubleScaleDown", type := .double, accessFlags := 8, slot := 8, constantValue := 0 }, { name := "$assertionsDisabled", type := .boolean, accessFlags := 4120, slot := 9, constantValue := 0 }]
  methods := #[k4m0, k4m1]
  instanceTypes := #[]
  staticTypes := #[.double, .double, .double, .double, .double, .long, .long, .double, .double, .boolean]
  resolved := Array.replicate 460 none
  statics := none }

def pool5 : Array CpInfo := pool [(2, .class_ 4), (1, u "java/lang/Object"), (0, u "<init>"), (0, u "()V"), (1, .class_ 10), (1, u "java/lang/System"), (0, u "allowSecurityManager"), (0, u "I"), (16, u "cons"), (0, u "Ljava/io/Console;"), (77, .class_ 110), (1, u "java/lang/System$CallersHolder"), (43, u "initialErrStream"), (0, u "Ljava/io/PrintStream;"), (19, u "security"), (0, u "Ljava/lang/SecurityManager;"), (31, .class_ 209), (0, u "java/lang/System$1"), (7, u "props"), (0, u "Ljava/util/Properties;"), (2, u "lineSeparator"), (0, u "Ljava/lang/String;"), (96, .class_ 321), (1, u "java/lang/System$LoggerFinder"), (5, .class_ 328), (0, u "java/lang/System$Logger"), (67, u "err"), (2, u "out"), (91, u "notSupportedJnuEncoding"), (15, u "in"), (17, u "initialIn"), (0, u "Ljava/io/InputStream;"), (35, u "bootLayer"), (0, u "Ljava/lang/ModuleLayer;"), (99, .class_ 664), (0, u "java/lang/System$2"), (9, u "NEVER"), (2, u "MAYBE"), (49, u "arraycopy"), (0, u "(Ljava/lang/Object;ILjava/lang/Object;II)V"), (72, .class_ 802), (0, u "java/lang/System$Logger$Level")] 31

def k5m0 : Method := { name := "<init>", desc := "()V", sig := { parameters := [], returnType := none }, accessFlags := 2, code := none }
def k5m1 : Method := { name := "arraycopy", desc := "(Ljava/lang/Object;ILjava/lang/Object;II)V", sig := { parameters := [(.object "java/lang/Object"), .int, (.object "java/lang/Object"), .int, .int], returnType := none }, accessFlags := 265, code := none }
/-- java/lang/System -/
def k5 : Class := { plain "java/lang/System" (some 0) with
  accessFlags := 49
  interfaces := #[]
  cf := some (fileOf pool5 8 #[.nestMembers #[319, 327, 801, 108, 663, 208]] #[{ accessFlags := 2, nameIndex := 5, descriptorIndex := 6, attributes := #[] }, { accessFlags := 265, nameIndex := 727, descriptorIndex := 728, attributes := #[] }] 49 2 #[] #[{ accessFlags := 25, nameIndex := 507, descriptorIndex := 526, attributes := #[] }, { accessFlags := 25, nameIndex := 399, descriptorIndex := 155, attributes := #[] }, { accessFlags := 25, nameIndex := 396, descriptorIndex := 155, attributes := #[] }, { accessFlags := 10, nameIndex := 525, descriptorIndex := 526, attributes := #[] }, { accessFlags := 26, nameIndex := 674, descriptorIndex := 12, attributes := #[] }, { accessFlags := 26, nameIndex := 677, descriptorIndex := 12, attributes := #[] }, { accessFlags := 10, nameIndex := 11, descriptorIndex := 12, attributes := #[] }, { accessFlags := 74, nameIndex := 175, descriptorIndex := 176, attributes := #[] }, { accessFlags := 10, nameIndex := 491, descriptorIndex := 222, attributes := #[] }, { accessFlags := 74, nameIndex := 29, descriptorIndex := 30, attributes := #[] }, { accessFlags := 74, nameIndex := 154, descriptorIndex := 155, attributes := #[] }, { accessFlags := 10, nameIndex := 217, descriptorIndex := 218, attributes := #[] }, { accessFlags := 10, nameIndex := 221, descriptorIndex := 222, attributes := #[] }, { accessFlags := 8, nameIndex := 562, descriptorIndex := 563, attributes := #[] }])
  fields := #[{ name := "in", type := (.object "java/io/InputStream"), accessFlags := 25, slot := 0, constantValue := 0 }, { name := "out", type := (.object "java/io/PrintStream"), accessFlags := 25, slot := 1, constantValue := 0 }, { name := "err", type := (.object "java/io/PrintStream"), accessFlags := 25, slot := 2, constantValue := 0 }, { name := "initialIn", type := (.object "java/io/InputStream"), accessFlags := 10, slot := 3, constantValue := 0 }, { name := "NEVER", type := .int, accessFlags := 26, slot := 4, constantValue := 0 }, { name := "MAYBE", type := .int, accessFlags := 26, slot := 5, constantValue := 0 }, { name := "allowSecurityManager", type := .int, accessFlags := 10, slot := 6, constantValue := 0 }, { name := "security", type := (.object "java/lang/SecurityManager"), accessFlags := 74, slot := 7, constantValue := 0 }, { name := "notSupportedJnuEncoding", type := (.object "java/lang/String"), accessFlags := 10, slot := 8, constantValue := 0 }, { name := "cons", type := (.object "java/io/Console"), accessFlags := 74, slot := 9, constantValue := 0 }, { name := "initialErrStream", type := (.object "java/io/PrintStream"), accessFlags := 74, slot := 10, constantValue := 0 }, { name := "props", type := (.object "java/util/Properties"), accessFlags := 10, slot := 11, constantValue := 0 }, { name := "lineSeparator", type := (.object "java/lang/String"), accessFlags := 10, slot := 12, constantValue := 0 }, { name := "bootLayer", type := (.object "java/lang/ModuleLayer"), accessFlags := 8, slot := 13, constantValue := 0 }]
  methods := #[k5m0, k5m1]
  instanceTypes := #[]
  staticTypes := #[(.object "java/io/InputStream"), (.object "java/io/PrintStream"), (.object "java/io/PrintStream"), (.object "java/io/InputStream"), .int, .int, .int, (.object "java/lang/SecurityManager"), (.object "java/lang/String"), (.object "java/io/Console"), (.object "java/io/PrintStream"), (.object "java/util/Properties"), (.object "java/lang/String"), (.object "java/lang/ModuleLayer")]
  resolved := Array.replicate 834 none
  statics := none }

def pool6 : Array CpInfo := pool [(1, u "java/lang/Cloneable"), (0, .class_ 1), (0, u "java/lang/Object"), (0, .class_ 3)] 3

/-- java/lang/Cloneable -/
def k6 : Class := { plain "java/lang/Cloneable" (some 0) with
  accessFlags := 1537
  interfaces := #[]
  cf := some (fileOf pool6 2 #[] #[] 1537 4 #[] #[])
  fields := #[]
  methods := #[]
  instanceTypes := #[]
  staticTypes := #[]
  resolved := Array.replicate 8 none
  statics := none }

def pool7 : Array CpInfo := pool [(1, u "java/io/Serializable"), (0, .class_ 1), (0, u "java/lang/Object"), (0, .class_ 3)] 3

/-- java/io/Serializable -/
def k7 : Class := { plain "java/io/Serializable" (some 0) with
  accessFlags := 1537
  interfaces := #[]
  cf := some (fileOf pool7 2 #[] #[] 1537 4 #[] #[])
  fields := #[]
  methods := #[]
  instanceTypes := #[]
  staticTypes := #[]
  resolved := Array.replicate 8 none
  statics := none }

/-- the primitive byte -/
def k8 : Class := { plain "byte" none with kind := .primitive 'B', accessFlags := 0x411 }
/-- [B -/
def k9 : Class := { plain "[B" (some 0) with kind := .array 8 .byte, interfaces := #[6, 7], accessFlags := 1041 }

/-- the primitive int -/
def k10 : Class := { plain "int" none with kind := .primitive 'I', accessFlags := 0x411 }
/-- [I -/
def k11 : Class := { plain "[I" (some 0) with kind := .array 10 .int, interfaces := #[6, 7], accessFlags := 1041 }

def heap : Heap := #[]
def classes : Array Class := #[k0, k1, k2, k3, k4, k5, k6, k7, k8, k9, k10, k11]
def interned : List (Array UInt16 × Addr) := []
def slotsUsed : Nat := 0
def theMethod : MethodId := ⟨1, 4⟩
def args0 : Array Value := #[.int 5, .int 6, .int 7, .int 8, .int 9, .int 10]
def aboutOver (below : List Frame) : State where
  vm := { classes := classes, interned := interned.toArray }
  heap := heap
  slotsUsed := slotsUsed
  threads := #[{ frames := .invoking theMethod args0 :: below }]
def below0 : List Frame := [.native { method := ⟨0, 0⟩, args := #[] }]
def about1 : State := aboutOver below0
def p0 : Program := .bare "" "" ""
def e0 : Env := launch0.env 0 0 0
theorem w_frames : about1.frames = Frame.invoking theMethod args0 :: below0 := rfl
set_option maxRecDepth 65536 in
theorem w_args : argsFit about1.vm theMethod args0 = true := by decide +kernel
set_option maxRecDepth 65536 in
theorem w_heap : heapFits about1 = true := by decide +kernel
set_option maxRecDepth 65536 in
theorem w_runnable : about1.curStatus? = some .runnable := by decide +kernel
set_option maxRecDepth 65536 in
theorem w_alone : about1.alone = true := by decide +kernel
set_option maxRecDepth 65536 in
theorem w_named : about1.methodNamed? x = some theMethod := by decide +kernel
set_option maxRecDepth 65536 in
theorem w_hears : about1.hears theMethod below0 = true := by decide +kernel
set_option maxRecDepth 65536 in
theorem w_ripe : about1.ripe theMethod args0 below0 = true := by decide +kernel
theorem w_running : about1.status = .running := rfl
set_option maxRecDepth 65536 in
theorem w_room : about1.hasRoom e0.platform room_1 = true :=
  launch0.hasRoom_least _ room_1 (by decide +kernel) (by decide +kernel) (by decide +kernel) (by decide +kernel) (by decide +kernel) (by decide +kernel)
theorem allAtoms_all (ts : List Jvm.Cond) (a : Array Jvm.Value) (st : Jvm.State) : (allAtoms ts).before a st = ts.all (fun c => c.before a st) := by
  induction ts with
  | nil => rfl
  | cons c t ih =>
    show (Jvm.Cond.and c (allAtoms t)).before a st = _
    rw [Jvm.Cond.before_and, ih, List.all_cons]
def words1 : List Jvm.Cond := Jvm.Cond.code x code maxLocals ret :: tables_1
/-- a 'code' word, met by the world's own term for the bytes: nothing is compared byte by byte -/
theorem code_word {y : MethodName} {bytes : ByteArray} {mx : Nat} {rt : Option FieldType} {a : Array Value} {s : State} {m : MethodId} {meth : Method} {c : Code} (h1 : s.methodNamed? y = some m) (h2 : s.vm.method? m = some meth) (h3 : meth.code = some c) (h4 : c.code = bytes)
    (h5 : (c.maxLocals == mx && c.exceptionTable.isEmpty && decide (c.maxStack ≤ mostOperands) && decide (meth.sig.returnType = rt) && !meth.locks && decide (parseMethodDescriptor y.desc = some meth.sig)) = true) : (Jvm.Cond.code y bytes mx rt).before a s = true := by
  simp only [Bool.and_eq_true, beq_iff_eq, Bool.not_eq_true', decide_eq_true_eq] at h5
  obtain ⟨⟨⟨⟨⟨g1, g2⟩, g3⟩, g4⟩, g5⟩, g6⟩ := h5
  simp [Cond.before, Cond.holds, Cond.value, h1, h2, h3, h4, g1, g2, g3, g4, g5, g6]
def isCode : Jvm.Cond → Bool
  | .code _ _ _ _ => true
  | _ => false
theorem all_split {L : List Jvm.Cond} {P : Jvm.Cond → Bool} (h1 : L.all (fun c => isCode c || P c) = true) (h2 : ∀ c ∈ L.filter isCode, P c = true) : L.all P = true := by
  refine List.all_eq_true.mpr fun c hc => ?_
  have h := List.all_eq_true.mp h1 c hc
  rcases Bool.eq_false_or_eq_true (isCode c) with hi | hi
  · exact h2 c (List.mem_filter.mpr ⟨hc, hi⟩)
  · simpa [hi] using h
set_option maxRecDepth 65536 in
theorem w_c0 : (Jvm.Cond.code x code maxLocals ret).before args0 about1 = true := code_word (m := ⟨1, 4⟩) (meth := k1m4) (c := k1c4) (by decide +kernel) rfl rfl rfl (by decide +kernel)
set_option maxRecDepth 65536 in
theorem w_c1 : (Jvm.Cond.code ({ cls := "com/example/embosser/embosser/domain/Positions", name := "room", desc := "([II)[I" } : Jvm.MethodName) prog_101_method_3_code (2 : Nat) (Option.some (Jvm.ClassFile.FieldType.array Jvm.ClassFile.FieldType.int))).before args0 about1 = true := code_word (m := ⟨2, 1⟩) (meth := k2m1) (c := k2c1) (by decide +kernel) rfl rfl rfl (by decide +kernel)
set_option maxRecDepth 65536 in
theorem w_c2 : (Jvm.Cond.code ({ cls := "java/util/Arrays", name := "copyOf", desc := "([II)[I" } : Jvm.MethodName) jdk_65_method_123_code (3 : Nat) (Option.some (Jvm.ClassFile.FieldType.array Jvm.ClassFile.FieldType.int))).before args0 about1 = true := code_word (m := ⟨3, 1⟩) (meth := k3m1) (c := k3c1) (by decide +kernel) rfl rfl rfl (by decide +kernel)
set_option maxRecDepth 65536 in
theorem w_c3 : (Jvm.Cond.code ({ cls := "java/lang/Math", name := "min", desc := "(II)I" } : Jvm.MethodName) jdk_29_method_69_code (2 : Nat) (Option.some Jvm.ClassFile.FieldType.int)).before args0 about1 = true := code_word (m := ⟨4, 1⟩) (meth := k4m1) (c := k4c1) (by decide +kernel) rfl rfl rfl (by decide +kernel)
set_option maxRecDepth 65536 in
theorem w_c4 : (Jvm.Cond.code ({ cls := "com/example/embosser/embosser/domain/PositionsRoomPinLaw", name := "prefix", desc := "([IIIIII)Z" } : Jvm.MethodName) method_3_code (7 : Nat) (Option.some Jvm.ClassFile.FieldType.boolean)).before args0 about1 = true := code_word (m := ⟨1, 2⟩) (meth := k1m2) (c := k1c2) (by decide +kernel) rfl rfl rfl (by decide +kernel)
set_option maxRecDepth 65536 in
theorem w_c5 : (Jvm.Cond.code ({ cls := "com/example/embosser/embosser/domain/PositionsRoomPinLaw", name := "at", desc := "([III)Z" } : Jvm.MethodName) method_2_code (3 : Nat) (Option.some Jvm.ClassFile.FieldType.boolean)).before args0 about1 = true := code_word (m := ⟨1, 1⟩) (meth := k1m1) (c := k1c1) (by decide +kernel) rfl rfl rfl (by decide +kernel)
set_option maxRecDepth 65536 in
theorem w_c6 : (Jvm.Cond.code ({ cls := "com/example/embosser/embosser/domain/PositionsRoomPinLaw", name := "zeroAfter", desc := "([III)Z" } : Jvm.MethodName) method_4_code (3 : Nat) (Option.some Jvm.ClassFile.FieldType.boolean)).before args0 about1 = true := code_word (m := ⟨1, 3⟩) (meth := k1m3) (c := k1c3) (by decide +kernel) rfl rfl rfl (by decide +kernel)
def codes1 : List Jvm.Cond := [Jvm.Cond.code x code maxLocals ret, Jvm.Cond.code ({ cls := "com/example/embosser/embosser/domain/Positions", name := "room", desc := "([II)[I" } : Jvm.MethodName) prog_101_method_3_code (2 : Nat) (Option.some (Jvm.ClassFile.FieldType.array Jvm.ClassFile.FieldType.int)), Jvm.Cond.code ({ cls := "java/util/Arrays", name := "copyOf", desc := "([II)[I" } : Jvm.MethodName) jdk_65_method_123_code (3 : Nat) (Option.some (Jvm.ClassFile.FieldType.array Jvm.ClassFile.FieldType.int)), Jvm.Cond.code ({ cls := "java/lang/Math", name := "min", desc := "(II)I" } : Jvm.MethodName) jdk_29_method_69_code (2 : Nat) (Option.some Jvm.ClassFile.FieldType.int), Jvm.Cond.code ({ cls := "com/example/embosser/embosser/domain/PositionsRoomPinLaw", name := "prefix", desc := "([IIIIII)Z" } : Jvm.MethodName) method_3_code (7 : Nat) (Option.some Jvm.ClassFile.FieldType.boolean), Jvm.Cond.code ({ cls := "com/example/embosser/embosser/domain/PositionsRoomPinLaw", name := "at", desc := "([III)Z" } : Jvm.MethodName) method_2_code (3 : Nat) (Option.some Jvm.ClassFile.FieldType.boolean), Jvm.Cond.code ({ cls := "com/example/embosser/embosser/domain/PositionsRoomPinLaw", name := "zeroAfter", desc := "([III)Z" } : Jvm.MethodName) method_4_code (3 : Nat) (Option.some Jvm.ClassFile.FieldType.boolean)]
set_option maxRecDepth 65536 in
theorem codes_eq : words1.filter isCode = codes1 := rfl
theorem w_codes : ∀ c ∈ words1.filter isCode, c.before args0 about1 = true := by
  rw [codes_eq]
  intro c hc
  simp only [codes1, List.mem_cons, List.not_mem_nil, or_false] at hc
  rcases hc with rfl | rfl | rfl | rfl | rfl | rfl | rfl
  · exact w_c0
  · exact w_c1
  · exact w_c2
  · exact w_c3
  · exact w_c4
  · exact w_c5
  · exact w_c6
set_option maxRecDepth 65536 in
theorem w_t1 : (words1.take 24).all (fun c => isCode c || c.before args0 about1) = true := by decide +kernel
set_option maxRecDepth 65536 in
theorem w_t2 : (words1.drop 24).all (fun c => isCode c || c.before args0 about1) = true := by decide +kernel
theorem w_tables : (allAtoms (Jvm.Cond.code x code maxLocals ret :: tables_1)).before args0 about1 = true := by
  rw [allAtoms_all]
  show words1.all (fun c => c.before args0 about1) = true
  refine all_split ?_ w_codes
  rw [← List.take_append_drop 24 words1, List.all_append, w_t1, w_t2]
  rfl
set_option maxRecDepth 65536 in
theorem w_case : (Jvm.Cond.and given_1 narrow_1).before args0 about1 = true := by decide +kernel
theorem w_applies : (headSpec (Jvm.Cond.code x code maxLocals ret :: tables_1) room_1).applies x e0.platform about1 = true :=
  (Spec.applies_iff w_frames).mpr ⟨w_running, w_runnable, w_alone, w_named, w_hears, w_ripe, w_room, w_tables⟩
theorem atStart : AtStart classFile x code maxLocals ret World_1 tables_1 room_1 Calls_1 rest_1 Pre_1 launch0 p0 e0 about1 theMethod args0 below0 :=
  ⟨lists_1, trivial, launch0.admits_env _ _ _, launch0.least_env, fairChoices_fair.cas, fairChoices_fair.clock, w_frames, w_args, w_heap, w_applies, trivial, trivial, w_case⟩
end start1
theorem witness_1 : WitnessClaimed_1 := ⟨start1.p0, start1.e0, start1.about1, start1.theMethod, start1.args0, start1.below0, start1.atStart⟩
end Jvm.Pilot.@@N@@

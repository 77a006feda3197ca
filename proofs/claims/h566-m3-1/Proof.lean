import JvmDerived
import JvmDerived.Pilot.@@N@@Statement
import JvmDerived.Pilot.@@N@@Code
set_option linter.unusedVariables false
set_option linter.unusedSimpArgs false
namespace Jvm.Pilot.@@N@@
open Jvm Jvm.ClassFile Sem Op Lib Jvm.Free Jvm.Stand Jvm.LawKit Jvm.RoadKit Bundle Jvm.Pilot.@@N@@.Jvm.D
/-! the walk in continuation style: 'from U the run comes to an end of which P holds' -/
def OwnGoes (p : Program) (e : Env) (below : List Frame) (P : Outcome → State → Prop) (U : State) : Prop := ∃ s₂ o, Steps p.tables e below U s₂ ∧ s₂.status = .running ∧ Ended s₂ below o ∧ P o s₂
theorem own_pre {p : Program} {e : Env} {below : List Frame} {P : Outcome → State → Prop} {U U' : State} (h : ∀ t, Steps p.tables e below U' t → Steps p.tables e below U t) (k : OwnGoes p e below P U') : OwnGoes p e below P U := by
  obtain ⟨s₂, o, h1, h2⟩ := k
  exact ⟨s₂, o, h _ h1, h2⟩
theorem own_tr {p : Program} {e : Env} {below : List Frame} {P : Outcome → State → Prop} {U U' : State} (h : Steps p.tables e below U U') (k : OwnGoes p e below P U') : OwnGoes p e below P U := own_pre (fun _ q => h.trans q) k
theorem own_ret {p : Program} {l : Launch} {e : Env} {R : Room} {s : State} {m : MethodId} {args : Array Value} {below : List Frame} {meth : Method} {c : Code} {T : State} {locs : List Loc} {cells slots : Nat}
    (X : Stand p l e R s m args below meth c T locs cells slots) (hx : p.tables.exec = Jvm.exec) {pc : Nat} {Ls : Array Slot} {w : Value} {t : FieldType} {i : Instr} {rest : List Value} (hret : meth.sig.returnType = some t) (hn : narrow t w = w)
    (hi : (i = .ireturn ∧ (t = .int ∨ t = .boolean ∨ t = .byte ∨ t = .char ∨ t = .short) ∧ ∃ z, w = .int z) ∨ (i = .lreturn ∧ t = .long ∧ ∃ z, w = .long z) ∨ (i = .dreturn ∧ t = .double ∧ ∃ z, w = .double z) ∨ (i = .freturn ∧ t = .float ∧ ∃ z, w = .float z) ∨ (i = .areturn ∧ t.isReference = true ∧ w.isRef = true))
    (hlocks : meth.locks = false) (hd : decode c.code pc = .ok (i, 1)) {Qh : Option Value → Heap → List Loc → Prop} {rc rs : Nat} (hQ : Qh (some w) T.heap locs) (hc : cells ≤ rc) (hs : slots ≤ rs) :
    OwnGoes p e below (fun o U' => ∃ v L, o = .returned v ∧ Qh v U'.heap L ∧ FrameEnd s o U' L rc rs) (T.setTop (mkF m pc Ls (w :: rest))) := by
  obtain ⟨fs, hr, hrun, hended, hW, hsame⟩ := X.leave (v := some w) (fun h => by rw [hret] at h; cases h) hlocks
  exact ⟨_, _, retOut X hx hret hn hi hd hr, hrun, hended, _, _, rfl, hQ, ⟨_, rfl⟩, hW, hsame.mono hc hs⟩
theorem own_retV {p : Program} {l : Launch} {e : Env} {R : Room} {s : State} {m : MethodId} {args : Array Value} {below : List Frame} {meth : Method} {c : Code} {T : State} {locs : List Loc} {cells slots : Nat}
    (X : Stand p l e R s m args below meth c T locs cells slots) (hx : p.tables.exec = Jvm.exec) {pc : Nat} {Ls : Array Slot} (hret : meth.sig.returnType = none) (hlocks : meth.locks = false) (hd : decode c.code pc = .ok (.return_, 1)) {Qh : Option Value → Heap → List Loc → Prop} {rc rs : Nat} (hQ : Qh none T.heap locs) (hc : cells ≤ rc) (hs : slots ≤ rs) :
    OwnGoes p e below (fun o U' => ∃ v L, o = .returned v ∧ Qh v U'.heap L ∧ FrameEnd s o U' L rc rs) (T.setTop (mkF m pc Ls [])) := by
  obtain ⟨fs, hr, hrun, hended, hW, hsame⟩ := X.leave (v := none) (fun _ => rfl) hlocks
  exact ⟨_, _, X.returnOut hx hret hd hr, hrun, hended, _, _, rfl, hQ, ⟨_, rfl⟩, hW, hsame.mono hc hs⟩
/-! an array by the list of what it holds -/
def OwnA (Z : State) (h : Heap) (b : Addr) (ty : FieldType) (vs : List Value) : Prop := ∃ c : Cell, Jvm.RoadKit.Arr Z h b c ty ∧ c.slots = vs.toArray
section OwnArrays
variable {Z : State} {h h' : Heap} {a b : Addr} {ty : FieldType} {vs ws : List Value} {v : Value} {sl : Nat} {as : List Addr}
theorem OwnA.lt (F : OwnA Z h b ty vs) : b < h.size := by obtain ⟨c, A, -⟩ := F; exact A.lt
theorem OwnA.ext (F : OwnA Z h b ty vs) (E : Ext h h') : OwnA Z h' b ty vs := by obtain ⟨c, A, r⟩ := F; exact ⟨c, A.ext E, r⟩
theorem OwnA.other (F : OwnA Z h b ty vs) (W : Wr h h' a sl v) (q : b ≠ a) : OwnA Z h' b ty vs := by obtain ⟨c, A, r⟩ := F; exact ⟨c, A.other W q, r⟩
theorem OwnA.keep (F : OwnA Z h b ty vs) (K : Keep h h' as) (q : b ∉ as) : OwnA Z h' b ty vs := by obtain ⟨c, A, r⟩ := F; exact ⟨c, ⟨K.2.1 _ _ A.1 q, A.2⟩, r⟩
theorem OwnA.same (F : OwnA Z h a ty vs) (W : Wr h h' a sl v) : OwnA Z h' a ty (vs.set sl v) := by
  obtain ⟨c, A, r⟩ := F
  refine ⟨_, A.same W, ?_⟩
  show c.slots.setIfInBounds sl v = _
  rw [r]; simp
theorem OwnA.plain (F : OwnA Z h a ty vs) : ∀ cell : Cell, h[a]? = some cell → cell.vm.isStatics = false := fun cell hc => by
  obtain ⟨c, A, r⟩ := F
  cases hc.symm.trans A.1
  exact A.plain
variable {p : Program} {l : Launch} {e : Env} {R : Room} {s : State} {m : MethodId} {args : Array Value} {below : List Frame} {meth : Method} {c : Code} {T : State} {locs : List Loc} {cells slots : Nat} {a0 : Array Value}
theorem own_hin {c : Cell} {vs : List Value} {j : Int32} (hs : c.slots = vs.toArray) (h0 : ¬ j < 0) (h1 : j.toNatClampNeg < vs.length) : ¬ (j < 0 ∨ c.slots.size ≤ j.toNatClampNeg) := by
  rw [hs]; simp only [List.size_toArray]; intro q; rcases q with q | q
  · exact h0 q
  · omega
theorem own_alen (X : Stand p l e R s m args below meth c T locs cells slots) (hx : p.tables.exec = Jvm.exec) (hZ : Z.Warmed39 s.vm) (eT : T.heap = h) (A : OwnA Z h a ty vs) {n : Int32} (hn : n = Int32.ofNat vs.length)
    {g : JFrame} (hg : g.method = m) {rest : List Value} (hs : g.stack = .ref a :: rest) (hd : decode c.code g.pc = .ok (.arraylength, 1)) :
    ∀ t, Steps p.tables e below (T.setTop { g with pc := g.pc + 1, stack := .int n :: rest }) t → Steps p.tables e below (T.setTop g) t := fun t k => by
  obtain ⟨c, A, r⟩ := A
  refine X.arraylength hx (by rw [eT]; exact A.1) (State.isArrayOf_alike hZ.alike A.2.1) hg hs hd t ?_
  have q : c.slots.size.toInt32 = n := by rw [r, hn, List.size_toArray]
  rw [q]; exact k
theorem own_iald (X : Stand p l e R s m args below meth c T locs cells slots) (hx : p.tables.exec = Jvm.exec) (hZ : Z.Warmed39 s.vm) (eT : T.heap = h) (A : OwnA Z h a .int vs) {j : Int32} {v : Value} (h0 : ¬ j < 0) (hv : vs[j.toNatClampNeg]? = some v)
    {g : JFrame} (hg : g.method = m) {rest : List Value} (hs : g.stack = .int j :: .ref a :: rest) (hd : decode c.code g.pc = .ok (.iaload, 1)) :
    ∀ t, Steps p.tables e below (T.setTop { g with pc := g.pc + 1, stack := v :: rest }) t → Steps p.tables e below (T.setTop g) t := fun t k => by
  obtain ⟨c, A, r⟩ := A
  exact X.iaload hx (by rw [eT]; exact A.1) (State.isArrayOf_alike hZ.alike A.2.1) A.2.2 (own_hin r h0 (List.getElem?_eq_some_iff.mp hv).1) (by rw [r]; simpa using hv) hg hs hd t k
theorem own_lald (X : Stand p l e R s m args below meth c T locs cells slots) (hx : p.tables.exec = Jvm.exec) (hZ : Z.Warmed39 s.vm) (eT : T.heap = h) (A : OwnA Z h a .long vs) {j : Int32} {v : Value} (h0 : ¬ j < 0) (hv : vs[j.toNatClampNeg]? = some v)
    {g : JFrame} (hg : g.method = m) {rest : List Value} (hs : g.stack = .int j :: .ref a :: rest) (hd : decode c.code g.pc = .ok (.laload, 1)) :
    ∀ t, Steps p.tables e below (T.setTop { g with pc := g.pc + 1, stack := v :: rest }) t → Steps p.tables e below (T.setTop g) t := fun t k => by
  obtain ⟨c, A, r⟩ := A
  exact X.laload hx (by rw [eT]; exact A.1) (State.isArrayOf_alike hZ.alike A.2.1) A.2.2 (own_hin r h0 (List.getElem?_eq_some_iff.mp hv).1) (by rw [r]; simpa using hv) hg hs hd t k
theorem own_ist (X : Stand p l e R s m args below meth c T locs cells slots) (hx : p.tables.exec = Jvm.exec) (hZ : Z.Warmed39 s.vm) (eT : T.heap = h) (A : OwnA Z h a .int vs) {j x : Int32} (h0 : ¬ j < 0) (h1 : j.toNatClampNeg < vs.length)
    {g : JFrame} (hg : g.method = m) {rest : List Value} (hs : g.stack = .int x :: .int j :: .ref a :: rest) (hd : decode c.code g.pc = .ok (.iastore, 1)) :
    ∃ T' h', Stand p l e R s m args below meth c T' (locs ++ [⟨a, j.toNatClampNeg⟩]) cells slots ∧ T'.heap = h' ∧ Wr h h' a j.toNatClampNeg (.int x) ∧ OwnA Z h' a .int (vs.set j.toNatClampNeg (.int x)) ∧
      ∀ t, Steps p.tables e below (T'.setTop { g with pc := g.pc + 1, stack := rest }) t → Steps p.tables e below (T.setTop g) t := by
  have F := A
  obtain ⟨c, A, r⟩ := A
  obtain ⟨T', h', X', e', W, st⟩ := stI X hx hZ eT A (own_hin r h0 h1) hg hs hd
  exact ⟨T', h', X', e', W, F.same W, st⟩
theorem own_jst (X : Stand p l e R s m args below meth c T locs cells slots) (hx : p.tables.exec = Jvm.exec) (hZ : Z.Warmed39 s.vm) (eT : T.heap = h) (A : OwnA Z h a .long vs) {j : Int32} {x : Int64} (h0 : ¬ j < 0) (h1 : j.toNatClampNeg < vs.length)
    {g : JFrame} (hg : g.method = m) {rest : List Value} (hs : g.stack = .long x :: .int j :: .ref a :: rest) (hd : decode c.code g.pc = .ok (.lastore, 1)) :
    ∃ T' h', Stand p l e R s m args below meth c T' (locs ++ [⟨a, j.toNatClampNeg⟩]) cells slots ∧ T'.heap = h' ∧ Wr h h' a j.toNatClampNeg (.long x) ∧ OwnA Z h' a .long (vs.set j.toNatClampNeg (.long x)) ∧
      ∀ t, Steps p.tables e below (T'.setTop { g with pc := g.pc + 1, stack := rest }) t → Steps p.tables e below (T.setTop g) t := by
  have F := A
  obtain ⟨c, A, r⟩ := A
  obtain ⟨T', h', X', e', W, st⟩ := stJ X hx hZ eT A (own_hin r h0 h1) hg hs hd
  exact ⟨T', h', X', e', W, F.same W, st⟩
theorem own_dald (X : Stand p l e R s m args below meth c T locs cells slots) (hx : p.tables.exec = Jvm.exec) (hZ : Z.Warmed39 s.vm) (eT : T.heap = h) (A : OwnA Z h a .double vs) {j : Int32} {v : Value} (h0 : ¬ j < 0) (hv : vs[j.toNatClampNeg]? = some v)
    {g : JFrame} (hg : g.method = m) {rest : List Value} (hs : g.stack = .int j :: .ref a :: rest) (hd : decode c.code g.pc = .ok (.daload, 1)) :
    ∀ t, Steps p.tables e below (T.setTop { g with pc := g.pc + 1, stack := v :: rest }) t → Steps p.tables e below (T.setTop g) t := fun t k => by
  obtain ⟨c, A, r⟩ := A
  exact X.daload hx (by rw [eT]; exact A.1) (State.isArrayOf_alike hZ.alike A.2.1) A.2.2 (own_hin r h0 (List.getElem?_eq_some_iff.mp hv).1) (by rw [r]; simpa using hv) hg hs hd t k
theorem own_dst (X : Stand p l e R s m args below meth c T locs cells slots) (hx : p.tables.exec = Jvm.exec) (hZ : Z.Warmed39 s.vm) (eT : T.heap = h) (A : OwnA Z h a .double vs) {j : Int32} {x : UInt64} (h0 : ¬ j < 0) (h1 : j.toNatClampNeg < vs.length)
    {g : JFrame} (hg : g.method = m) {rest : List Value} (hs : g.stack = .double x :: .int j :: .ref a :: rest) (hd : decode c.code g.pc = .ok (.dastore, 1)) :
    ∃ T' h', Stand p l e R s m args below meth c T' (locs ++ [⟨a, j.toNatClampNeg⟩]) cells slots ∧ T'.heap = h' ∧ Wr h h' a j.toNatClampNeg (.double x) ∧ OwnA Z h' a .double (vs.set j.toNatClampNeg (.double x)) ∧
      ∀ t, Steps p.tables e below (T'.setTop { g with pc := g.pc + 1, stack := rest }) t → Steps p.tables e below (T.setTop g) t := by
  have F := A
  obtain ⟨c, A, r⟩ := A
  obtain ⟨T', h', X', e', W, st⟩ := stD X hx hZ eT A (own_hin r h0 h1) hg hs hd
  exact ⟨T', h', X', e', W, F.same W, st⟩
theorem own_newa (X : Stand p l e R s m args below meth c T locs cells slots) (hx : p.tables.exec = Jvm.exec) (hZ : Z.Warmed39 s.vm) {aty : ArrayType} (w : (Jvm.Cond.arrayClass (newarray.typeOf aty)).before a0 Z = true) (eT : T.heap = h) {g : JFrame} (hg : g.method = m) (hd : decode c.code g.pc = .ok (.newarray aty, 2)) {n : Int32} {rest : List Value} (hs : g.stack = .int n :: rest)
    (hn : ¬ n < 0) {cap : Nat} (hcap : n.toNatClampNeg ≤ cap) (hb : cap * 8 ≤ 536870912) (hc : cells + 1 ≤ R.cells) (hl : slots + cap ≤ R.slots) :
    ∃ T' h', Stand p l e R s m args below meth c T' locs (cells + 1) (slots + cap) ∧ T'.heap = h' ∧ Ext h h' ∧ OwnA Z h' h.size (newarray.typeOf aty) (List.replicate n.toNatClampNeg (defaultValue (newarray.typeOf aty))) ∧
      ∀ t, Steps p.tables e below (T'.setTop { g with pc := g.pc + 2, stack := .ref h.size :: rest }) t → Steps p.tables e below (T.setTop g) t := by
  obtain ⟨T', h', cA, X', e', E, A, st⟩ := newP X hx hZ w eT hg hd hs hn hcap hb hc hl
  exact ⟨T', h', X', e', E, ⟨_, A, by simp [newA]⟩, st⟩
/-- System.arraycopy from place 0 to place 0 of another array of the same plain kind -/
theorem own_acopy (X : Stand p l e R s m args below meth c T locs cells slots) (hx : p.tables.exec = Jvm.exec) (hZ : Z.Warmed39 s.vm) {own : String} {index : Nat} (hown : s.vm.findClass own = some m.cls) (hwz : ∀ w ∈ XT.acW own index, w.before args s = true)
    (eT : T.heap = h) (A : OwnA Z h a ty vs) (B : OwnA Z h b ty ws) (hty : refKind ty = false) (href : ty.isReference = false) (hfit : ∀ x ∈ vs, fits ty x = true) (h1 : vs.length < 2 ^ 31) (h2 : ws.length < 2 ^ 31) {n : Nat} {jn : Int32} (hjn : jn = Int32.ofNat n) (hn1 : n ≤ vs.length) (hn2 : n ≤ ws.length)
    {g : JFrame} (hg : g.method = m) (hsize : g.locals.size = c.maxLocals) {rest : List Value} (hs : g.stack = .int jn :: .int 0 :: .ref b :: .int 0 :: .ref a :: rest) (hd : decode c.code g.pc = .ok (.invokestatic index, 3))
    {W : Nat} (hW : 2 * g.monitorRoom + (rest.map fun v => v.category).sum ≤ W) (hfr : 1 ≤ R.frames) (hlo : W + 40 ≤ R.locals) :
    ∃ T' h', Stand p l e R s m args below meth c T' (locs ++ copyLocs b 0 n) cells slots ∧ T'.heap = h' ∧ Keep h h' [b] ∧ OwnA Z h' b ty (vs.take n ++ ws.drop n) ∧
      ∀ t, Steps p.tables e below (T'.setTop { g with pc := g.pc + 3, stack := rest }) t → Steps p.tables e below (T.setTop g) t := by
  obtain ⟨cA, A, rA⟩ := A
  obtain ⟨cB, B, rB⟩ := B
  have hU : Z.Warmed39 T.vm := wtrans hZ X.warmed
  have A' : XT.Arr ty a cA T := ⟨by rw [eT]; exact A.1, State.isArrayOf_alike hU.alike A.2.1, A.2.2, by rw [rA]; simpa using h1⟩
  have B' : XT.Arr ty b cB T := ⟨by rw [eT]; exact B.1, State.isArrayOf_alike hU.alike B.2.1, B.2.2, by rw [rB]; simpa using h2⟩
  obtain ⟨T', B1, X', P, c1, c2, c3, c4, st⟩ := X.acopy hx hown hwz A' B' (by simp [hty]) (o := 0) (q := 0) (n := n) (jo := 0) (jq := 0) rfl rfl hjn (by rw [rA]; simpa using hn1) (by rw [rB]; simpa using hn2)
    (fun i hi => ⟨hfit _ (by
      rw [rA, Array.getD_eq_getD_getElem?]
      have hi' : 0 + i < vs.length := by omega
      simp only [List.getElem?_toArray, List.getElem?_eq_getElem hi', Option.getD_some]
      exact List.getElem_mem hi'), fun q => by rw [href] at q; cases q⟩) hg hsize hs hd hW hfr hlo
  refine ⟨T', _, X', rfl, ⟨?_, fun x cx hx hne => ?_, fun x cx hx => ?_⟩, ⟨B1, ⟨P.1, ?_, by rw [c2]; exact B.2.2⟩, ?_⟩, st⟩
  · rw [P.2.2, eT]; exact Nat.le_refl _
  · rw [P.2.1 x (fun q => hne (by rw [q]; exact List.mem_singleton.mpr rfl)), eT]; exact hx
  · by_cases q : x = b
    · subst q
      cases hx.symm.trans B.1
      exact ⟨B1, P.1, c1, c2, c3⟩
    · exact ⟨cx, by rw [P.2.1 x q, eT]; exact hx, rfl, rfl, rfl⟩
  · obtain ⟨q1, k, q2, q3⟩ := B.2.1
    exact ⟨by rw [c2]; exact q1, k, by rw [c1]; exact q2, q3⟩
  · apply Array.ext_getElem?
    intro j
    rw [c4 j]
    rw [rA, rB, Array.getD_eq_getD_getElem?]
    simp only [List.getElem?_toArray]
    by_cases q : j < n
    · have q2 : j < vs.length := by omega
      rw [if_pos ⟨Nat.zero_le _, by omega⟩, List.getElem?_append_left (by rw [List.length_take]; omega), List.getElem?_take_of_lt q]
      simp [List.getElem?_eq_getElem q2]
    · rw [if_neg (by omega), List.getElem?_append_right (by rw [List.length_take]; omega), List.getElem?_drop, List.length_take]
      congr 1
      omega
theorem own_frcopy {n0 : Nat} {locs : List Loc} (N : Fr n0 locs) {b : Addr} (hb : n0 ≤ b) (k : Nat) : Fr n0 (locs ++ copyLocs b 0 k) := Fr.app N (fun y hy => by
  simp only [copyLocs, List.mem_map] at hy
  obtain ⟨i, -, rfl⟩ := hy
  exact hb)
end OwnArrays

/-! a static field's value, the statics' cell below n0 -/
def OwnS (Z : State) (n0 : Nat) (h : Heap) (C n d : String) (v : Value) : Prop := ∃ (cf i : Nat) (k : Class) (f : Field) (st : Addr) (cell : Cell), Z.fieldFound? C n d = some (cf, k, i, f) ∧ f.isStatic = true ∧ k.init = .initialized ∧ k.statics = some st ∧ h[st]? = some cell ∧ cell.vm.isStatics = true ∧ cell.slots[f.slot]? = some v ∧ st < n0
theorem OwnS.of {Z : State} {h : Heap} {C n d : String} {v : Value} (F : Sta Z h C n d v) : OwnS Z h.size h C n d v := by
  obtain ⟨cf, i, k, f, st, cell, h1, h2, h3, h4, h5, h6, h7⟩ := F
  exact ⟨cf, i, k, f, st, cell, h1, h2, h3, h4, h5, h6, h7, (Array.getElem?_eq_some_iff.mp h5).1⟩
theorem OwnS.sta {Z : State} {n0 : Nat} {h : Heap} {C n d : String} {v : Value} (F : OwnS Z n0 h C n d v) : Sta Z h C n d v := by
  obtain ⟨cf, i, k, f, st, cell, h1, h2, h3, h4, h5, h6, h7, -⟩ := F
  exact ⟨cf, i, k, f, st, cell, h1, h2, h3, h4, h5, h6, h7⟩
theorem OwnS.ext {Z : State} {n0 : Nat} {h h' : Heap} {C n d : String} {v : Value} (F : OwnS Z n0 h C n d v) (E : Ext h h') : OwnS Z n0 h' C n d v := by
  obtain ⟨cf, i, k, f, st, cell, h1, h2, h3, h4, h5, r⟩ := F
  exact ⟨cf, i, k, f, st, cell, h1, h2, h3, h4, E.2 _ _ h5, r⟩
theorem OwnS.keep {Z : State} {n0 : Nat} {h h' : Heap} {C n d : String} {v : Value} {ws : List Addr} (F : OwnS Z n0 h C n d v) (K : Keep h h' ws) (q : ∀ x ∈ ws, n0 ≤ x) : OwnS Z n0 h' C n d v := by
  obtain ⟨cf, i, k, f, st, cell, h1, h2, h3, h4, h5, h6, h7, h8⟩ := F
  exact ⟨cf, i, k, f, st, cell, h1, h2, h3, h4, K.2.1 _ _ h5 (fun z => absurd (q _ z) (Nat.not_le.mpr h8)), h6, h7, h8⟩
theorem OwnS.wr {Z : State} {n0 : Nat} {h h' : Heap} {C n d : String} {v w : Value} {a : Addr} {sl : Nat} (F : OwnS Z n0 h C n d v) (W : Wr h h' a sl w) : OwnS Z n0 h' C n d v := by
  obtain ⟨cf, i, k, f, st, cell, h1, h2, h3, h4, h5, h6, h7, h8⟩ := F
  obtain ⟨c', e1, -, -, -, e5, -, e7⟩ := wr_at W h5
  have ne : st ≠ a := fun e => by rw [(e7 e).2.2] at h6; cases h6
  exact ⟨cf, i, k, f, st, cell, h1, h2, h3, h4, by rw [← e5 ne]; exact e1, h6, h7, h8⟩


def own_cls (cs : List Int32) (q : Int64) : Int32 := if (0 : Int64) < q then cs.getD q.toInt.toNat 0 - 1 else -1
theorem own_q32 {q : Int64} {n : Nat} (h0 : 0 < q.toInt) (h1 : q.toInt < n) (hn : n < 2 ^ 31) : q.toInt32 = Int32.ofNat q.toInt.toNat := by
  apply Int32.toInt_inj.mp
  rw [Int32.toInt_ofNat_small (by omega)]
  have h2 := c_l2i q
  have h3 := rng32 q.toInt32
  omega
theorem own_idx_at {cs : List Int32} {q : Int64} (h0 : (0 : Int64) < q) (h1 : q < (Int32.ofNat cs.length).toInt64) (hl : cs.length < 2 ^ 31) :
    ¬ q.toInt32 < 0 ∧ (cs.map Value.int)[q.toInt32.toNatClampNeg]? = some (.int (cs.getD q.toInt.toNat 0)) := by
  rw [Int64.lt_iff_toInt_lt] at h0 h1
  rw [Int32.toInt_toInt64, Int32.toInt_ofNat_small hl] at h1
  have e0 : (0 : Int64).toInt = 0 := rfl
  rw [e0] at h0
  have hlt : q.toInt.toNat < cs.length := by omega
  rw [own_q32 h0 h1 hl]
  refine ⟨Int32.ofNat_not_neg (by omega), ?_⟩
  rw [XT.n32 (by omega), List.getElem?_map, List.getD_eq_getElem?_getD, List.getElem?_eq_getElem hlt]
  rfl
theorem own_cls_out {cs : List Int32} {q : Int64} (h0 : (0 : Int64) < q) (h1 : ¬ q < (Int32.ofNat cs.length).toInt64) (hl : cs.length < 2 ^ 31) : (-1 : Int32) = own_cls cs q := by
  unfold own_cls
  rw [if_pos h0]
  rw [Int64.lt_iff_toInt_lt, Int32.toInt_toInt64, Int32.toInt_ofNat_small hl] at h1
  rw [List.getD_eq_getElem?_getD, List.getElem?_eq_none (by omega)]
  decide
def OwnIdx (Z : State) (n0 : Nat) (h : Heap) (o : Addr) (cs : List Int32) : Prop :=
  ∃ (ap al ac av ab : Addr) (vp : List Int64) (vl : List Int32) (vv : List Int64), Exa Z h o "com/example/holdfast/holdfast/store/ObjectIndex" ∧ Fld Z h o "com/example/holdfast/holdfast/store/ObjectIndex" "positions" "[J" (.ref ap) ∧ Fld Z h o "com/example/holdfast/holdfast/store/ObjectIndex" "lengths" "[I" (.ref al) ∧ Fld Z h o "com/example/holdfast/holdfast/store/ObjectIndex" "classes" "[I" (.ref ac) ∧ Fld Z h o "com/example/holdfast/holdfast/store/ObjectIndex" "versions" "[J" (.ref av) ∧ Fld Z h o "com/example/holdfast/holdfast/store/ObjectIndex" "replacedClasses" "Ljava/util/BitSet;" (.ref ab) ∧
    OwnA Z h ap .long (vp.map .long) ∧ OwnA Z h al .int (vl.map .int) ∧ OwnA Z h ac .int (cs.map .int) ∧ OwnA Z h av .long (vv.map .long) ∧ vp.length = cs.length ∧ vl.length = cs.length ∧ vv.length = cs.length ∧
    Exa Z h ab "java/util/BitSet" ∧ Fld Z h ab "java/util/BitSet" "wordsInUse" "I" (.int (0 : Int32)) ∧ n0 ≤ o ∧ n0 ≤ ap ∧ n0 ≤ al ∧ n0 ≤ ac ∧ n0 ≤ av ∧
    (o ≠ ap ∧ o ≠ al ∧ o ≠ ac ∧ o ≠ av ∧ o ≠ ab ∧ ap ≠ al ∧ ap ≠ ac ∧ ap ≠ av ∧ ap ≠ ab ∧ al ≠ ac ∧ al ≠ av ∧ al ≠ ab ∧ ac ≠ av ∧ ac ≠ ab ∧ av ≠ ab)
theorem own_fitJ (vs : List Int64) : ∀ x ∈ vs.map Value.long, fits .long x = true := fun x hx => by simp only [List.mem_map] at hx; obtain ⟨y, -, rfl⟩ := hx; rfl
theorem own_fitI (vs : List Int32) : ∀ x ∈ vs.map Value.int, fits .int x = true := fun x hx => by simp only [List.mem_map] at hx; obtain ⟨y, -, rfl⟩ := hx; rfl
theorem own_mapJ {Z : State} {h : Heap} {b : Addr} {vs : List Int64} {k : Nat} (F : OwnA Z h b .long (vs.map Value.long ++ List.replicate (k - (vs.map Value.long).length) (.long (0 : Int64)))) : OwnA Z h b .long ((vs ++ List.replicate (k - vs.length) (0 : Int64)).map Value.long) := by
  rw [List.length_map] at F; rw [List.map_append, List.map_replicate]; exact F
theorem own_mapI {Z : State} {h : Heap} {b : Addr} {vs : List Int32} {k : Nat} (F : OwnA Z h b .int (vs.map Value.int ++ List.replicate (k - (vs.map Value.int).length) (.int (0 : Int32)))) : OwnA Z h b .int ((vs ++ List.replicate (k - vs.length) (0 : Int32)).map Value.int) := by
  rw [List.length_map] at F; rw [List.map_append, List.map_replicate]; exact F
theorem own_setJ {Z : State} {h : Heap} {b : Addr} {vs : List Int64} {i : Nat} {x : Int64} (F : OwnA Z h b .long ((vs.map Value.long).set i (.long x))) : OwnA Z h b .long ((vs.set i x).map Value.long) := by rw [List.map_set]; exact F
theorem own_setI {Z : State} {h : Heap} {b : Addr} {vs : List Int32} {i : Nat} {x : Int32} (F : OwnA Z h b .int ((vs.map Value.int).set i (.int x))) : OwnA Z h b .int ((vs.set i x).map Value.int) := by rw [List.map_set]; exact F
def own_K (len A : Nat) : Nat := if 2 * len < A + 1 then A + 1 else 2 * len
theorem own_max {len A : Nat} (hl : len ≤ 2048) (hA : A ≤ 2048) : Int64.ofNat (own_K len A) = if (2 : Int64) * (Int32.ofNat len).toInt64 < Int64.ofNat A + 1 then Int64.ofNat A + 1 else (2 : Int64) * (Int32.ofNat len).toInt64 := by
  have e1 : (2 : Int64) * (Int32.ofNat len).toInt64 = Int64.ofNat (2 * len) := by
    apply Int64.toInt_inj.mp
    have h1 := c_lmul 2 (Int32.ofNat len).toInt64
    rw [Int32.toInt_toInt64, Int32.toInt_ofNat_small (by omega)] at h1
    have h2 := rng64 ((2 : Int64) * (Int32.ofNat len).toInt64)
    rw [Int64.toInt_ofNat_of_lt (by omega)]
    have e2 : (2 : Int64).toInt = 2 := rfl
    rw [e2] at h1
    omega
  have e2 : Int64.ofNat A + 1 = Int64.ofNat (A + 1) := by
    apply Int64.toInt_inj.mp
    have h1 := c_ladd (Int64.ofNat A) 1
    rw [Int64.toInt_ofNat_of_lt (by omega)] at h1
    have h2 := rng64 (Int64.ofNat A + 1)
    rw [Int64.toInt_ofNat_of_lt (by omega)]
    have e2 : (1 : Int64).toInt = 1 := rfl
    rw [e2] at h1
    omega
  rw [e1, e2]
  unfold own_K
  by_cases h : 2 * len < A + 1
  · rw [if_pos h, if_pos]
    rw [Int64.lt_iff_toInt_lt, Int64.toInt_ofNat_of_lt (by omega), Int64.toInt_ofNat_of_lt (by omega)]; omega
  · rw [if_neg h, if_neg]
    rw [Int64.lt_iff_toInt_lt, Int64.toInt_ofNat_of_lt (by omega), Int64.toInt_ofNat_of_lt (by omega)]; omega
theorem own_min {K : Nat} (hK : K ≤ 4096) : Int64.ofNat K = if Int64.ofNat K < (2147483640 : Int64) then Int64.ofNat K else (2147483640 : Int64) := by
  rw [if_pos]
  rw [Int64.lt_iff_toInt_lt, Int64.toInt_ofNat_of_lt (by omega)]
  show (K : Int) < 2147483640
  omega
theorem own_l2i {K : Nat} (hK : K ≤ 4096) : (Int64.ofNat K).toInt32 = Int32.ofNat K := by
  apply Int32.toInt_inj.mp
  have h1 := c_l2i (Int64.ofNat K)
  rw [Int64.toInt_ofNat_of_lt (by omega)] at h1
  have h2 := rng32 (Int64.ofNat K).toInt32
  rw [Int32.toInt_ofNat_small (by omega)]
  omega
theorem own_get {cs : List Int32} {A m i : Nat} {v : Int32} (hA : A < (cs ++ List.replicate m (0 : Int32)).length) : ((cs ++ List.replicate m (0 : Int32)).set A v).getD i 0 = if i = A then v else cs.getD i 0 := by
  simp only [List.getD_eq_getElem?_getD, List.getElem?_set]
  by_cases h : A = i
  · subst h
    have hA' : A < cs.length + m := by simpa using hA
    simp [hA']
  · have h' : ¬ i = A := fun q => h q.symm
    simp only [h, h', if_false]
    rw [List.getElem?_append]
    by_cases h2 : i < cs.length
    · simp [h2]
    · rw [if_neg h2, List.getElem?_replicate, List.getElem?_eq_none (by omega)]
      by_cases h3 : i - cs.length < m <;> simp [h3]

def QMin (r : Int32) (h0 : Heap) (n0 : Nat) (v : Option Value) (h : Heap) (L : List Loc) : Prop := v = some (.int r) ∧ Fr n0 L ∧ h = h0
theorem d13_0 : decode jdk_29_method_69_code 0 = .ok (.iload_n 0, 1) := by decide +kernel
theorem d13_1 : decode jdk_29_method_69_code 1 = .ok (.iload_n 1, 1) := by decide +kernel
theorem d13_2 : decode jdk_29_method_69_code 2 = .ok (.if_icmp .gt 7, 3) := by decide +kernel
theorem d13_5 : decode jdk_29_method_69_code 5 = .ok (.iload_n 0, 1) := by decide +kernel
theorem d13_6 : decode jdk_29_method_69_code 6 = .ok (.goto 4, 3) := by decide +kernel
theorem d13_9 : decode jdk_29_method_69_code 9 = .ok (.iload_n 1, 1) := by decide +kernel
theorem d13_10 : decode jdk_29_method_69_code 10 = .ok (.ireturn, 1) := by decide +kernel
set_option maxRecDepth 65536 in
set_option maxHeartbeats 40000000 in
theorem rmMin (l : Launch) (Z : State) (a0 : Array Value) (hw : ∀ d ∈ tables_1, d.before a0 Z = true) (ws : List Jvm.Cond) (x y r : Int32) (h0 : Heap) (n0 : Nat) (Z0 : n0 ≤ h0.size) (hr : r = if y < x then y else x) :
    MetFree l (⟨"java/lang/Math", "min", "(II)I"⟩ : MethodName) (head1 (Jvm.Cond.code (⟨"java/lang/Math", "min", "(II)I"⟩ : MethodName) jdk_29_method_69_code 2 (some .int) :: ws) ({ frames := 0, cells := 0, slots := 0, locals := 0 } : Room)) (fun a U => a = #[(.int x), (.int y)] ∧ Z.Warmed39 U.vm ∧ U.heap = h0) (fun _ _ _ _ _ => True) (fun _ Uw_ ow_ Ue_ => ∃ vw_ Lw_, ow_ = .returned vw_ ∧ QMin r h0 n0 vw_ Ue_.heap Lw_ ∧ FrameEnd Uw_ ow_ Ue_ Lw_ ({ frames := 0, cells := 0, slots := 0, locals := 0 } : Room).cells ({ frames := 0, cells := 0, slots := 0, locals := 0 } : Room).slots) := by
  refine MetFree.of_bodySF (Jvm.Free.JP.mathPlain rfl (by decide +kernel)) hisR ?_
  intro p e s m args below meth c s₁ Bd hml0 hP hK
  obtain ⟨rfl, hZ, hh⟩ := hP
  have hx := Bd.exec
  have hby := Bd.bytes
  have hml : c.maxLocals = 2 := hml0
  have hown : s.vm.findClass "java/lang/Math" = some m.cls := findClass_of_methodNamed Bd.named
  have hnm := (name_of_methodNamed Bd.named Bd.method).1
  have X0 : Stand p l e ({ frames := 0, cells := 0, slots := 0, locals := 0 } : Room) s m #[(.int x), (.int y)] below meth c s₁ [] 0 0 := Stand.of_body Bd
  have e0 : s₁.heap = h0 := by rw [← hh, Bd.state]; rfl
  have N0 := Fr.nil n0
  have ef : entryFrame m #[(.int x), (.int y)] 2 = (mkF m 0 #[.val (.int x), .val (.int y)] []) := by first | (simp [entryFrame, mkF, argsToLocals, Value.category]; done) | rfl
  show OwnGoes p e below (fun ow_ Ue_ => ∃ vw_ Lw_, ow_ = .returned vw_ ∧ QMin r h0 n0 vw_ Ue_.heap Lw_ ∧ FrameEnd s ow_ Ue_ Lw_ ({ frames := 0, cells := 0, slots := 0, locals := 0 } : Room).cells ({ frames := 0, cells := 0, slots := 0, locals := 0 } : Room).slots) (s₁.setTop (entryFrame m #[(.int x), (.int y)] 2))
  refine own_pre (fun t k => castTop ef k) ?_
  show OwnGoes p e below _ (s₁.setTop (mkF m 0 #[.val (.int x), .val (.int y)] []))
  refine own_pre (fun _ kz_ => XS.iloadN X0.here hx rfl (hb hby d13_0) rfl kz_) ?_
  show OwnGoes p e below _ (s₁.setTop (mkF m 1 #[.val (.int x), .val (.int y)] [(.int x)]))
  refine own_pre (fun _ kz_ => XS.iloadN X0.here hx rfl (hb hby d13_1) rfl kz_) ?_
  show OwnGoes p e below _ (s₁.setTop (mkF m 2 #[.val (.int x), .val (.int y)] [(.int y), (.int x)]))
  by_cases h2 : y < x
  · refine own_pre (fun _ kz_ => XS.icmpYes X0.here hx rfl (pc0 := 2) (pc' := 9) rfl (hb hby d13_2) rfl (tlt h2).2.2.1 (by decide) (by decide) kz_) ?_
    show OwnGoes p e below _ (s₁.setTop (mkF m 9 #[.val (.int x), .val (.int y)] []))
    refine own_pre (fun _ kz_ => XS.iloadN X0.here hx rfl (hb hby d13_9) rfl kz_) ?_
    show OwnGoes p e below _ (s₁.setTop (mkF m 10 #[.val (.int x), .val (.int y)] [(.int y)]))
    exact own_ret X0 hx Bd.returns (rfl) (Or.inl ⟨rfl, by simp, _, rfl⟩) Bd.notSynchronized (hb hby d13_10) ⟨by rw [hr, if_pos h2], N0, e0⟩ (by decide) (by decide)
  · refine own_pre (fun _ kz_ => XS.icmpNo X0.here hx rfl (hb hby d13_2) rfl (flt h2).2.2.1 kz_) ?_
    show OwnGoes p e below _ (s₁.setTop (mkF m 5 #[.val (.int x), .val (.int y)] []))
    refine own_pre (fun _ kz_ => XS.iloadN X0.here hx rfl (hb hby d13_5) rfl kz_) ?_
    show OwnGoes p e below _ (s₁.setTop (mkF m 6 #[.val (.int x), .val (.int y)] [(.int x)]))
    refine own_pre (fun _ kz_ => XS.goto X0.here hx rfl (pc0 := 6) (pc' := 10) rfl (hb hby d13_6) (by decide) (by decide) kz_) ?_
    show OwnGoes p e below _ (s₁.setTop (mkF m 10 #[.val (.int x), .val (.int y)] [(.int x)]))
    exact own_ret X0 hx Bd.returns (rfl) (Or.inl ⟨rfl, by simp, _, rfl⟩) Bd.notSynchronized (hb hby d13_10) ⟨by rw [hr, if_neg h2], N0, e0⟩ (by decide) (by decide)
def QCpI (Z : State) (vs : List Value) (k : Nat) (h0 : Heap) (n0 : Nat) (v : Option Value) (h : Heap) (L : List Loc) : Prop := ∃ r : Addr, v = some (.ref r) ∧ Fr n0 L ∧ Keep h0 h [] ∧ h0.size ≤ r ∧ OwnA Z h r .int (vs ++ List.replicate (k - vs.length) (.int (0 : Int32)))
theorem d14_0 : decode jdk_65_method_123_code 0 = .ok (.iload_n 1, 1) := by decide +kernel
theorem d14_1 : decode jdk_65_method_123_code 1 = .ok (.aload_n 0, 1) := by decide +kernel
theorem d14_2 : decode jdk_65_method_123_code 2 = .ok (.arraylength, 1) := by decide +kernel
theorem d14_3 : decode jdk_65_method_123_code 3 = .ok (.if_icmp .ne 11, 3) := by decide +kernel
theorem d14_6 : decode jdk_65_method_123_code 6 = .ok (.aload_n 0, 1) := by decide +kernel
theorem d14_7 : decode jdk_65_method_123_code 7 = .ok (.invokevirtual 316, 3) := by decide +kernel
theorem d14_10 : decode jdk_65_method_123_code 10 = .ok (.checkcast 317, 3) := by decide +kernel
theorem d14_13 : decode jdk_65_method_123_code 13 = .ok (.areturn, 1) := by decide +kernel
theorem d14_14 : decode jdk_65_method_123_code 14 = .ok (.iload_n 1, 1) := by decide +kernel
theorem d14_15 : decode jdk_65_method_123_code 15 = .ok (.newarray .int, 2) := by decide +kernel
theorem d14_17 : decode jdk_65_method_123_code 17 = .ok (.astore_n 2, 1) := by decide +kernel
theorem d14_18 : decode jdk_65_method_123_code 18 = .ok (.aload_n 0, 1) := by decide +kernel
theorem d14_19 : decode jdk_65_method_123_code 19 = .ok (.iconst 0, 1) := by decide +kernel
theorem d14_20 : decode jdk_65_method_123_code 20 = .ok (.aload_n 2, 1) := by decide +kernel
theorem d14_21 : decode jdk_65_method_123_code 21 = .ok (.iconst 0, 1) := by decide +kernel
theorem d14_22 : decode jdk_65_method_123_code 22 = .ok (.aload_n 0, 1) := by decide +kernel
theorem d14_23 : decode jdk_65_method_123_code 23 = .ok (.arraylength, 1) := by decide +kernel
theorem d14_24 : decode jdk_65_method_123_code 24 = .ok (.iload_n 1, 1) := by decide +kernel
theorem d14_25 : decode jdk_65_method_123_code 25 = .ok (.invokestatic 304, 3) := by decide +kernel
theorem d14_28 : decode jdk_65_method_123_code 28 = .ok (.invokestatic 150, 3) := by decide +kernel
theorem d14_31 : decode jdk_65_method_123_code 31 = .ok (.aload_n 2, 1) := by decide +kernel
theorem d14_32 : decode jdk_65_method_123_code 32 = .ok (.areturn, 1) := by decide +kernel
set_option maxRecDepth 65536 in
set_option maxHeartbeats 40000000 in
theorem rmCpI (l : Launch) (Z : State) (a0 : Array Value) (hw : ∀ d ∈ tables_1, d.before a0 Z = true) (ws : List Jvm.Cond) (b : Addr) (kI : Int32) (vs : List Value) (k : Nat) (h0 : Heap) (n0 : Nat) (Z0 : n0 ≤ h0.size) (V : OwnA Z h0 b .int vs) (hk : kI = Int32.ofNat k) (hcap : k ≤ 4096) (hlt : vs.length < k) (hfit : ∀ x ∈ vs, fits .int x = true) :
    MetFree l (⟨"java/util/Arrays", "copyOf", "([II)[I"⟩ : MethodName) (head1 (Jvm.Cond.code (⟨"java/util/Arrays", "copyOf", "([II)[I"⟩ : MethodName) jdk_65_method_123_code 3 (some (.array .int)) :: ws) ({ frames := 1, cells := 1, slots := 4096, locals := 40 } : Room)) (fun a U => a = #[(.ref b), (.int kI)] ∧ Z.Warmed39 U.vm ∧ U.heap = h0) (fun _ _ _ _ _ => True) (fun _ Uw_ ow_ Ue_ => ∃ vw_ Lw_, ow_ = .returned vw_ ∧ QCpI Z vs k h0 n0 vw_ Ue_.heap Lw_ ∧ FrameEnd Uw_ ow_ Ue_ Lw_ ({ frames := 1, cells := 1, slots := 4096, locals := 40 } : Room).cells ({ frames := 1, cells := 1, slots := 4096, locals := 40 } : Room).slots) := by
  refine MetFree.of_bodySF (plainFor_of_name (by first | (simp [plainName, overriddenIn]; done) | decide +kernel)) hisR ?_
  intro p e s m args below meth c s₁ Bd hml0 hP hK
  obtain ⟨rfl, hZ, hh⟩ := hP
  have hx := Bd.exec
  have hby := Bd.bytes
  have hml : c.maxLocals = 3 := hml0
  have hown : s.vm.findClass "java/util/Arrays" = some m.cls := findClass_of_methodNamed Bd.named
  have hnm := (name_of_methodNamed Bd.named Bd.method).1
  have X0 : Stand p l e ({ frames := 1, cells := 1, slots := 4096, locals := 40 } : Room) s m #[(.ref b), (.int kI)] below meth c s₁ [] 0 0 := Stand.of_body Bd
  have e0 : s₁.heap = h0 := by rw [← hh, Bd.state]; rfl
  have N0 := Fr.nil n0
  have ef : entryFrame m #[(.ref b), (.int kI)] 3 = (mkF m 0 #[.val (.ref b), .val (.int kI), .unset] []) := by first | (simp [entryFrame, mkF, argsToLocals, Value.category]; done) | rfl
  show OwnGoes p e below (fun ow_ Ue_ => ∃ vw_ Lw_, ow_ = .returned vw_ ∧ QCpI Z vs k h0 n0 vw_ Ue_.heap Lw_ ∧ FrameEnd s ow_ Ue_ Lw_ ({ frames := 1, cells := 1, slots := 4096, locals := 40 } : Room).cells ({ frames := 1, cells := 1, slots := 4096, locals := 40 } : Room).slots) (s₁.setTop (entryFrame m #[(.ref b), (.int kI)] 3))
  refine own_pre (fun t k => castTop ef k) ?_
  show OwnGoes p e below _ (s₁.setTop (mkF m 0 #[.val (.ref b), .val (.int kI), .unset] []))
  refine own_pre (fun _ kz_ => XS.iloadN X0.here hx rfl (hb hby d14_0) rfl kz_) ?_
  show OwnGoes p e below _ (s₁.setTop (mkF m 1 #[.val (.ref b), .val (.int kI), .unset] [(.int kI)]))
  refine own_pre (fun _ kz_ => XS.aloadN X0.here hx rfl (hb hby d14_1) rfl rfl kz_) ?_
  show OwnGoes p e below _ (s₁.setTop (mkF m 2 #[.val (.ref b), .val (.int kI), .unset] [(.ref b), (.int kI)]))
  refine own_pre (own_alen X0 hx hZ e0 V (n := (Int32.ofNat vs.length)) rfl (g := (mkF m 2 #[.val (.ref b), .val (.int kI), .unset] [(.ref b), (.int kI)])) rfl rfl (hb hby d14_2)) ?_
  show OwnGoes p e below _ (s₁.setTop (mkF m 3 #[.val (.ref b), .val (.int kI), .unset] [(.int (Int32.ofNat vs.length)), (.int kI)]))
  refine own_pre (fun _ kz_ => XS.icmpYes X0.here hx rfl (pc0 := 3) (pc' := 14) rfl (hb hby d14_3) rfl (feq (by rw [hk]; exact XT.ne32 (by omega) (by omega) (by omega) : ¬ (kI = (Int32.ofNat vs.length)))).2 (by decide) (by decide) kz_) ?_
  show OwnGoes p e below _ (s₁.setTop (mkF m 14 #[.val (.ref b), .val (.int kI), .unset] []))
  refine own_pre (fun _ kz_ => XS.iloadN X0.here hx rfl (hb hby d14_14) rfl kz_) ?_
  show OwnGoes p e below _ (s₁.setTop (mkF m 15 #[.val (.ref b), .val (.int kI), .unset] [(.int kI)]))
  obtain ⟨T1, h1, X1, e1, E1, V1, st1⟩ := own_newa X0 hx hZ (hw _ (List.mem_of_getElem? (i := 13) rfl)) e0 (g := (mkF m 15 #[.val (.ref b), .val (.int kI), .unset] [(.int kI)])) rfl (hb hby d14_15) rfl (by rw [hk]; exact Int32.ofNat_not_neg (by omega)) (cap := 4096) (by rw [hk, XT.n32 (by omega)]; exact hcap) (by decide) (by decide) (by decide)
  obtain ⟨r, g1⟩ : ∃ z, z = h0.size := ⟨_, rfl⟩
  rw [← g1] at V1 st1
  have g_r : n0 ≤ r := Nat.le_trans Z0 (Nat.le_of_eq g1.symm)
  have sz_r : h0.size ≤ r := Nat.le_trans ((Keep.refl h0 [])).1 (Nat.le_of_eq g1.symm)
  have ne_b_r : b ≠ r := Nat.ne_of_lt (Nat.lt_of_lt_of_le V.lt (Nat.le_of_eq g1.symm))
  have f1_1 := V.ext E1
  have K1 := ((Keep.refl h0 [])).ext E1
  have Z1 := Nat.le_trans Z0 E1.1
  have Va1 : OwnA Z h1 r .int (List.replicate k (.int (0 : Int32))) := by rw [hk, XT.n32 (by omega)] at V1; exact V1
  refine own_pre st1 ?_
  show OwnGoes p e below _ (T1.setTop (mkF m 17 #[.val (.ref b), .val (.int kI), .unset] [(.ref r)]))
  refine own_pre (fun _ kz_ => XS.astoreN X1.here hx rfl (hb hby d14_17) rfl rfl (l' := #[.val (.ref b), .val (.int kI), .val (.ref r)]) rfl kz_) ?_
  show OwnGoes p e below _ (T1.setTop (mkF m 18 #[.val (.ref b), .val (.int kI), .val (.ref r)] []))
  refine own_pre (fun _ kz_ => XS.aloadN X1.here hx rfl (hb hby d14_18) rfl rfl kz_) ?_
  show OwnGoes p e below _ (T1.setTop (mkF m 19 #[.val (.ref b), .val (.int kI), .val (.ref r)] [(.ref b)]))
  refine own_pre (fun _ kz_ => XS.iconst X1.here hx rfl (hb hby d14_19) kz_) ?_
  show OwnGoes p e below _ (T1.setTop (mkF m 20 #[.val (.ref b), .val (.int kI), .val (.ref r)] [(.int (0 : Int32)), (.ref b)]))
  refine own_pre (fun _ kz_ => XS.aloadN X1.here hx rfl (hb hby d14_20) rfl rfl kz_) ?_
  show OwnGoes p e below _ (T1.setTop (mkF m 21 #[.val (.ref b), .val (.int kI), .val (.ref r)] [(.ref r), (.int (0 : Int32)), (.ref b)]))
  refine own_pre (fun _ kz_ => XS.iconst X1.here hx rfl (hb hby d14_21) kz_) ?_
  show OwnGoes p e below _ (T1.setTop (mkF m 22 #[.val (.ref b), .val (.int kI), .val (.ref r)] [(.int (0 : Int32)), (.ref r), (.int (0 : Int32)), (.ref b)]))
  refine own_pre (fun _ kz_ => XS.aloadN X1.here hx rfl (hb hby d14_22) rfl rfl kz_) ?_
  show OwnGoes p e below _ (T1.setTop (mkF m 23 #[.val (.ref b), .val (.int kI), .val (.ref r)] [(.ref b), (.int (0 : Int32)), (.ref r), (.int (0 : Int32)), (.ref b)]))
  refine own_pre (own_alen X1 hx hZ e1 f1_1 (n := (Int32.ofNat vs.length)) rfl (g := (mkF m 23 #[.val (.ref b), .val (.int kI), .val (.ref r)] [(.ref b), (.int (0 : Int32)), (.ref r), (.int (0 : Int32)), (.ref b)])) rfl rfl (hb hby d14_23)) ?_
  show OwnGoes p e below _ (T1.setTop (mkF m 24 #[.val (.ref b), .val (.int kI), .val (.ref r)] [(.int (Int32.ofNat vs.length)), (.int (0 : Int32)), (.ref r), (.int (0 : Int32)), (.ref b)]))
  refine own_pre (fun _ kz_ => XS.iloadN X1.here hx rfl (hb hby d14_24) rfl kz_) ?_
  show OwnGoes p e below _ (T1.setTop (mkF m 25 #[.val (.ref b), .val (.int kI), .val (.ref r)] [(.int kI), (.int (Int32.ofNat vs.length)), (.int (0 : Int32)), (.ref r), (.int (0 : Int32)), (.ref b)]))
  obtain ⟨_, _, ⟨T2, L2, k2, n2⟩, -, X2, ⟨Lc2, hQ2, l2, y2, z2⟩, st2⟩ := Jvm.LawKit.callS X1 hx (y := (⟨"java/lang/Math", "min", "(II)I"⟩ : MethodName)) hown (mvT hZ (hw _ (List.mem_of_getElem? (i := 77) rfl))) (mvT hZ (hw _ (List.mem_of_getElem? (i := 78) rfl))) (mvT hZ (hw _ (List.mem_of_getElem? (i := 68) rfl))) (mvT hZ (hw _ (List.mem_of_getElem? (i := 79) rfl))) (by decide) (backOf (W := 4) (rmMin l Z a0 hw [] (Int32.ofNat vs.length) kI (Int32.ofNat vs.length) h1 n0 Z1 (by rw [if_neg]; rw [hk]; exact XT.nlt32 (by omega) (by omega))) hZ (hw _ (List.mem_of_getElem? (i := 79) rfl)) (hw _ (List.mem_of_getElem? (i := 68) rfl)) (by decide) (by decide)) (g := (mkF m 25 #[.val (.ref b), .val (.int kI), .val (.ref r)] [(.int kI), (.int (Int32.ofNat vs.length)), (.int (0 : Int32)), (.ref r), (.int (0 : Int32)), (.ref b)])) rfl (by rw [hml]; rfl) (argsL := [(.int (Int32.ofNat vs.length)), (.int kI)]) (rest := [(.int (0 : Int32)), (.ref r), (.int (0 : Int32)), (.ref b)]) (lenOf (d := "(II)I") (ps := [.int, .int]) (r := some .int) (by decide +kernel) rfl) rfl (by show 2 * 0 + _ ≤ _; exact Nat.le_of_eq rfl) (hb hby d14_25) (fun _ _ => ⟨rfl, e1, (by decide : 1 + 0 ≤ _), (by decide : 4096 + 0 ≤ _)⟩)
  dsimp only [Pt.U, Pt.locs, Pt.cells, Pt.slots] at X2 l2 y2 z2 st2 hQ2
  subst l2 y2 z2
  obtain ⟨rfl, N2q, e2⟩ := hQ2
  have N2 := Fr.app N0 N2q
  refine own_pre st2 ?_
  show OwnGoes p e below _ (T2.setTop (mkF m 28 #[.val (.ref b), .val (.int kI), .val (.ref r)] [(.int (Int32.ofNat vs.length)), (.int (0 : Int32)), (.ref r), (.int (0 : Int32)), (.ref b)]))
  have hac : ∀ z ∈ XT.acW "java/util/Arrays" 150, z.before #[(.ref b), (.int kI)] s = true := fun z hz => by
    simp only [XT.acW, List.mem_cons, List.not_mem_nil, or_false] at hz
    rcases hz with rfl | rfl | rfl | rfl
    · exact mvT hZ (hw _ (List.mem_of_getElem? (i := 80) rfl))
    · exact mvT hZ (hw _ (List.mem_of_getElem? (i := 83) rfl))
    · exact mvT hZ (hw _ (List.mem_of_getElem? (i := 81) rfl))
    · exact mvT hZ (hw _ (List.mem_of_getElem? (i := 82) rfl))
  obtain ⟨T3, h3, X3, e3, Kc, Vc, st3⟩ := own_acopy X2 hx hZ hown hac e2 f1_1 Va1 rfl rfl hfit (by omega) (by rw [List.length_replicate]; omega) (n := vs.length) rfl (Nat.le_refl _) (by rw [List.length_replicate]; omega) (g := (mkF m 28 #[.val (.ref b), .val (.int kI), .val (.ref r)] [(.int (Int32.ofNat vs.length)), (.int (0 : Int32)), (.ref r), (.int (0 : Int32)), (.ref b)])) rfl (by rw [hml]; rfl) (rest := []) rfl (hb hby d14_28) (W := 0) (by show 2 * 0 + _ ≤ _; exact Nat.le_of_eq rfl) (by decide) (by decide)
  have Vd : OwnA Z h3 r .int (vs ++ List.replicate (k - vs.length) (.int (0 : Int32))) := by simpa using Vc
  have KK := (K1).trans Kc (fun x hx => Or.inr (by cases List.mem_singleton.mp hx; exact sz_r))
  have NN := own_frcopy N2 g_r vs.length
  refine own_pre st3 ?_
  show OwnGoes p e below _ (T3.setTop (mkF m 31 #[.val (.ref b), .val (.int kI), .val (.ref r)] []))
  refine own_pre (fun _ kz_ => XS.aloadN X3.here hx rfl (hb hby d14_31) rfl rfl kz_) ?_
  show OwnGoes p e below _ (T3.setTop (mkF m 32 #[.val (.ref b), .val (.int kI), .val (.ref r)] [(.ref r)]))
  exact own_ret X3 hx Bd.returns (rfl) (Or.inr (Or.inr (Or.inr (Or.inr ⟨rfl, rfl, rfl⟩)))) Bd.notSynchronized (hb hby d14_32) ⟨r, rfl, NN, by rw [e3]; exact KK, sz_r, by rw [e3]; exact Vd⟩ (by decide) (by decide)
def QCpJ (Z : State) (vs : List Value) (k : Nat) (h0 : Heap) (n0 : Nat) (v : Option Value) (h : Heap) (L : List Loc) : Prop := ∃ r : Addr, v = some (.ref r) ∧ Fr n0 L ∧ Keep h0 h [] ∧ h0.size ≤ r ∧ OwnA Z h r .long (vs ++ List.replicate (k - vs.length) (.long (0 : Int64)))
theorem d12_0 : decode jdk_65_method_124_code 0 = .ok (.iload_n 1, 1) := by decide +kernel
theorem d12_1 : decode jdk_65_method_124_code 1 = .ok (.aload_n 0, 1) := by decide +kernel
theorem d12_2 : decode jdk_65_method_124_code 2 = .ok (.arraylength, 1) := by decide +kernel
theorem d12_3 : decode jdk_65_method_124_code 3 = .ok (.if_icmp .ne 11, 3) := by decide +kernel
theorem d12_6 : decode jdk_65_method_124_code 6 = .ok (.aload_n 0, 1) := by decide +kernel
theorem d12_7 : decode jdk_65_method_124_code 7 = .ok (.invokevirtual 319, 3) := by decide +kernel
theorem d12_10 : decode jdk_65_method_124_code 10 = .ok (.checkcast 320, 3) := by decide +kernel
theorem d12_13 : decode jdk_65_method_124_code 13 = .ok (.areturn, 1) := by decide +kernel
theorem d12_14 : decode jdk_65_method_124_code 14 = .ok (.iload_n 1, 1) := by decide +kernel
theorem d12_15 : decode jdk_65_method_124_code 15 = .ok (.newarray .long, 2) := by decide +kernel
theorem d12_17 : decode jdk_65_method_124_code 17 = .ok (.astore_n 2, 1) := by decide +kernel
theorem d12_18 : decode jdk_65_method_124_code 18 = .ok (.aload_n 0, 1) := by decide +kernel
theorem d12_19 : decode jdk_65_method_124_code 19 = .ok (.iconst 0, 1) := by decide +kernel
theorem d12_20 : decode jdk_65_method_124_code 20 = .ok (.aload_n 2, 1) := by decide +kernel
theorem d12_21 : decode jdk_65_method_124_code 21 = .ok (.iconst 0, 1) := by decide +kernel
theorem d12_22 : decode jdk_65_method_124_code 22 = .ok (.aload_n 0, 1) := by decide +kernel
theorem d12_23 : decode jdk_65_method_124_code 23 = .ok (.arraylength, 1) := by decide +kernel
theorem d12_24 : decode jdk_65_method_124_code 24 = .ok (.iload_n 1, 1) := by decide +kernel
theorem d12_25 : decode jdk_65_method_124_code 25 = .ok (.invokestatic 304, 3) := by decide +kernel
theorem d12_28 : decode jdk_65_method_124_code 28 = .ok (.invokestatic 150, 3) := by decide +kernel
theorem d12_31 : decode jdk_65_method_124_code 31 = .ok (.aload_n 2, 1) := by decide +kernel
theorem d12_32 : decode jdk_65_method_124_code 32 = .ok (.areturn, 1) := by decide +kernel
set_option maxRecDepth 65536 in
set_option maxHeartbeats 40000000 in
theorem rmCpJ (l : Launch) (Z : State) (a0 : Array Value) (hw : ∀ d ∈ tables_1, d.before a0 Z = true) (ws : List Jvm.Cond) (b : Addr) (kI : Int32) (vs : List Value) (k : Nat) (h0 : Heap) (n0 : Nat) (Z0 : n0 ≤ h0.size) (V : OwnA Z h0 b .long vs) (hk : kI = Int32.ofNat k) (hcap : k ≤ 4096) (hlt : vs.length < k) (hfit : ∀ x ∈ vs, fits .long x = true) :
    MetFree l (⟨"java/util/Arrays", "copyOf", "([JI)[J"⟩ : MethodName) (head1 (Jvm.Cond.code (⟨"java/util/Arrays", "copyOf", "([JI)[J"⟩ : MethodName) jdk_65_method_124_code 3 (some (.array .long)) :: ws) ({ frames := 1, cells := 1, slots := 4096, locals := 40 } : Room)) (fun a U => a = #[(.ref b), (.int kI)] ∧ Z.Warmed39 U.vm ∧ U.heap = h0) (fun _ _ _ _ _ => True) (fun _ Uw_ ow_ Ue_ => ∃ vw_ Lw_, ow_ = .returned vw_ ∧ QCpJ Z vs k h0 n0 vw_ Ue_.heap Lw_ ∧ FrameEnd Uw_ ow_ Ue_ Lw_ ({ frames := 1, cells := 1, slots := 4096, locals := 40 } : Room).cells ({ frames := 1, cells := 1, slots := 4096, locals := 40 } : Room).slots) := by
  refine MetFree.of_bodySF (plainFor_of_name (by first | (simp [plainName, overriddenIn]; done) | decide +kernel)) hisR ?_
  intro p e s m args below meth c s₁ Bd hml0 hP hK
  obtain ⟨rfl, hZ, hh⟩ := hP
  have hx := Bd.exec
  have hby := Bd.bytes
  have hml : c.maxLocals = 3 := hml0
  have hown : s.vm.findClass "java/util/Arrays" = some m.cls := findClass_of_methodNamed Bd.named
  have hnm := (name_of_methodNamed Bd.named Bd.method).1
  have X0 : Stand p l e ({ frames := 1, cells := 1, slots := 4096, locals := 40 } : Room) s m #[(.ref b), (.int kI)] below meth c s₁ [] 0 0 := Stand.of_body Bd
  have e0 : s₁.heap = h0 := by rw [← hh, Bd.state]; rfl
  have N0 := Fr.nil n0
  have ef : entryFrame m #[(.ref b), (.int kI)] 3 = (mkF m 0 #[.val (.ref b), .val (.int kI), .unset] []) := by first | (simp [entryFrame, mkF, argsToLocals, Value.category]; done) | rfl
  show OwnGoes p e below (fun ow_ Ue_ => ∃ vw_ Lw_, ow_ = .returned vw_ ∧ QCpJ Z vs k h0 n0 vw_ Ue_.heap Lw_ ∧ FrameEnd s ow_ Ue_ Lw_ ({ frames := 1, cells := 1, slots := 4096, locals := 40 } : Room).cells ({ frames := 1, cells := 1, slots := 4096, locals := 40 } : Room).slots) (s₁.setTop (entryFrame m #[(.ref b), (.int kI)] 3))
  refine own_pre (fun t k => castTop ef k) ?_
  show OwnGoes p e below _ (s₁.setTop (mkF m 0 #[.val (.ref b), .val (.int kI), .unset] []))
  refine own_pre (fun _ kz_ => XS.iloadN X0.here hx rfl (hb hby d12_0) rfl kz_) ?_
  show OwnGoes p e below _ (s₁.setTop (mkF m 1 #[.val (.ref b), .val (.int kI), .unset] [(.int kI)]))
  refine own_pre (fun _ kz_ => XS.aloadN X0.here hx rfl (hb hby d12_1) rfl rfl kz_) ?_
  show OwnGoes p e below _ (s₁.setTop (mkF m 2 #[.val (.ref b), .val (.int kI), .unset] [(.ref b), (.int kI)]))
  refine own_pre (own_alen X0 hx hZ e0 V (n := (Int32.ofNat vs.length)) rfl (g := (mkF m 2 #[.val (.ref b), .val (.int kI), .unset] [(.ref b), (.int kI)])) rfl rfl (hb hby d12_2)) ?_
  show OwnGoes p e below _ (s₁.setTop (mkF m 3 #[.val (.ref b), .val (.int kI), .unset] [(.int (Int32.ofNat vs.length)), (.int kI)]))
  refine own_pre (fun _ kz_ => XS.icmpYes X0.here hx rfl (pc0 := 3) (pc' := 14) rfl (hb hby d12_3) rfl (feq (by rw [hk]; exact XT.ne32 (by omega) (by omega) (by omega) : ¬ (kI = (Int32.ofNat vs.length)))).2 (by decide) (by decide) kz_) ?_
  show OwnGoes p e below _ (s₁.setTop (mkF m 14 #[.val (.ref b), .val (.int kI), .unset] []))
  refine own_pre (fun _ kz_ => XS.iloadN X0.here hx rfl (hb hby d12_14) rfl kz_) ?_
  show OwnGoes p e below _ (s₁.setTop (mkF m 15 #[.val (.ref b), .val (.int kI), .unset] [(.int kI)]))
  obtain ⟨T1, h1, X1, e1, E1, V1, st1⟩ := own_newa X0 hx hZ (hw _ (List.mem_of_getElem? (i := 10) rfl)) e0 (g := (mkF m 15 #[.val (.ref b), .val (.int kI), .unset] [(.int kI)])) rfl (hb hby d12_15) rfl (by rw [hk]; exact Int32.ofNat_not_neg (by omega)) (cap := 4096) (by rw [hk, XT.n32 (by omega)]; exact hcap) (by decide) (by decide) (by decide)
  obtain ⟨r, g1⟩ : ∃ z, z = h0.size := ⟨_, rfl⟩
  rw [← g1] at V1 st1
  have g_r : n0 ≤ r := Nat.le_trans Z0 (Nat.le_of_eq g1.symm)
  have sz_r : h0.size ≤ r := Nat.le_trans ((Keep.refl h0 [])).1 (Nat.le_of_eq g1.symm)
  have ne_b_r : b ≠ r := Nat.ne_of_lt (Nat.lt_of_lt_of_le V.lt (Nat.le_of_eq g1.symm))
  have f1_1 := V.ext E1
  have K1 := ((Keep.refl h0 [])).ext E1
  have Z1 := Nat.le_trans Z0 E1.1
  have Va1 : OwnA Z h1 r .long (List.replicate k (.long (0 : Int64))) := by rw [hk, XT.n32 (by omega)] at V1; exact V1
  refine own_pre st1 ?_
  show OwnGoes p e below _ (T1.setTop (mkF m 17 #[.val (.ref b), .val (.int kI), .unset] [(.ref r)]))
  refine own_pre (fun _ kz_ => XS.astoreN X1.here hx rfl (hb hby d12_17) rfl rfl (l' := #[.val (.ref b), .val (.int kI), .val (.ref r)]) rfl kz_) ?_
  show OwnGoes p e below _ (T1.setTop (mkF m 18 #[.val (.ref b), .val (.int kI), .val (.ref r)] []))
  refine own_pre (fun _ kz_ => XS.aloadN X1.here hx rfl (hb hby d12_18) rfl rfl kz_) ?_
  show OwnGoes p e below _ (T1.setTop (mkF m 19 #[.val (.ref b), .val (.int kI), .val (.ref r)] [(.ref b)]))
  refine own_pre (fun _ kz_ => XS.iconst X1.here hx rfl (hb hby d12_19) kz_) ?_
  show OwnGoes p e below _ (T1.setTop (mkF m 20 #[.val (.ref b), .val (.int kI), .val (.ref r)] [(.int (0 : Int32)), (.ref b)]))
  refine own_pre (fun _ kz_ => XS.aloadN X1.here hx rfl (hb hby d12_20) rfl rfl kz_) ?_
  show OwnGoes p e below _ (T1.setTop (mkF m 21 #[.val (.ref b), .val (.int kI), .val (.ref r)] [(.ref r), (.int (0 : Int32)), (.ref b)]))
  refine own_pre (fun _ kz_ => XS.iconst X1.here hx rfl (hb hby d12_21) kz_) ?_
  show OwnGoes p e below _ (T1.setTop (mkF m 22 #[.val (.ref b), .val (.int kI), .val (.ref r)] [(.int (0 : Int32)), (.ref r), (.int (0 : Int32)), (.ref b)]))
  refine own_pre (fun _ kz_ => XS.aloadN X1.here hx rfl (hb hby d12_22) rfl rfl kz_) ?_
  show OwnGoes p e below _ (T1.setTop (mkF m 23 #[.val (.ref b), .val (.int kI), .val (.ref r)] [(.ref b), (.int (0 : Int32)), (.ref r), (.int (0 : Int32)), (.ref b)]))
  refine own_pre (own_alen X1 hx hZ e1 f1_1 (n := (Int32.ofNat vs.length)) rfl (g := (mkF m 23 #[.val (.ref b), .val (.int kI), .val (.ref r)] [(.ref b), (.int (0 : Int32)), (.ref r), (.int (0 : Int32)), (.ref b)])) rfl rfl (hb hby d12_23)) ?_
  show OwnGoes p e below _ (T1.setTop (mkF m 24 #[.val (.ref b), .val (.int kI), .val (.ref r)] [(.int (Int32.ofNat vs.length)), (.int (0 : Int32)), (.ref r), (.int (0 : Int32)), (.ref b)]))
  refine own_pre (fun _ kz_ => XS.iloadN X1.here hx rfl (hb hby d12_24) rfl kz_) ?_
  show OwnGoes p e below _ (T1.setTop (mkF m 25 #[.val (.ref b), .val (.int kI), .val (.ref r)] [(.int kI), (.int (Int32.ofNat vs.length)), (.int (0 : Int32)), (.ref r), (.int (0 : Int32)), (.ref b)]))
  obtain ⟨_, _, ⟨T2, L2, k2, n2⟩, -, X2, ⟨Lc2, hQ2, l2, y2, z2⟩, st2⟩ := Jvm.LawKit.callS X1 hx (y := (⟨"java/lang/Math", "min", "(II)I"⟩ : MethodName)) hown (mvT hZ (hw _ (List.mem_of_getElem? (i := 77) rfl))) (mvT hZ (hw _ (List.mem_of_getElem? (i := 78) rfl))) (mvT hZ (hw _ (List.mem_of_getElem? (i := 68) rfl))) (mvT hZ (hw _ (List.mem_of_getElem? (i := 79) rfl))) (by decide) (backOf (W := 4) (rmMin l Z a0 hw [] (Int32.ofNat vs.length) kI (Int32.ofNat vs.length) h1 n0 Z1 (by rw [if_neg]; rw [hk]; exact XT.nlt32 (by omega) (by omega))) hZ (hw _ (List.mem_of_getElem? (i := 79) rfl)) (hw _ (List.mem_of_getElem? (i := 68) rfl)) (by decide) (by decide)) (g := (mkF m 25 #[.val (.ref b), .val (.int kI), .val (.ref r)] [(.int kI), (.int (Int32.ofNat vs.length)), (.int (0 : Int32)), (.ref r), (.int (0 : Int32)), (.ref b)])) rfl (by rw [hml]; rfl) (argsL := [(.int (Int32.ofNat vs.length)), (.int kI)]) (rest := [(.int (0 : Int32)), (.ref r), (.int (0 : Int32)), (.ref b)]) (lenOf (d := "(II)I") (ps := [.int, .int]) (r := some .int) (by decide +kernel) rfl) rfl (by show 2 * 0 + _ ≤ _; exact Nat.le_of_eq rfl) (hb hby d12_25) (fun _ _ => ⟨rfl, e1, (by decide : 1 + 0 ≤ _), (by decide : 4096 + 0 ≤ _)⟩)
  dsimp only [Pt.U, Pt.locs, Pt.cells, Pt.slots] at X2 l2 y2 z2 st2 hQ2
  subst l2 y2 z2
  obtain ⟨rfl, N2q, e2⟩ := hQ2
  have N2 := Fr.app N0 N2q
  refine own_pre st2 ?_
  show OwnGoes p e below _ (T2.setTop (mkF m 28 #[.val (.ref b), .val (.int kI), .val (.ref r)] [(.int (Int32.ofNat vs.length)), (.int (0 : Int32)), (.ref r), (.int (0 : Int32)), (.ref b)]))
  have hac : ∀ z ∈ XT.acW "java/util/Arrays" 150, z.before #[(.ref b), (.int kI)] s = true := fun z hz => by
    simp only [XT.acW, List.mem_cons, List.not_mem_nil, or_false] at hz
    rcases hz with rfl | rfl | rfl | rfl
    · exact mvT hZ (hw _ (List.mem_of_getElem? (i := 80) rfl))
    · exact mvT hZ (hw _ (List.mem_of_getElem? (i := 83) rfl))
    · exact mvT hZ (hw _ (List.mem_of_getElem? (i := 81) rfl))
    · exact mvT hZ (hw _ (List.mem_of_getElem? (i := 82) rfl))
  obtain ⟨T3, h3, X3, e3, Kc, Vc, st3⟩ := own_acopy X2 hx hZ hown hac e2 f1_1 Va1 rfl rfl hfit (by omega) (by rw [List.length_replicate]; omega) (n := vs.length) rfl (Nat.le_refl _) (by rw [List.length_replicate]; omega) (g := (mkF m 28 #[.val (.ref b), .val (.int kI), .val (.ref r)] [(.int (Int32.ofNat vs.length)), (.int (0 : Int32)), (.ref r), (.int (0 : Int32)), (.ref b)])) rfl (by rw [hml]; rfl) (rest := []) rfl (hb hby d12_28) (W := 0) (by show 2 * 0 + _ ≤ _; exact Nat.le_of_eq rfl) (by decide) (by decide)
  have Vd : OwnA Z h3 r .long (vs ++ List.replicate (k - vs.length) (.long (0 : Int64))) := by simpa using Vc
  have KK := (K1).trans Kc (fun x hx => Or.inr (by cases List.mem_singleton.mp hx; exact sz_r))
  have NN := own_frcopy N2 g_r vs.length
  refine own_pre st3 ?_
  show OwnGoes p e below _ (T3.setTop (mkF m 31 #[.val (.ref b), .val (.int kI), .val (.ref r)] []))
  refine own_pre (fun _ kz_ => XS.aloadN X3.here hx rfl (hb hby d12_31) rfl rfl kz_) ?_
  show OwnGoes p e below _ (T3.setTop (mkF m 32 #[.val (.ref b), .val (.int kI), .val (.ref r)] [(.ref r)]))
  exact own_ret X3 hx Bd.returns (rfl) (Or.inr (Or.inr (Or.inr (Or.inr ⟨rfl, rfl, rfl⟩)))) Bd.notSynchronized (hb hby d12_32) ⟨r, rfl, NN, by rw [e3]; exact KK, sz_r, by rw [e3]; exact Vd⟩ (by decide) (by decide)
theorem d1_0 : decode prog_119_method_1_code 0 = .ok (.aload_n 0, 1) := by decide +kernel
theorem d1_1 : decode prog_119_method_1_code 1 = .ok (.invokespecial 5, 3) := by decide +kernel
theorem d1_4 : decode prog_119_method_1_code 4 = .ok (.aload_n 0, 1) := by decide +kernel
theorem d1_5 : decode prog_119_method_1_code 5 = .ok (.sipush 1024, 3) := by decide +kernel
theorem d1_8 : decode prog_119_method_1_code 8 = .ok (.newarray .long, 2) := by decide +kernel
theorem d1_10 : decode prog_119_method_1_code 10 = .ok (.putfield 11, 3) := by decide +kernel
theorem d1_13 : decode prog_119_method_1_code 13 = .ok (.aload_n 0, 1) := by decide +kernel
theorem d1_14 : decode prog_119_method_1_code 14 = .ok (.sipush 1024, 3) := by decide +kernel
theorem d1_17 : decode prog_119_method_1_code 17 = .ok (.newarray .int, 2) := by decide +kernel
theorem d1_19 : decode prog_119_method_1_code 19 = .ok (.putfield 17, 3) := by decide +kernel
theorem d1_22 : decode prog_119_method_1_code 22 = .ok (.aload_n 0, 1) := by decide +kernel
theorem d1_23 : decode prog_119_method_1_code 23 = .ok (.sipush 1024, 3) := by decide +kernel
theorem d1_26 : decode prog_119_method_1_code 26 = .ok (.newarray .int, 2) := by decide +kernel
theorem d1_28 : decode prog_119_method_1_code 28 = .ok (.putfield 21, 3) := by decide +kernel
theorem d1_31 : decode prog_119_method_1_code 31 = .ok (.aload_n 0, 1) := by decide +kernel
theorem d1_32 : decode prog_119_method_1_code 32 = .ok (.sipush 1024, 3) := by decide +kernel
theorem d1_35 : decode prog_119_method_1_code 35 = .ok (.newarray .long, 2) := by decide +kernel
theorem d1_37 : decode prog_119_method_1_code 37 = .ok (.putfield 24, 3) := by decide +kernel
theorem d1_40 : decode prog_119_method_1_code 40 = .ok (.aload_n 0, 1) := by decide +kernel
theorem d1_41 : decode prog_119_method_1_code 41 = .ok (.new 27, 3) := by decide +kernel
theorem d1_44 : decode prog_119_method_1_code 44 = .ok (.dup, 1) := by decide +kernel
theorem d1_45 : decode prog_119_method_1_code 45 = .ok (.invokespecial 29, 3) := by decide +kernel
theorem d1_48 : decode prog_119_method_1_code 48 = .ok (.putfield 30, 3) := by decide +kernel
theorem d1_51 : decode prog_119_method_1_code 51 = .ok (.return_, 1) := by decide +kernel
theorem d3_0 : decode jdk_92_method_4_code 0 = .ok (.aload_n 0, 1) := by decide +kernel
theorem d3_1 : decode jdk_92_method_4_code 1 = .ok (.invokespecial 21, 3) := by decide +kernel
theorem d3_4 : decode jdk_92_method_4_code 4 = .ok (.aload_n 0, 1) := by decide +kernel
theorem d3_5 : decode jdk_92_method_4_code 5 = .ok (.iconst 0, 1) := by decide +kernel
theorem d3_6 : decode jdk_92_method_4_code 6 = .ok (.putfield 7, 3) := by decide +kernel
theorem d3_9 : decode jdk_92_method_4_code 9 = .ok (.aload_n 0, 1) := by decide +kernel
theorem d3_10 : decode jdk_92_method_4_code 10 = .ok (.iconst 0, 1) := by decide +kernel
theorem d3_11 : decode jdk_92_method_4_code 11 = .ok (.putfield 24, 3) := by decide +kernel
theorem d3_14 : decode jdk_92_method_4_code 14 = .ok (.aload_n 0, 1) := by decide +kernel
theorem d3_15 : decode jdk_92_method_4_code 15 = .ok (.bipush 64, 2) := by decide +kernel
theorem d3_17 : decode jdk_92_method_4_code 17 = .ok (.invokevirtual 27, 3) := by decide +kernel
theorem d3_20 : decode jdk_92_method_4_code 20 = .ok (.aload_n 0, 1) := by decide +kernel
theorem d3_21 : decode jdk_92_method_4_code 21 = .ok (.iconst 0, 1) := by decide +kernel
theorem d3_22 : decode jdk_92_method_4_code 22 = .ok (.putfield 24, 3) := by decide +kernel
theorem d3_25 : decode jdk_92_method_4_code 25 = .ok (.return_, 1) := by decide +kernel
theorem d4_0 : decode jdk_92_method_6_code 0 = .ok (.aload_n 0, 1) := by decide +kernel
theorem d4_1 : decode jdk_92_method_6_code 1 = .ok (.iload_n 1, 1) := by decide +kernel
theorem d4_2 : decode jdk_92_method_6_code 2 = .ok (.iconst 1, 1) := by decide +kernel
theorem d4_3 : decode jdk_92_method_6_code 3 = .ok (.isub, 1) := by decide +kernel
theorem d4_4 : decode jdk_92_method_6_code 4 = .ok (.invokestatic 52, 3) := by decide +kernel
theorem d4_7 : decode jdk_92_method_6_code 7 = .ok (.iconst 1, 1) := by decide +kernel
theorem d4_8 : decode jdk_92_method_6_code 8 = .ok (.iadd, 1) := by decide +kernel
theorem d4_9 : decode jdk_92_method_6_code 9 = .ok (.newarray .long, 2) := by decide +kernel
theorem d4_11 : decode jdk_92_method_6_code 11 = .ok (.putfield 11, 3) := by decide +kernel
theorem d4_14 : decode jdk_92_method_6_code 14 = .ok (.return_, 1) := by decide +kernel
theorem d5_0 : decode jdk_92_method_1_code 0 = .ok (.iload_n 0, 1) := by decide +kernel
theorem d5_1 : decode jdk_92_method_1_code 1 = .ok (.bipush 6, 2) := by decide +kernel
theorem d5_3 : decode jdk_92_method_1_code 3 = .ok (.ishr, 1) := by decide +kernel
theorem d5_4 : decode jdk_92_method_1_code 4 = .ok (.ireturn, 1) := by decide +kernel
theorem d6_0 : decode prog_119_method_9_code 0 = .ok (.lload_n 1, 1) := by decide +kernel
theorem d6_1 : decode prog_119_method_9_code 1 = .ok (.lconst 0, 1) := by decide +kernel
theorem d6_2 : decode prog_119_method_9_code 2 = .ok (.lcmp, 1) := by decide +kernel
theorem d6_3 : decode prog_119_method_9_code 3 = .ok (.ifCond .le 26, 3) := by decide +kernel
theorem d6_6 : decode prog_119_method_9_code 6 = .ok (.lload_n 1, 1) := by decide +kernel
theorem d6_7 : decode prog_119_method_9_code 7 = .ok (.aload_n 0, 1) := by decide +kernel
theorem d6_8 : decode prog_119_method_9_code 8 = .ok (.getfield 21, 3) := by decide +kernel
theorem d6_11 : decode prog_119_method_9_code 11 = .ok (.arraylength, 1) := by decide +kernel
theorem d6_12 : decode prog_119_method_9_code 12 = .ok (.i2l, 1) := by decide +kernel
theorem d6_13 : decode prog_119_method_9_code 13 = .ok (.lcmp, 1) := by decide +kernel
theorem d6_14 : decode prog_119_method_9_code 14 = .ok (.ifCond .ge 15, 3) := by decide +kernel
theorem d6_17 : decode prog_119_method_9_code 17 = .ok (.aload_n 0, 1) := by decide +kernel
theorem d6_18 : decode prog_119_method_9_code 18 = .ok (.getfield 21, 3) := by decide +kernel
theorem d6_21 : decode prog_119_method_9_code 21 = .ok (.lload_n 1, 1) := by decide +kernel
theorem d6_22 : decode prog_119_method_9_code 22 = .ok (.l2i, 1) := by decide +kernel
theorem d6_23 : decode prog_119_method_9_code 23 = .ok (.iaload, 1) := by decide +kernel
theorem d6_24 : decode prog_119_method_9_code 24 = .ok (.iconst 1, 1) := by decide +kernel
theorem d6_25 : decode prog_119_method_9_code 25 = .ok (.isub, 1) := by decide +kernel
theorem d6_26 : decode prog_119_method_9_code 26 = .ok (.goto 4, 3) := by decide +kernel
theorem d6_29 : decode prog_119_method_9_code 29 = .ok (.iconst (-1), 1) := by decide +kernel
theorem d6_30 : decode prog_119_method_9_code 30 = .ok (.ireturn, 1) := by decide +kernel
theorem d7_0 : decode prog_119_method_2_code 0 = .ok (.lload_n 1, 1) := by decide +kernel
theorem d7_1 : decode prog_119_method_2_code 1 = .ok (.l2i, 1) := by decide +kernel
theorem d7_2 : decode prog_119_method_2_code 2 = .ok (.istore 9, 2) := by decide +kernel
theorem d7_4 : decode prog_119_method_2_code 4 = .ok (.iload 9, 2) := by decide +kernel
theorem d7_6 : decode prog_119_method_2_code 6 = .ok (.aload_n 0, 1) := by decide +kernel
theorem d7_7 : decode prog_119_method_2_code 7 = .ok (.getfield 11, 3) := by decide +kernel
theorem d7_10 : decode prog_119_method_2_code 10 = .ok (.arraylength, 1) := by decide +kernel
theorem d7_11 : decode prog_119_method_2_code 11 = .ok (.if_icmp .lt 80, 3) := by decide +kernel
theorem d7_14 : decode prog_119_method_2_code 14 = .ok (.ldc2_w 34, 3) := by decide +kernel
theorem d7_17 : decode prog_119_method_2_code 17 = .ok (.ldc2_w 36, 3) := by decide +kernel
theorem d7_20 : decode prog_119_method_2_code 20 = .ok (.aload_n 0, 1) := by decide +kernel
theorem d7_21 : decode prog_119_method_2_code 21 = .ok (.getfield 11, 3) := by decide +kernel
theorem d7_24 : decode prog_119_method_2_code 24 = .ok (.arraylength, 1) := by decide +kernel
theorem d7_25 : decode prog_119_method_2_code 25 = .ok (.i2l, 1) := by decide +kernel
theorem d7_26 : decode prog_119_method_2_code 26 = .ok (.lmul, 1) := by decide +kernel
theorem d7_27 : decode prog_119_method_2_code 27 = .ok (.lload_n 1, 1) := by decide +kernel
theorem d7_28 : decode prog_119_method_2_code 28 = .ok (.lconst 1, 1) := by decide +kernel
theorem d7_29 : decode prog_119_method_2_code 29 = .ok (.ladd, 1) := by decide +kernel
theorem d7_30 : decode prog_119_method_2_code 30 = .ok (.invokestatic 38, 3) := by decide +kernel
theorem d7_33 : decode prog_119_method_2_code 33 = .ok (.invokestatic 44, 3) := by decide +kernel
theorem d7_36 : decode prog_119_method_2_code 36 = .ok (.l2i, 1) := by decide +kernel
theorem d7_37 : decode prog_119_method_2_code 37 = .ok (.istore 10, 2) := by decide +kernel
theorem d7_39 : decode prog_119_method_2_code 39 = .ok (.aload_n 0, 1) := by decide +kernel
theorem d7_40 : decode prog_119_method_2_code 40 = .ok (.aload_n 0, 1) := by decide +kernel
theorem d7_41 : decode prog_119_method_2_code 41 = .ok (.getfield 11, 3) := by decide +kernel
theorem d7_44 : decode prog_119_method_2_code 44 = .ok (.iload 10, 2) := by decide +kernel
theorem d7_46 : decode prog_119_method_2_code 46 = .ok (.invokestatic 47, 3) := by decide +kernel
theorem d7_49 : decode prog_119_method_2_code 49 = .ok (.putfield 11, 3) := by decide +kernel
theorem d7_52 : decode prog_119_method_2_code 52 = .ok (.aload_n 0, 1) := by decide +kernel
theorem d7_53 : decode prog_119_method_2_code 53 = .ok (.aload_n 0, 1) := by decide +kernel
theorem d7_54 : decode prog_119_method_2_code 54 = .ok (.getfield 17, 3) := by decide +kernel
theorem d7_57 : decode prog_119_method_2_code 57 = .ok (.iload 10, 2) := by decide +kernel
theorem d7_59 : decode prog_119_method_2_code 59 = .ok (.invokestatic 53, 3) := by decide +kernel
theorem d7_62 : decode prog_119_method_2_code 62 = .ok (.putfield 17, 3) := by decide +kernel
theorem d7_65 : decode prog_119_method_2_code 65 = .ok (.aload_n 0, 1) := by decide +kernel
theorem d7_66 : decode prog_119_method_2_code 66 = .ok (.aload_n 0, 1) := by decide +kernel
theorem d7_67 : decode prog_119_method_2_code 67 = .ok (.getfield 21, 3) := by decide +kernel
theorem d7_70 : decode prog_119_method_2_code 70 = .ok (.iload 10, 2) := by decide +kernel
theorem d7_72 : decode prog_119_method_2_code 72 = .ok (.invokestatic 53, 3) := by decide +kernel
theorem d7_75 : decode prog_119_method_2_code 75 = .ok (.putfield 21, 3) := by decide +kernel
theorem d7_78 : decode prog_119_method_2_code 78 = .ok (.aload_n 0, 1) := by decide +kernel
theorem d7_79 : decode prog_119_method_2_code 79 = .ok (.aload_n 0, 1) := by decide +kernel
theorem d7_80 : decode prog_119_method_2_code 80 = .ok (.getfield 24, 3) := by decide +kernel
theorem d7_83 : decode prog_119_method_2_code 83 = .ok (.iload 10, 2) := by decide +kernel
theorem d7_85 : decode prog_119_method_2_code 85 = .ok (.invokestatic 47, 3) := by decide +kernel
theorem d7_88 : decode prog_119_method_2_code 88 = .ok (.putfield 24, 3) := by decide +kernel
theorem d7_91 : decode prog_119_method_2_code 91 = .ok (.aload_n 0, 1) := by decide +kernel
theorem d7_92 : decode prog_119_method_2_code 92 = .ok (.getfield 11, 3) := by decide +kernel
theorem d7_95 : decode prog_119_method_2_code 95 = .ok (.iload 9, 2) := by decide +kernel
theorem d7_97 : decode prog_119_method_2_code 97 = .ok (.lload_n 3, 1) := by decide +kernel
theorem d7_98 : decode prog_119_method_2_code 98 = .ok (.lastore, 1) := by decide +kernel
theorem d7_99 : decode prog_119_method_2_code 99 = .ok (.aload_n 0, 1) := by decide +kernel
theorem d7_100 : decode prog_119_method_2_code 100 = .ok (.getfield 17, 3) := by decide +kernel
theorem d7_103 : decode prog_119_method_2_code 103 = .ok (.iload 9, 2) := by decide +kernel
theorem d7_105 : decode prog_119_method_2_code 105 = .ok (.iload 5, 2) := by decide +kernel
theorem d7_107 : decode prog_119_method_2_code 107 = .ok (.iastore, 1) := by decide +kernel
theorem d7_108 : decode prog_119_method_2_code 108 = .ok (.aload_n 0, 1) := by decide +kernel
theorem d7_109 : decode prog_119_method_2_code 109 = .ok (.getfield 21, 3) := by decide +kernel
theorem d7_112 : decode prog_119_method_2_code 112 = .ok (.iload 9, 2) := by decide +kernel
theorem d7_114 : decode prog_119_method_2_code 114 = .ok (.iload 6, 2) := by decide +kernel
theorem d7_116 : decode prog_119_method_2_code 116 = .ok (.iconst 1, 1) := by decide +kernel
theorem d7_117 : decode prog_119_method_2_code 117 = .ok (.iadd, 1) := by decide +kernel
theorem d7_118 : decode prog_119_method_2_code 118 = .ok (.iastore, 1) := by decide +kernel
theorem d7_119 : decode prog_119_method_2_code 119 = .ok (.aload_n 0, 1) := by decide +kernel
theorem d7_120 : decode prog_119_method_2_code 120 = .ok (.getfield 24, 3) := by decide +kernel
theorem d7_123 : decode prog_119_method_2_code 123 = .ok (.iload 9, 2) := by decide +kernel
theorem d7_125 : decode prog_119_method_2_code 125 = .ok (.aload_n 0, 1) := by decide +kernel
theorem d7_126 : decode prog_119_method_2_code 126 = .ok (.getfield 30, 3) := by decide +kernel
theorem d7_129 : decode prog_119_method_2_code 129 = .ok (.iload 6, 2) := by decide +kernel
theorem d7_131 : decode prog_119_method_2_code 131 = .ok (.invokevirtual 56, 3) := by decide +kernel
theorem d7_134 : decode prog_119_method_2_code 134 = .ok (.ifCond .eq 12, 3) := by decide +kernel
theorem d7_137 : decode prog_119_method_2_code 137 = .ok (.lload 7, 2) := by decide +kernel
theorem d7_139 : decode prog_119_method_2_code 139 = .ok (.ldc2_w 60, 3) := by decide +kernel
theorem d7_142 : decode prog_119_method_2_code 142 = .ok (.lor, 1) := by decide +kernel
theorem d7_143 : decode prog_119_method_2_code 143 = .ok (.goto 5, 3) := by decide +kernel
theorem d7_146 : decode prog_119_method_2_code 146 = .ok (.lload 7, 2) := by decide +kernel
theorem d7_148 : decode prog_119_method_2_code 148 = .ok (.lastore, 1) := by decide +kernel
theorem d7_149 : decode prog_119_method_2_code 149 = .ok (.return_, 1) := by decide +kernel
theorem d8_0 : decode jdk_92_method_26_code 0 = .ok (.iload_n 1, 1) := by decide +kernel
theorem d8_1 : decode jdk_92_method_26_code 1 = .ok (.ifCond .ge 30, 3) := by decide +kernel
theorem d8_4 : decode jdk_92_method_26_code 4 = .ok (.new 142, 3) := by decide +kernel
theorem d8_7 : decode jdk_92_method_26_code 7 = .ok (.dup, 1) := by decide +kernel
theorem d8_8 : decode jdk_92_method_26_code 8 = .ok (.new 33, 3) := by decide +kernel
theorem d8_11 : decode jdk_92_method_26_code 11 = .ok (.dup, 1) := by decide +kernel
theorem d8_12 : decode jdk_92_method_26_code 12 = .ok (.invokespecial 35, 3) := by decide +kernel
theorem d8_15 : decode jdk_92_method_26_code 15 = .ok (.ldc 153, 2) := by decide +kernel
theorem d8_17 : decode jdk_92_method_26_code 17 = .ok (.invokevirtual 38, 3) := by decide +kernel
theorem d8_20 : decode jdk_92_method_26_code 20 = .ok (.iload_n 1, 1) := by decide +kernel
theorem d8_21 : decode jdk_92_method_26_code 21 = .ok (.invokevirtual 42, 3) := by decide +kernel
theorem d8_24 : decode jdk_92_method_26_code 24 = .ok (.invokevirtual 45, 3) := by decide +kernel
theorem d8_27 : decode jdk_92_method_26_code 27 = .ok (.invokespecial 146, 3) := by decide +kernel
theorem d8_30 : decode jdk_92_method_26_code 30 = .ok (.athrow, 1) := by decide +kernel
theorem d8_31 : decode jdk_92_method_26_code 31 = .ok (.aload_n 0, 1) := by decide +kernel
theorem d8_32 : decode jdk_92_method_26_code 32 = .ok (.invokevirtual 56, 3) := by decide +kernel
theorem d8_35 : decode jdk_92_method_26_code 35 = .ok (.iload_n 1, 1) := by decide +kernel
theorem d8_36 : decode jdk_92_method_26_code 36 = .ok (.invokestatic 52, 3) := by decide +kernel
theorem d8_39 : decode jdk_92_method_26_code 39 = .ok (.istore_n 2, 1) := by decide +kernel
theorem d8_40 : decode jdk_92_method_26_code 40 = .ok (.iload_n 2, 1) := by decide +kernel
theorem d8_41 : decode jdk_92_method_26_code 41 = .ok (.aload_n 0, 1) := by decide +kernel
theorem d8_42 : decode jdk_92_method_26_code 42 = .ok (.getfield 7, 3) := by decide +kernel
theorem d8_45 : decode jdk_92_method_26_code 45 = .ok (.if_icmp .ge 22, 3) := by decide +kernel
theorem d8_48 : decode jdk_92_method_26_code 48 = .ok (.aload_n 0, 1) := by decide +kernel
theorem d8_49 : decode jdk_92_method_26_code 49 = .ok (.getfield 11, 3) := by decide +kernel
theorem d8_52 : decode jdk_92_method_26_code 52 = .ok (.iload_n 2, 1) := by decide +kernel
theorem d8_53 : decode jdk_92_method_26_code 53 = .ok (.laload, 1) := by decide +kernel
theorem d8_54 : decode jdk_92_method_26_code 54 = .ok (.lconst 1, 1) := by decide +kernel
theorem d8_55 : decode jdk_92_method_26_code 55 = .ok (.iload_n 1, 1) := by decide +kernel
theorem d8_56 : decode jdk_92_method_26_code 56 = .ok (.lshl, 1) := by decide +kernel
theorem d8_57 : decode jdk_92_method_26_code 57 = .ok (.land, 1) := by decide +kernel
theorem d8_58 : decode jdk_92_method_26_code 58 = .ok (.lconst 0, 1) := by decide +kernel
theorem d8_59 : decode jdk_92_method_26_code 59 = .ok (.lcmp, 1) := by decide +kernel
theorem d8_60 : decode jdk_92_method_26_code 60 = .ok (.ifCond .eq 7, 3) := by decide +kernel
theorem d8_63 : decode jdk_92_method_26_code 63 = .ok (.iconst 1, 1) := by decide +kernel
theorem d8_64 : decode jdk_92_method_26_code 64 = .ok (.goto 4, 3) := by decide +kernel
theorem d8_67 : decode jdk_92_method_26_code 67 = .ok (.iconst 0, 1) := by decide +kernel
theorem d8_68 : decode jdk_92_method_26_code 68 = .ok (.ireturn, 1) := by decide +kernel
theorem d9_0 : decode jdk_92_method_2_code 0 = .ok (.getstatic 3, 3) := by decide +kernel
theorem d9_3 : decode jdk_92_method_2_code 3 = .ok (.ifCond .ne 34, 3) := by decide +kernel
theorem d9_6 : decode jdk_92_method_2_code 6 = .ok (.aload_n 0, 1) := by decide +kernel
theorem d9_7 : decode jdk_92_method_2_code 7 = .ok (.getfield 7, 3) := by decide +kernel
theorem d9_10 : decode jdk_92_method_2_code 10 = .ok (.ifCond .eq 27, 3) := by decide +kernel
theorem d9_13 : decode jdk_92_method_2_code 13 = .ok (.aload_n 0, 1) := by decide +kernel
theorem d9_14 : decode jdk_92_method_2_code 14 = .ok (.getfield 11, 3) := by decide +kernel
theorem d9_17 : decode jdk_92_method_2_code 17 = .ok (.aload_n 0, 1) := by decide +kernel
theorem d9_18 : decode jdk_92_method_2_code 18 = .ok (.getfield 7, 3) := by decide +kernel
theorem d9_21 : decode jdk_92_method_2_code 21 = .ok (.iconst 1, 1) := by decide +kernel
theorem d9_22 : decode jdk_92_method_2_code 22 = .ok (.isub, 1) := by decide +kernel
theorem d9_23 : decode jdk_92_method_2_code 23 = .ok (.laload, 1) := by decide +kernel
theorem d9_24 : decode jdk_92_method_2_code 24 = .ok (.lconst 0, 1) := by decide +kernel
theorem d9_25 : decode jdk_92_method_2_code 25 = .ok (.lcmp, 1) := by decide +kernel
theorem d9_26 : decode jdk_92_method_2_code 26 = .ok (.ifCond .ne 11, 3) := by decide +kernel
theorem d9_29 : decode jdk_92_method_2_code 29 = .ok (.new 15, 3) := by decide +kernel
theorem d9_32 : decode jdk_92_method_2_code 32 = .ok (.dup, 1) := by decide +kernel
theorem d9_33 : decode jdk_92_method_2_code 33 = .ok (.invokespecial 17, 3) := by decide +kernel
theorem d9_36 : decode jdk_92_method_2_code 36 = .ok (.athrow, 1) := by decide +kernel
theorem d9_37 : decode jdk_92_method_2_code 37 = .ok (.getstatic 3, 3) := by decide +kernel
theorem d9_40 : decode jdk_92_method_2_code 40 = .ok (.ifCond .ne 30, 3) := by decide +kernel
theorem d9_43 : decode jdk_92_method_2_code 43 = .ok (.aload_n 0, 1) := by decide +kernel
theorem d9_44 : decode jdk_92_method_2_code 44 = .ok (.getfield 7, 3) := by decide +kernel
theorem d9_47 : decode jdk_92_method_2_code 47 = .ok (.ifCond .lt 15, 3) := by decide +kernel
theorem d9_50 : decode jdk_92_method_2_code 50 = .ok (.aload_n 0, 1) := by decide +kernel
theorem d9_51 : decode jdk_92_method_2_code 51 = .ok (.getfield 7, 3) := by decide +kernel
theorem d9_54 : decode jdk_92_method_2_code 54 = .ok (.aload_n 0, 1) := by decide +kernel
theorem d9_55 : decode jdk_92_method_2_code 55 = .ok (.getfield 11, 3) := by decide +kernel
theorem d9_58 : decode jdk_92_method_2_code 58 = .ok (.arraylength, 1) := by decide +kernel
theorem d9_59 : decode jdk_92_method_2_code 59 = .ok (.if_icmp .le 11, 3) := by decide +kernel
theorem d9_62 : decode jdk_92_method_2_code 62 = .ok (.new 15, 3) := by decide +kernel
theorem d9_65 : decode jdk_92_method_2_code 65 = .ok (.dup, 1) := by decide +kernel
theorem d9_66 : decode jdk_92_method_2_code 66 = .ok (.invokespecial 17, 3) := by decide +kernel
theorem d9_69 : decode jdk_92_method_2_code 69 = .ok (.athrow, 1) := by decide +kernel
theorem d9_70 : decode jdk_92_method_2_code 70 = .ok (.getstatic 3, 3) := by decide +kernel
theorem d9_73 : decode jdk_92_method_2_code 73 = .ok (.ifCond .ne 37, 3) := by decide +kernel
theorem d9_76 : decode jdk_92_method_2_code 76 = .ok (.aload_n 0, 1) := by decide +kernel
theorem d9_77 : decode jdk_92_method_2_code 77 = .ok (.getfield 7, 3) := by decide +kernel
theorem d9_80 : decode jdk_92_method_2_code 80 = .ok (.aload_n 0, 1) := by decide +kernel
theorem d9_81 : decode jdk_92_method_2_code 81 = .ok (.getfield 11, 3) := by decide +kernel
theorem d9_84 : decode jdk_92_method_2_code 84 = .ok (.arraylength, 1) := by decide +kernel
theorem d9_85 : decode jdk_92_method_2_code 85 = .ok (.if_icmp .eq 25, 3) := by decide +kernel
theorem d9_88 : decode jdk_92_method_2_code 88 = .ok (.aload_n 0, 1) := by decide +kernel
theorem d9_89 : decode jdk_92_method_2_code 89 = .ok (.getfield 11, 3) := by decide +kernel
theorem d9_92 : decode jdk_92_method_2_code 92 = .ok (.aload_n 0, 1) := by decide +kernel
theorem d9_93 : decode jdk_92_method_2_code 93 = .ok (.getfield 7, 3) := by decide +kernel
theorem d9_96 : decode jdk_92_method_2_code 96 = .ok (.laload, 1) := by decide +kernel
theorem d9_97 : decode jdk_92_method_2_code 97 = .ok (.lconst 0, 1) := by decide +kernel
theorem d9_98 : decode jdk_92_method_2_code 98 = .ok (.lcmp, 1) := by decide +kernel
theorem d9_99 : decode jdk_92_method_2_code 99 = .ok (.ifCond .eq 11, 3) := by decide +kernel
theorem d9_102 : decode jdk_92_method_2_code 102 = .ok (.new 15, 3) := by decide +kernel
theorem d9_105 : decode jdk_92_method_2_code 105 = .ok (.dup, 1) := by decide +kernel
theorem d9_106 : decode jdk_92_method_2_code 106 = .ok (.invokespecial 17, 3) := by decide +kernel
theorem d9_109 : decode jdk_92_method_2_code 109 = .ok (.athrow, 1) := by decide +kernel
theorem d9_110 : decode jdk_92_method_2_code 110 = .ok (.return_, 1) := by decide +kernel
theorem d10_0 : decode jdk_29_method_66_code 0 = .ok (.lload_n 0, 1) := by decide +kernel
theorem d10_1 : decode jdk_29_method_66_code 1 = .ok (.lload_n 2, 1) := by decide +kernel
theorem d10_2 : decode jdk_29_method_66_code 2 = .ok (.lcmp, 1) := by decide +kernel
theorem d10_3 : decode jdk_29_method_66_code 3 = .ok (.ifCond .lt 7, 3) := by decide +kernel
theorem d10_6 : decode jdk_29_method_66_code 6 = .ok (.lload_n 0, 1) := by decide +kernel
theorem d10_7 : decode jdk_29_method_66_code 7 = .ok (.goto 4, 3) := by decide +kernel
theorem d10_10 : decode jdk_29_method_66_code 10 = .ok (.lload_n 2, 1) := by decide +kernel
theorem d10_11 : decode jdk_29_method_66_code 11 = .ok (.lreturn, 1) := by decide +kernel
theorem d11_0 : decode jdk_29_method_70_code 0 = .ok (.lload_n 0, 1) := by decide +kernel
theorem d11_1 : decode jdk_29_method_70_code 1 = .ok (.lload_n 2, 1) := by decide +kernel
theorem d11_2 : decode jdk_29_method_70_code 2 = .ok (.lcmp, 1) := by decide +kernel
theorem d11_3 : decode jdk_29_method_70_code 3 = .ok (.ifCond .gt 7, 3) := by decide +kernel
theorem d11_6 : decode jdk_29_method_70_code 6 = .ok (.lload_n 0, 1) := by decide +kernel
theorem d11_7 : decode jdk_29_method_70_code 7 = .ok (.goto 4, 3) := by decide +kernel
theorem d11_10 : decode jdk_29_method_70_code 10 = .ok (.lload_n 2, 1) := by decide +kernel
theorem d11_11 : decode jdk_29_method_70_code 11 = .ok (.lreturn, 1) := by decide +kernel
def QMaxJ (r : Int64) (h0 : Heap) (n0 : Nat) (v : Option Value) (h : Heap) (L : List Loc) : Prop := v = some (.long r) ∧ Fr n0 L ∧ h = h0
set_option maxRecDepth 65536 in
set_option maxHeartbeats 40000000 in
theorem rmMaxJ (l : Launch) (Z : State) (a0 : Array Value) (hw : ∀ d ∈ tables_1, d.before a0 Z = true) (ws : List Jvm.Cond) (x y r : Int64) (h0 : Heap) (n0 : Nat) (Z0 : n0 ≤ h0.size) (hr : r = if x < y then y else x) :
    MetFree l (⟨"java/lang/Math", "max", "(JJ)J"⟩ : MethodName) (head1 (Jvm.Cond.code (⟨"java/lang/Math", "max", "(JJ)J"⟩ : MethodName) jdk_29_method_66_code 4 (some .long) :: ws) ({ frames := 0, cells := 0, slots := 0, locals := 0 } : Room)) (fun a U => a = #[(.long x), (.long y)] ∧ Z.Warmed39 U.vm ∧ U.heap = h0) (fun _ _ _ _ _ => True) (fun _ Uw_ ow_ Ue_ => ∃ vw_ Lw_, ow_ = .returned vw_ ∧ QMaxJ r h0 n0 vw_ Ue_.heap Lw_ ∧ FrameEnd Uw_ ow_ Ue_ Lw_ ({ frames := 0, cells := 0, slots := 0, locals := 0 } : Room).cells ({ frames := 0, cells := 0, slots := 0, locals := 0 } : Room).slots) := by
  refine MetFree.of_bodySF (Jvm.Free.JP.mathPlain rfl (by decide +kernel)) hisR ?_
  intro p e s m args below meth c s₁ Bd hml0 hP hK
  obtain ⟨rfl, hZ, hh⟩ := hP
  have hx := Bd.exec
  have hby := Bd.bytes
  have hml : c.maxLocals = 4 := hml0
  have hown : s.vm.findClass "java/lang/Math" = some m.cls := findClass_of_methodNamed Bd.named
  have hnm := (name_of_methodNamed Bd.named Bd.method).1
  have X0 : Stand p l e ({ frames := 0, cells := 0, slots := 0, locals := 0 } : Room) s m #[(.long x), (.long y)] below meth c s₁ [] 0 0 := Stand.of_body Bd
  have e0 : s₁.heap = h0 := by rw [← hh, Bd.state]; rfl
  have N0 := Fr.nil n0
  have ef : entryFrame m #[(.long x), (.long y)] 4 = (mkF m 0 #[.val (.long x), .second, .val (.long y), .second] []) := by first | (simp [entryFrame, mkF, argsToLocals, Value.category]; done) | rfl
  show OwnGoes p e below (fun ow_ Ue_ => ∃ vw_ Lw_, ow_ = .returned vw_ ∧ QMaxJ r h0 n0 vw_ Ue_.heap Lw_ ∧ FrameEnd s ow_ Ue_ Lw_ ({ frames := 0, cells := 0, slots := 0, locals := 0 } : Room).cells ({ frames := 0, cells := 0, slots := 0, locals := 0 } : Room).slots) (s₁.setTop (entryFrame m #[(.long x), (.long y)] 4))
  refine own_pre (fun t k => castTop ef k) ?_
  show OwnGoes p e below _ (s₁.setTop (mkF m 0 #[.val (.long x), .second, .val (.long y), .second] []))
  refine own_pre (fun _ kz_ => XS.lloadN X0.here hx rfl (hb hby d10_0) rfl kz_) ?_
  show OwnGoes p e below _ (s₁.setTop (mkF m 1 #[.val (.long x), .second, .val (.long y), .second] [(.long x)]))
  refine own_pre (fun _ kz_ => XS.lloadN X0.here hx rfl (hb hby d10_1) rfl kz_) ?_
  show OwnGoes p e below _ (s₁.setTop (mkF m 2 #[.val (.long x), .second, .val (.long y), .second] [(.long y), (.long x)]))
  refine own_pre (fun _ kz_ => XS.lcmp X0.here hx rfl (hb hby d10_2) rfl kz_) ?_
  show OwnGoes p e below _ (s₁.setTop (mkF m 3 #[.val (.long x), .second, .val (.long y), .second] [(.int (lcmpW x y))]))
  by_cases h3 : x < y
  · refine own_pre (fun _ kz_ => XS.ifYes X0.here hx rfl (pc0 := 3) (pc' := 10) rfl (hb hby d10_3) rfl ((if0 _ _).trans (tlt ((lw_lt x y).mpr h3)).1) (by decide) (by decide) kz_) ?_
    show OwnGoes p e below _ (s₁.setTop (mkF m 10 #[.val (.long x), .second, .val (.long y), .second] []))
    refine own_pre (fun _ kz_ => XS.lloadN X0.here hx rfl (hb hby d10_10) rfl kz_) ?_
    show OwnGoes p e below _ (s₁.setTop (mkF m 11 #[.val (.long x), .second, .val (.long y), .second] [(.long y)]))
    exact own_ret X0 hx Bd.returns (rfl) (Or.inr (Or.inl ⟨rfl, rfl, _, rfl⟩)) Bd.notSynchronized (hb hby d10_11) ⟨by rw [hr, if_pos h3], N0, e0⟩ (by decide) (by decide)
  · refine own_pre (fun _ kz_ => XS.ifNo X0.here hx rfl (hb hby d10_3) rfl ((if0 _ _).trans (flt (fun qz_ => h3 ((lw_lt x y).mp qz_))).1) kz_) ?_
    show OwnGoes p e below _ (s₁.setTop (mkF m 6 #[.val (.long x), .second, .val (.long y), .second] []))
    refine own_pre (fun _ kz_ => XS.lloadN X0.here hx rfl (hb hby d10_6) rfl kz_) ?_
    show OwnGoes p e below _ (s₁.setTop (mkF m 7 #[.val (.long x), .second, .val (.long y), .second] [(.long x)]))
    refine own_pre (fun _ kz_ => XS.goto X0.here hx rfl (pc0 := 7) (pc' := 11) rfl (hb hby d10_7) (by decide) (by decide) kz_) ?_
    show OwnGoes p e below _ (s₁.setTop (mkF m 11 #[.val (.long x), .second, .val (.long y), .second] [(.long x)]))
    exact own_ret X0 hx Bd.returns (rfl) (Or.inr (Or.inl ⟨rfl, rfl, _, rfl⟩)) Bd.notSynchronized (hb hby d10_11) ⟨by rw [hr, if_neg h3], N0, e0⟩ (by decide) (by decide)
def QMinJ (r : Int64) (h0 : Heap) (n0 : Nat) (v : Option Value) (h : Heap) (L : List Loc) : Prop := v = some (.long r) ∧ Fr n0 L ∧ h = h0
set_option maxRecDepth 65536 in
set_option maxHeartbeats 40000000 in
theorem rmMinJ (l : Launch) (Z : State) (a0 : Array Value) (hw : ∀ d ∈ tables_1, d.before a0 Z = true) (ws : List Jvm.Cond) (x y r : Int64) (h0 : Heap) (n0 : Nat) (Z0 : n0 ≤ h0.size) (hr : r = if y < x then y else x) :
    MetFree l (⟨"java/lang/Math", "min", "(JJ)J"⟩ : MethodName) (head1 (Jvm.Cond.code (⟨"java/lang/Math", "min", "(JJ)J"⟩ : MethodName) jdk_29_method_70_code 4 (some .long) :: ws) ({ frames := 0, cells := 0, slots := 0, locals := 0 } : Room)) (fun a U => a = #[(.long x), (.long y)] ∧ Z.Warmed39 U.vm ∧ U.heap = h0) (fun _ _ _ _ _ => True) (fun _ Uw_ ow_ Ue_ => ∃ vw_ Lw_, ow_ = .returned vw_ ∧ QMinJ r h0 n0 vw_ Ue_.heap Lw_ ∧ FrameEnd Uw_ ow_ Ue_ Lw_ ({ frames := 0, cells := 0, slots := 0, locals := 0 } : Room).cells ({ frames := 0, cells := 0, slots := 0, locals := 0 } : Room).slots) := by
  refine MetFree.of_bodySF (Jvm.Free.JP.mathPlain rfl (by decide +kernel)) hisR ?_
  intro p e s m args below meth c s₁ Bd hml0 hP hK
  obtain ⟨rfl, hZ, hh⟩ := hP
  have hx := Bd.exec
  have hby := Bd.bytes
  have hml : c.maxLocals = 4 := hml0
  have hown : s.vm.findClass "java/lang/Math" = some m.cls := findClass_of_methodNamed Bd.named
  have hnm := (name_of_methodNamed Bd.named Bd.method).1
  have X0 : Stand p l e ({ frames := 0, cells := 0, slots := 0, locals := 0 } : Room) s m #[(.long x), (.long y)] below meth c s₁ [] 0 0 := Stand.of_body Bd
  have e0 : s₁.heap = h0 := by rw [← hh, Bd.state]; rfl
  have N0 := Fr.nil n0
  have ef : entryFrame m #[(.long x), (.long y)] 4 = (mkF m 0 #[.val (.long x), .second, .val (.long y), .second] []) := by first | (simp [entryFrame, mkF, argsToLocals, Value.category]; done) | rfl
  show OwnGoes p e below (fun ow_ Ue_ => ∃ vw_ Lw_, ow_ = .returned vw_ ∧ QMinJ r h0 n0 vw_ Ue_.heap Lw_ ∧ FrameEnd s ow_ Ue_ Lw_ ({ frames := 0, cells := 0, slots := 0, locals := 0 } : Room).cells ({ frames := 0, cells := 0, slots := 0, locals := 0 } : Room).slots) (s₁.setTop (entryFrame m #[(.long x), (.long y)] 4))
  refine own_pre (fun t k => castTop ef k) ?_
  show OwnGoes p e below _ (s₁.setTop (mkF m 0 #[.val (.long x), .second, .val (.long y), .second] []))
  refine own_pre (fun _ kz_ => XS.lloadN X0.here hx rfl (hb hby d11_0) rfl kz_) ?_
  show OwnGoes p e below _ (s₁.setTop (mkF m 1 #[.val (.long x), .second, .val (.long y), .second] [(.long x)]))
  refine own_pre (fun _ kz_ => XS.lloadN X0.here hx rfl (hb hby d11_1) rfl kz_) ?_
  show OwnGoes p e below _ (s₁.setTop (mkF m 2 #[.val (.long x), .second, .val (.long y), .second] [(.long y), (.long x)]))
  refine own_pre (fun _ kz_ => XS.lcmp X0.here hx rfl (hb hby d11_2) rfl kz_) ?_
  show OwnGoes p e below _ (s₁.setTop (mkF m 3 #[.val (.long x), .second, .val (.long y), .second] [(.int (lcmpW x y))]))
  by_cases h3 : y < x
  · refine own_pre (fun _ kz_ => XS.ifYes X0.here hx rfl (pc0 := 3) (pc' := 10) rfl (hb hby d11_3) rfl ((if0 _ _).trans (tlt ((lw_gt x y).mpr h3)).2.2.1) (by decide) (by decide) kz_) ?_
    show OwnGoes p e below _ (s₁.setTop (mkF m 10 #[.val (.long x), .second, .val (.long y), .second] []))
    refine own_pre (fun _ kz_ => XS.lloadN X0.here hx rfl (hb hby d11_10) rfl kz_) ?_
    show OwnGoes p e below _ (s₁.setTop (mkF m 11 #[.val (.long x), .second, .val (.long y), .second] [(.long y)]))
    exact own_ret X0 hx Bd.returns (rfl) (Or.inr (Or.inl ⟨rfl, rfl, _, rfl⟩)) Bd.notSynchronized (hb hby d11_11) ⟨by rw [hr, if_pos h3], N0, e0⟩ (by decide) (by decide)
  · refine own_pre (fun _ kz_ => XS.ifNo X0.here hx rfl (hb hby d11_3) rfl ((if0 _ _).trans (flt (fun qz_ => h3 ((lw_gt x y).mp qz_))).2.2.1) kz_) ?_
    show OwnGoes p e below _ (s₁.setTop (mkF m 6 #[.val (.long x), .second, .val (.long y), .second] []))
    refine own_pre (fun _ kz_ => XS.lloadN X0.here hx rfl (hb hby d11_6) rfl kz_) ?_
    show OwnGoes p e below _ (s₁.setTop (mkF m 7 #[.val (.long x), .second, .val (.long y), .second] [(.long x)]))
    refine own_pre (fun _ kz_ => XS.goto X0.here hx rfl (pc0 := 7) (pc' := 11) rfl (hb hby d11_7) (by decide) (by decide) kz_) ?_
    show OwnGoes p e below _ (s₁.setTop (mkF m 11 #[.val (.long x), .second, .val (.long y), .second] [(.long x)]))
    exact own_ret X0 hx Bd.returns (rfl) (Or.inr (Or.inl ⟨rfl, rfl, _, rfl⟩)) Bd.notSynchronized (hb hby d11_11) ⟨by rw [hr, if_neg h3], N0, e0⟩ (by decide) (by decide)
def QWI (r : Int32) (h0 : Heap) (n0 : Nat) (v : Option Value) (h : Heap) (L : List Loc) : Prop := v = some (.int r) ∧ Fr n0 L ∧ h = h0
set_option maxRecDepth 65536 in
set_option maxHeartbeats 40000000 in
theorem rmWI (l : Launch) (Z : State) (a0 : Array Value) (hw : ∀ d ∈ tables_1, d.before a0 Z = true) (ws : List Jvm.Cond) (k : Int32) (h0 : Heap) (n0 : Nat) (Z0 : n0 ≤ h0.size) :
    MetFree l (⟨"java/util/BitSet", "wordIndex", "(I)I"⟩ : MethodName) (head1 (Jvm.Cond.code (⟨"java/util/BitSet", "wordIndex", "(I)I"⟩ : MethodName) jdk_92_method_1_code 1 (some .int) :: ws) ({ frames := 0, cells := 0, slots := 0, locals := 0 } : Room)) (fun a U => a = #[(.int k)] ∧ Z.Warmed39 U.vm ∧ U.heap = h0) (fun _ _ _ _ _ => True) (fun _ Uw_ ow_ Ue_ => ∃ vw_ Lw_, ow_ = .returned vw_ ∧ QWI (k >>> ((6 : Int32) &&& 31)) h0 n0 vw_ Ue_.heap Lw_ ∧ FrameEnd Uw_ ow_ Ue_ Lw_ ({ frames := 0, cells := 0, slots := 0, locals := 0 } : Room).cells ({ frames := 0, cells := 0, slots := 0, locals := 0 } : Room).slots) := by
  refine MetFree.of_bodySF (plainFor_of_name (by first | (simp [plainName, overriddenIn]; done) | decide +kernel)) hisR ?_
  intro p e s m args below meth c s₁ Bd hml0 hP hK
  obtain ⟨rfl, hZ, hh⟩ := hP
  have hx := Bd.exec
  have hby := Bd.bytes
  have hml : c.maxLocals = 1 := hml0
  have hown : s.vm.findClass "java/util/BitSet" = some m.cls := findClass_of_methodNamed Bd.named
  have hnm := (name_of_methodNamed Bd.named Bd.method).1
  have X0 : Stand p l e ({ frames := 0, cells := 0, slots := 0, locals := 0 } : Room) s m #[(.int k)] below meth c s₁ [] 0 0 := Stand.of_body Bd
  have e0 : s₁.heap = h0 := by rw [← hh, Bd.state]; rfl
  have N0 := Fr.nil n0
  have ef : entryFrame m #[(.int k)] 1 = (mkF m 0 #[.val (.int k)] []) := by first | (simp [entryFrame, mkF, argsToLocals, Value.category]; done) | rfl
  show OwnGoes p e below (fun ow_ Ue_ => ∃ vw_ Lw_, ow_ = .returned vw_ ∧ QWI (k >>> ((6 : Int32) &&& 31)) h0 n0 vw_ Ue_.heap Lw_ ∧ FrameEnd s ow_ Ue_ Lw_ ({ frames := 0, cells := 0, slots := 0, locals := 0 } : Room).cells ({ frames := 0, cells := 0, slots := 0, locals := 0 } : Room).slots) (s₁.setTop (entryFrame m #[(.int k)] 1))
  refine own_pre (fun t k => castTop ef k) ?_
  show OwnGoes p e below _ (s₁.setTop (mkF m 0 #[.val (.int k)] []))
  refine own_pre (fun _ kz_ => XS.iloadN X0.here hx rfl (hb hby d5_0) rfl kz_) ?_
  show OwnGoes p e below _ (s₁.setTop (mkF m 1 #[.val (.int k)] [(.int k)]))
  refine own_pre (fun _ kz_ => XS.bipush X0.here hx rfl (hb hby d5_1) kz_) ?_
  show OwnGoes p e below _ (s₁.setTop (mkF m 3 #[.val (.int k)] [(.int (6 : Int32)), (.int k)]))
  refine own_pre (fun _ kz_ => XS.ishr X0.here hx rfl (hb hby d5_3) rfl kz_) ?_
  show OwnGoes p e below _ (s₁.setTop (mkF m 4 #[.val (.int k)] [(.int (k >>> ((6 : Int32) &&& 31)))]))
  exact own_ret X0 hx Bd.returns (rfl) (Or.inl ⟨rfl, by simp, _, rfl⟩) Bd.notSynchronized (hb hby d5_4) ⟨rfl, N0, e0⟩ (by decide) (by decide)
def QCk  (h0 : Heap) (n0 : Nat) (v : Option Value) (h : Heap) (L : List Loc) : Prop := v = none ∧ Fr n0 L ∧ h = h0
set_option maxRecDepth 65536 in
set_option maxHeartbeats 40000000 in
theorem rmCk (l : Launch) (Z : State) (a0 : Array Value) (hw : ∀ d ∈ tables_1, d.before a0 Z = true) (ws : List Jvm.Cond) (b : Addr) (h0 : Heap) (n0 : Nat) (Z0 : n0 ≤ h0.size) (TS : OwnS Z n0 h0 "java/util/BitSet" "$assertionsDisabled" "Z" (.int (1 : Int32))) :
    MetFree l (⟨"java/util/BitSet", "checkInvariants", "()V"⟩ : MethodName) (head1 (Jvm.Cond.code (⟨"java/util/BitSet", "checkInvariants", "()V"⟩ : MethodName) jdk_92_method_2_code 1 none :: ws) ({ frames := 0, cells := 0, slots := 0, locals := 0 } : Room)) (fun a U => a = #[(.ref b)] ∧ Z.Warmed39 U.vm ∧ U.heap = h0) (fun _ _ _ _ _ => True) (fun _ Uw_ ow_ Ue_ => ∃ vw_ Lw_, ow_ = .returned vw_ ∧ QCk h0 n0 vw_ Ue_.heap Lw_ ∧ FrameEnd Uw_ ow_ Ue_ Lw_ ({ frames := 0, cells := 0, slots := 0, locals := 0 } : Room).cells ({ frames := 0, cells := 0, slots := 0, locals := 0 } : Room).slots) := by
  refine MetFree.of_bodySF (plainFor_of_name (by first | (simp [plainName, overriddenIn]; done) | decide +kernel)) hisR ?_
  intro p e s m args below meth c s₁ Bd hml0 hP hK
  obtain ⟨rfl, hZ, hh⟩ := hP
  have hx := Bd.exec
  have hby := Bd.bytes
  have hml : c.maxLocals = 1 := hml0
  have hown : s.vm.findClass "java/util/BitSet" = some m.cls := findClass_of_methodNamed Bd.named
  have hnm := (name_of_methodNamed Bd.named Bd.method).1
  have X0 : Stand p l e ({ frames := 0, cells := 0, slots := 0, locals := 0 } : Room) s m #[(.ref b)] below meth c s₁ [] 0 0 := Stand.of_body Bd
  have e0 : s₁.heap = h0 := by rw [← hh, Bd.state]; rfl
  have N0 := Fr.nil n0
  have ef : entryFrame m #[(.ref b)] 1 = (mkF m 0 #[.val (.ref b)] []) := by first | (simp [entryFrame, mkF, argsToLocals, Value.category]; done) | rfl
  show OwnGoes p e below (fun ow_ Ue_ => ∃ vw_ Lw_, ow_ = .returned vw_ ∧ QCk h0 n0 vw_ Ue_.heap Lw_ ∧ FrameEnd s ow_ Ue_ Lw_ ({ frames := 0, cells := 0, slots := 0, locals := 0 } : Room).cells ({ frames := 0, cells := 0, slots := 0, locals := 0 } : Room).slots) (s₁.setTop (entryFrame m #[(.ref b)] 1))
  refine own_pre (fun t k => castTop ef k) ?_
  show OwnGoes p e below _ (s₁.setTop (mkF m 0 #[.val (.ref b)] []))
  obtain ⟨T1, X1, e1, st1⟩ := getS2 X0 hx hZ hown (host := "") (Or.inl (hw _ (List.mem_of_getElem? (i := 63) rfl))) Via.refl e0 TS.sta (g := (mkF m 0 #[.val (.ref b)] [])) rfl (hb hby d9_0)
  refine own_pre st1 ?_
  show OwnGoes p e below _ (T1.setTop (mkF m 3 #[.val (.ref b)] [(.int (1 : Int32))]))
  refine own_pre (fun _ kz_ => XS.ifYes X1.here hx rfl (pc0 := 3) (pc' := 37) rfl (hb hby d9_3) rfl ((if0 _ _).trans (feq (by decide : ¬ ((1 : Int32) = (0 : Int32)))).2) (by decide) (by decide) kz_) ?_
  show OwnGoes p e below _ (T1.setTop (mkF m 37 #[.val (.ref b)] []))
  obtain ⟨T2, X2, e2, st2⟩ := getS2 X1 hx hZ hown (host := "") (Or.inl (hw _ (List.mem_of_getElem? (i := 63) rfl))) Via.refl e1 TS.sta (g := (mkF m 37 #[.val (.ref b)] [])) rfl (hb hby d9_37)
  refine own_pre st2 ?_
  show OwnGoes p e below _ (T2.setTop (mkF m 40 #[.val (.ref b)] [(.int (1 : Int32))]))
  refine own_pre (fun _ kz_ => XS.ifYes X2.here hx rfl (pc0 := 40) (pc' := 70) rfl (hb hby d9_40) rfl ((if0 _ _).trans (feq (by decide : ¬ ((1 : Int32) = (0 : Int32)))).2) (by decide) (by decide) kz_) ?_
  show OwnGoes p e below _ (T2.setTop (mkF m 70 #[.val (.ref b)] []))
  obtain ⟨T3, X3, e3, st3⟩ := getS2 X2 hx hZ hown (host := "") (Or.inl (hw _ (List.mem_of_getElem? (i := 63) rfl))) Via.refl e2 TS.sta (g := (mkF m 70 #[.val (.ref b)] [])) rfl (hb hby d9_70)
  refine own_pre st3 ?_
  show OwnGoes p e below _ (T3.setTop (mkF m 73 #[.val (.ref b)] [(.int (1 : Int32))]))
  refine own_pre (fun _ kz_ => XS.ifYes X3.here hx rfl (pc0 := 73) (pc' := 110) rfl (hb hby d9_73) rfl ((if0 _ _).trans (feq (by decide : ¬ ((1 : Int32) = (0 : Int32)))).2) (by decide) (by decide) kz_) ?_
  show OwnGoes p e below _ (T3.setTop (mkF m 110 #[.val (.ref b)] []))
  exact own_retV X3 hx Bd.returns Bd.notSynchronized (hb hby d9_110) ⟨rfl, N0, e3⟩ (by decide) (by decide)
def QGet  (h0 : Heap) (n0 : Nat) (v : Option Value) (h : Heap) (L : List Loc) : Prop := v = some (.int (0 : Int32)) ∧ Fr n0 L ∧ h = h0
theorem own_shr6 (k : Int32) (h : ¬ k < (0 : Int32)) : ¬ (k >>> ((6 : Int32) &&& 31)) < (0 : Int32) := by
  rw [Int32.lt_iff_toInt_lt] at h ⊢
  rw [c_ishr k 6 6 (by decide)]
  have e0 : (0 : Int32).toInt = 0 := rfl
  rw [e0] at h ⊢
  have := Int.ediv_nonneg (a := k.toInt) (b := ((2 ^ 6 : Nat) : Int)) (by omega) (by decide)
  omega
set_option maxRecDepth 65536 in
set_option maxHeartbeats 40000000 in
theorem rmGet (l : Launch) (Z : State) (a0 : Array Value) (hw : ∀ d ∈ tables_1, d.before a0 Z = true) (ws : List Jvm.Cond) (b : Addr) (k : Int32) (h0 : Heap) (n0 : Nat) (Z0 : n0 ≤ h0.size) (TS : OwnS Z n0 h0 "java/util/BitSet" "$assertionsDisabled" "Z" (.int (1 : Int32))) (Eb : Exa Z h0 b "java/util/BitSet") (Fw : Fld Z h0 b "java/util/BitSet" "wordsInUse" "I" (.int (0 : Int32))) (hk : ¬ k < (0 : Int32)) :
    MetFree l (⟨"java/util/BitSet", "get", "(I)Z"⟩ : MethodName) (head1 (Jvm.Cond.code (⟨"java/util/BitSet", "get", "(I)Z"⟩ : MethodName) jdk_92_method_26_code 3 (some .boolean) :: ws) ({ frames := 1, cells := 0, slots := 0, locals := 12 } : Room)) (fun a U => a = #[(.ref b), (.int k)] ∧ Z.Warmed39 U.vm ∧ U.heap = h0) (fun _ _ _ _ _ => True) (fun _ Uw_ ow_ Ue_ => ∃ vw_ Lw_, ow_ = .returned vw_ ∧ QGet h0 n0 vw_ Ue_.heap Lw_ ∧ FrameEnd Uw_ ow_ Ue_ Lw_ ({ frames := 1, cells := 0, slots := 0, locals := 12 } : Room).cells ({ frames := 1, cells := 0, slots := 0, locals := 12 } : Room).slots) := by
  refine MetFree.of_bodySF (plainFor_of_name (by first | (simp [plainName, overriddenIn]; done) | decide +kernel)) hisR ?_
  intro p e s m args below meth c s₁ Bd hml0 hP hK
  obtain ⟨rfl, hZ, hh⟩ := hP
  have hx := Bd.exec
  have hby := Bd.bytes
  have hml : c.maxLocals = 3 := hml0
  have hown : s.vm.findClass "java/util/BitSet" = some m.cls := findClass_of_methodNamed Bd.named
  have hnm := (name_of_methodNamed Bd.named Bd.method).1
  have X0 : Stand p l e ({ frames := 1, cells := 0, slots := 0, locals := 12 } : Room) s m #[(.ref b), (.int k)] below meth c s₁ [] 0 0 := Stand.of_body Bd
  have e0 : s₁.heap = h0 := by rw [← hh, Bd.state]; rfl
  have N0 := Fr.nil n0
  have ef : entryFrame m #[(.ref b), (.int k)] 3 = (mkF m 0 #[.val (.ref b), .val (.int k), .unset] []) := by first | (simp [entryFrame, mkF, argsToLocals, Value.category]; done) | rfl
  show OwnGoes p e below (fun ow_ Ue_ => ∃ vw_ Lw_, ow_ = .returned vw_ ∧ QGet h0 n0 vw_ Ue_.heap Lw_ ∧ FrameEnd s ow_ Ue_ Lw_ ({ frames := 1, cells := 0, slots := 0, locals := 12 } : Room).cells ({ frames := 1, cells := 0, slots := 0, locals := 12 } : Room).slots) (s₁.setTop (entryFrame m #[(.ref b), (.int k)] 3))
  refine own_pre (fun t k => castTop ef k) ?_
  show OwnGoes p e below _ (s₁.setTop (mkF m 0 #[.val (.ref b), .val (.int k), .unset] []))
  refine own_pre (fun _ kz_ => XS.iloadN X0.here hx rfl (hb hby d8_0) rfl kz_) ?_
  show OwnGoes p e below _ (s₁.setTop (mkF m 1 #[.val (.ref b), .val (.int k), .unset] [(.int k)]))
  refine own_pre (fun _ kz_ => XS.ifYes X0.here hx rfl (pc0 := 1) (pc' := 31) rfl (hb hby d8_1) rfl ((if0 _ _).trans (flt (hk : ¬ (k < (0 : Int32)))).2.1) (by decide) (by decide) kz_) ?_
  show OwnGoes p e below _ (s₁.setTop (mkF m 31 #[.val (.ref b), .val (.int k), .unset] []))
  refine own_pre (fun _ kz_ => XS.aloadN X0.here hx rfl (hb hby d8_31) rfl rfl kz_) ?_
  show OwnGoes p e below _ (s₁.setTop (mkF m 32 #[.val (.ref b), .val (.int k), .unset] [(.ref b)]))
  obtain ⟨cq1, q1, q1'⟩ := Eb.cell
  obtain ⟨_, _, ⟨T1, L1, k1, n1⟩, -, X1, ⟨Lc1, hQ1, l1, y1, z1⟩, st1⟩ := X0.privateBack hx (y := (⟨"java/util/BitSet", "checkInvariants", "()V"⟩ : MethodName)) hown (mvT hZ (hw _ (List.mem_of_getElem? (i := 58) rfl))) (mvT hZ (hw _ (List.mem_of_getElem? (i := 59) rfl))) (mvT hZ (hw _ (List.mem_of_getElem? (i := 61) rfl))) (Jvm.Cond.privateMethod_at (mvP hZ (hw _ (List.mem_of_getElem? (i := 60) rfl)) (args := #[]))) (mvT hZ (hw _ (List.mem_of_getElem? (i := 62) rfl))) (by decide) (backOf (W := 0) (rmCk l Z a0 hw [] b h0 n0 Z0 TS) hZ (hw _ (List.mem_of_getElem? (i := 62) rfl)) (hw _ (List.mem_of_getElem? (i := 22) rfl)) (by decide) (by decide)) (g := (mkF m 32 #[.val (.ref b), .val (.int k), .unset] [(.ref b)])) rfl (by rw [hml]; rfl) (Steps.refl _) (a := b) (by rw [e0]; exact q1) q1' (argsL := []) (rest := []) (lenOf (d := "()V") (ps := []) (r := none) (by decide +kernel) rfl) rfl (by show 2 * 0 + _ ≤ _; exact Nat.le_of_eq rfl) (hb hby d8_32) (fun _ _ => ⟨rfl, e0, (by decide : 0 + 0 ≤ _), (by decide : 0 + 0 ≤ _)⟩)
  dsimp only [Pt.U, Pt.locs, Pt.cells, Pt.slots] at X1 l1 y1 z1 st1 hQ1
  subst l1 y1 z1
  obtain ⟨rfl, N1q, e1⟩ := hQ1
  have N1 := Fr.app N0 N1q
  refine own_tr st1 ?_
  show OwnGoes p e below _ (T1.setTop (mkF m 35 #[.val (.ref b), .val (.int k), .unset] []))
  refine own_pre (fun _ kz_ => XS.iloadN X1.here hx rfl (hb hby d8_35) rfl kz_) ?_
  show OwnGoes p e below _ (T1.setTop (mkF m 36 #[.val (.ref b), .val (.int k), .unset] [(.int k)]))
  obtain ⟨_, _, ⟨T2, L2, k2, n2⟩, -, X2, ⟨Lc2, hQ2, l2, y2, z2⟩, st2⟩ := Jvm.LawKit.callS X1 hx (y := (⟨"java/util/BitSet", "wordIndex", "(I)I"⟩ : MethodName)) hown (mvT hZ (hw _ (List.mem_of_getElem? (i := 36) rfl))) (mvT hZ (hw _ (List.mem_of_getElem? (i := 37) rfl))) (mvT hZ (hw _ (List.mem_of_getElem? (i := 22) rfl))) (mvT hZ (hw _ (List.mem_of_getElem? (i := 38) rfl))) (by decide) (backOf (W := 0) (rmWI l Z a0 hw [] k h0 n0 Z0) hZ (hw _ (List.mem_of_getElem? (i := 38) rfl)) (hw _ (List.mem_of_getElem? (i := 22) rfl)) (by decide) (by decide)) (g := (mkF m 36 #[.val (.ref b), .val (.int k), .unset] [(.int k)])) rfl (by rw [hml]; rfl) (argsL := [(.int k)]) (rest := []) (lenOf (d := "(I)I") (ps := [.int]) (r := some .int) (by decide +kernel) rfl) rfl (by show 2 * 0 + _ ≤ _; exact Nat.le_of_eq rfl) (hb hby d8_36) (fun _ _ => ⟨rfl, e1, (by decide : 0 + 0 ≤ _), (by decide : 0 + 0 ≤ _)⟩)
  dsimp only [Pt.U, Pt.locs, Pt.cells, Pt.slots] at X2 l2 y2 z2 st2 hQ2
  subst l2 y2 z2
  obtain ⟨rfl, N2q, e2⟩ := hQ2
  have N2 := Fr.app N1 N2q
  refine own_pre st2 ?_
  show OwnGoes p e below _ (T2.setTop (mkF m 39 #[.val (.ref b), .val (.int k), .unset] [(.int (k >>> ((6 : Int32) &&& 31)))]))
  refine own_pre (fun _ kz_ => XS.istoreN X2.here hx rfl (hb hby d8_39) rfl (l' := #[.val (.ref b), .val (.int k), .val (.int (k >>> ((6 : Int32) &&& 31)))]) rfl kz_) ?_
  show OwnGoes p e below _ (T2.setTop (mkF m 40 #[.val (.ref b), .val (.int k), .val (.int (k >>> ((6 : Int32) &&& 31)))] []))
  refine own_pre (fun _ kz_ => XS.iloadN X2.here hx rfl (hb hby d8_40) rfl kz_) ?_
  show OwnGoes p e below _ (T2.setTop (mkF m 41 #[.val (.ref b), .val (.int k), .val (.int (k >>> ((6 : Int32) &&& 31)))] [(.int (k >>> ((6 : Int32) &&& 31)))]))
  refine own_pre (fun _ kz_ => XS.aloadN X2.here hx rfl (hb hby d8_41) rfl rfl kz_) ?_
  show OwnGoes p e below _ (T2.setTop (mkF m 42 #[.val (.ref b), .val (.int k), .val (.int (k >>> ((6 : Int32) &&& 31)))] [(.ref b), (.int (k >>> ((6 : Int32) &&& 31)))]))
  obtain ⟨T3, X3, e3, st3⟩ := getF X2 hx hZ hown (host := "") (Or.inl (hw _ (List.mem_of_getElem? (i := 27) rfl))) Via.refl e2 Fw (g := (mkF m 42 #[.val (.ref b), .val (.int k), .val (.int (k >>> ((6 : Int32) &&& 31)))] [(.ref b), (.int (k >>> ((6 : Int32) &&& 31)))])) rfl rfl (hb hby d8_42)
  refine own_pre st3 ?_
  show OwnGoes p e below _ (T3.setTop (mkF m 45 #[.val (.ref b), .val (.int k), .val (.int (k >>> ((6 : Int32) &&& 31)))] [(.int (0 : Int32)), (.int (k >>> ((6 : Int32) &&& 31)))]))
  refine own_pre (fun _ kz_ => XS.icmpYes X3.here hx rfl (pc0 := 45) (pc' := 67) rfl (hb hby d8_45) rfl (flt (own_shr6 k hk : ¬ ((k >>> ((6 : Int32) &&& 31)) < (0 : Int32)))).2.1 (by decide) (by decide) kz_) ?_
  show OwnGoes p e below _ (T3.setTop (mkF m 67 #[.val (.ref b), .val (.int k), .val (.int (k >>> ((6 : Int32) &&& 31)))] []))
  refine own_pre (fun _ kz_ => XS.iconst X3.here hx rfl (hb hby d8_67) kz_) ?_
  show OwnGoes p e below _ (T3.setTop (mkF m 68 #[.val (.ref b), .val (.int k), .val (.int (k >>> ((6 : Int32) &&& 31)))] [(.int (0 : Int32))]))
  exact own_ret X3 hx Bd.returns (rfl) (Or.inl ⟨rfl, by simp, _, rfl⟩) Bd.notSynchronized (hb hby d8_68) ⟨rfl, N2, e3⟩ (by decide) (by decide)
def QIW (Z : State) (b : Addr) (h0 : Heap) (n0 : Nat) (v : Option Value) (h : Heap) (L : List Loc) : Prop := v = none ∧ Fr n0 L ∧ Keep h0 h [b] ∧ Exa Z h b "java/util/BitSet" ∧ Fld Z h b "java/util/BitSet" "wordsInUse" "I" (.int (0 : Int32)) ∧ Fld Z h b "java/util/BitSet" "sizeIsSticky" "Z" (.int (0 : Int32)) ∧ ∃ y, Fld Z h b "java/util/BitSet" "words" "[J" y
set_option maxRecDepth 65536 in
set_option maxHeartbeats 40000000 in
theorem rmIW (l : Launch) (Z : State) (a0 : Array Value) (hw : ∀ d ∈ tables_1, d.before a0 Z = true) (ws : List Jvm.Cond) (b : Addr) (h0 : Heap) (n0 : Nat) (Z0 : n0 ≤ h0.size) (Eb : Exa Z h0 b "java/util/BitSet") (Fw : Fld Z h0 b "java/util/BitSet" "wordsInUse" "I" (.int (0 : Int32))) (Fs : Fld Z h0 b "java/util/BitSet" "sizeIsSticky" "Z" (.int (0 : Int32))) (Fd : Fld Z h0 b "java/util/BitSet" "words" "[J" .null) (g_b : n0 ≤ b) :
    MetFree l (⟨"java/util/BitSet", "initWords", "(I)V"⟩ : MethodName) (head1 (Jvm.Cond.code (⟨"java/util/BitSet", "initWords", "(I)V"⟩ : MethodName) jdk_92_method_6_code 2 none :: ws) ({ frames := 1, cells := 1, slots := 1, locals := 14 } : Room)) (fun a U => a = #[(.ref b), (.int (64 : Int32))] ∧ Z.Warmed39 U.vm ∧ U.heap = h0) (fun _ _ _ _ _ => True) (fun _ Uw_ ow_ Ue_ => ∃ vw_ Lw_, ow_ = .returned vw_ ∧ QIW Z b h0 n0 vw_ Ue_.heap Lw_ ∧ FrameEnd Uw_ ow_ Ue_ Lw_ ({ frames := 1, cells := 1, slots := 1, locals := 14 } : Room).cells ({ frames := 1, cells := 1, slots := 1, locals := 14 } : Room).slots) := by
  refine MetFree.of_bodySF (plainFor_of_name (by first | (simp [plainName, overriddenIn]; done) | decide +kernel)) hisR ?_
  intro p e s m args below meth c s₁ Bd hml0 hP hK
  obtain ⟨rfl, hZ, hh⟩ := hP
  have hx := Bd.exec
  have hby := Bd.bytes
  have hml : c.maxLocals = 2 := hml0
  have hown : s.vm.findClass "java/util/BitSet" = some m.cls := findClass_of_methodNamed Bd.named
  have hnm := (name_of_methodNamed Bd.named Bd.method).1
  have X0 : Stand p l e ({ frames := 1, cells := 1, slots := 1, locals := 14 } : Room) s m #[(.ref b), (.int (64 : Int32))] below meth c s₁ [] 0 0 := Stand.of_body Bd
  have e0 : s₁.heap = h0 := by rw [← hh, Bd.state]; rfl
  have N0 := Fr.nil n0
  have ef : entryFrame m #[(.ref b), (.int (64 : Int32))] 2 = (mkF m 0 #[.val (.ref b), .val (.int (64 : Int32))] []) := by first | (simp [entryFrame, mkF, argsToLocals, Value.category]; done) | rfl
  show OwnGoes p e below (fun ow_ Ue_ => ∃ vw_ Lw_, ow_ = .returned vw_ ∧ QIW Z b h0 n0 vw_ Ue_.heap Lw_ ∧ FrameEnd s ow_ Ue_ Lw_ ({ frames := 1, cells := 1, slots := 1, locals := 14 } : Room).cells ({ frames := 1, cells := 1, slots := 1, locals := 14 } : Room).slots) (s₁.setTop (entryFrame m #[(.ref b), (.int (64 : Int32))] 2))
  refine own_pre (fun t k => castTop ef k) ?_
  show OwnGoes p e below _ (s₁.setTop (mkF m 0 #[.val (.ref b), .val (.int (64 : Int32))] []))
  refine own_pre (fun _ kz_ => XS.aloadN X0.here hx rfl (hb hby d4_0) rfl rfl kz_) ?_
  show OwnGoes p e below _ (s₁.setTop (mkF m 1 #[.val (.ref b), .val (.int (64 : Int32))] [(.ref b)]))
  refine own_pre (fun _ kz_ => XS.iloadN X0.here hx rfl (hb hby d4_1) rfl kz_) ?_
  show OwnGoes p e below _ (s₁.setTop (mkF m 2 #[.val (.ref b), .val (.int (64 : Int32))] [(.int (64 : Int32)), (.ref b)]))
  refine own_pre (fun _ kz_ => XS.iconst X0.here hx rfl (hb hby d4_2) kz_) ?_
  show OwnGoes p e below _ (s₁.setTop (mkF m 3 #[.val (.ref b), .val (.int (64 : Int32))] [(.int (1 : Int32)), (.int (64 : Int32)), (.ref b)]))
  refine own_pre (fun _ kz_ => XS.isub X0.here hx rfl (hb hby d4_3) rfl kz_) ?_
  show OwnGoes p e below _ (s₁.setTop (mkF m 4 #[.val (.ref b), .val (.int (64 : Int32))] [(.int ((64 : Int32) - (1 : Int32))), (.ref b)]))
  rw [show ((64 : Int32) - (1 : Int32)) = (63 : Int32) from by decide]
  show OwnGoes p e below _ (s₁.setTop (mkF m 4 #[.val (.ref b), .val (.int (64 : Int32))] [(.int (63 : Int32)), (.ref b)]))
  obtain ⟨_, _, ⟨T1, L1, k1, n1⟩, -, X1, ⟨Lc1, hQ1, l1, y1, z1⟩, st1⟩ := Jvm.LawKit.callS X0 hx (y := (⟨"java/util/BitSet", "wordIndex", "(I)I"⟩ : MethodName)) hown (mvT hZ (hw _ (List.mem_of_getElem? (i := 36) rfl))) (mvT hZ (hw _ (List.mem_of_getElem? (i := 37) rfl))) (mvT hZ (hw _ (List.mem_of_getElem? (i := 22) rfl))) (mvT hZ (hw _ (List.mem_of_getElem? (i := 38) rfl))) (by decide) (backOf (W := 1) (rmWI l Z a0 hw [] (63 : Int32) h0 n0 Z0) hZ (hw _ (List.mem_of_getElem? (i := 38) rfl)) (hw _ (List.mem_of_getElem? (i := 22) rfl)) (by decide) (by decide)) (g := (mkF m 4 #[.val (.ref b), .val (.int (64 : Int32))] [(.int (63 : Int32)), (.ref b)])) rfl (by rw [hml]; rfl) (argsL := [(.int (63 : Int32))]) (rest := [(.ref b)]) (lenOf (d := "(I)I") (ps := [.int]) (r := some .int) (by decide +kernel) rfl) rfl (by show 2 * 0 + _ ≤ _; exact Nat.le_of_eq rfl) (hb hby d4_4) (fun _ _ => ⟨rfl, e0, (by decide : 0 + 0 ≤ _), (by decide : 0 + 0 ≤ _)⟩)
  dsimp only [Pt.U, Pt.locs, Pt.cells, Pt.slots] at X1 l1 y1 z1 st1 hQ1
  subst l1 y1 z1
  obtain ⟨rfl, N1q, e1⟩ := hQ1
  have N1 := Fr.app N0 N1q
  refine own_pre st1 ?_
  show OwnGoes p e below _ (T1.setTop (mkF m 7 #[.val (.ref b), .val (.int (64 : Int32))] [(.int ((63 : Int32) >>> ((6 : Int32) &&& 31))), (.ref b)]))
  rw [show ((63 : Int32) >>> ((6 : Int32) &&& 31)) = (0 : Int32) from by decide]
  show OwnGoes p e below _ (T1.setTop (mkF m 7 #[.val (.ref b), .val (.int (64 : Int32))] [(.int (0 : Int32)), (.ref b)]))
  refine own_pre (fun _ kz_ => XS.iconst X1.here hx rfl (hb hby d4_7) kz_) ?_
  show OwnGoes p e below _ (T1.setTop (mkF m 8 #[.val (.ref b), .val (.int (64 : Int32))] [(.int (1 : Int32)), (.int (0 : Int32)), (.ref b)]))
  refine own_pre (fun _ kz_ => XS.iadd X1.here hx rfl (hb hby d4_8) rfl kz_) ?_
  show OwnGoes p e below _ (T1.setTop (mkF m 9 #[.val (.ref b), .val (.int (64 : Int32))] [(.int ((0 : Int32) + (1 : Int32))), (.ref b)]))
  rw [show ((0 : Int32) + (1 : Int32)) = (1 : Int32) from by decide]
  show OwnGoes p e below _ (T1.setTop (mkF m 9 #[.val (.ref b), .val (.int (64 : Int32))] [(.int (1 : Int32)), (.ref b)]))
  obtain ⟨T2, h2, X2, e2, E2, V2, st2⟩ := own_newa X1 hx hZ (hw _ (List.mem_of_getElem? (i := 10) rfl)) e1 (g := (mkF m 9 #[.val (.ref b), .val (.int (64 : Int32))] [(.int (1 : Int32)), (.ref b)])) rfl (hb hby d4_9) rfl (by decide) (cap := 1) (by decide) (by decide) (by decide) (by decide)
  obtain ⟨b2, g2⟩ : ∃ z, z = h0.size := ⟨_, rfl⟩
  rw [← g2] at V2 st2
  have g_b2 : n0 ≤ b2 := Nat.le_trans Z0 (Nat.le_of_eq g2.symm)
  have sz_b2 : h0.size ≤ b2 := Nat.le_trans ((Keep.refl h0 [b])).1 (Nat.le_of_eq g2.symm)
  have ne_b_b2 : b ≠ b2 := Nat.ne_of_lt (Nat.lt_of_lt_of_le Eb.lt (Nat.le_of_eq g2.symm))
  have f2_4 := Eb.ext E2
  have f2_3 := Fw.ext E2
  have f2_2 := Fs.ext E2
  have f2_1 := Fd.ext E2
  have K2 := ((Keep.refl h0 [b])).ext E2
  have Z2 := Nat.le_trans Z0 E2.1
  have Va2 : OwnA Z h2 b2 .long [(.long (0 : Int64))] := V2
  refine own_pre st2 ?_
  show OwnGoes p e below _ (T2.setTop (mkF m 11 #[.val (.ref b), .val (.int (64 : Int32))] [(.ref b2), (.ref b)]))
  obtain ⟨T3, h3, X3, e3, W3, st3⟩ := putF X2 hx hZ hown (host := "") (Or.inl (hw _ (List.mem_of_getElem? (i := 39) rfl))) Via.refl e2 f2_1 f2_4 (Or.inl (hw _ (List.mem_of_getElem? (i := 40) rfl))) (hw _ (List.mem_of_getElem? (i := 21) rfl)) (ty := (.array .long)) (by decide) rfl rfl (g := (mkF m 11 #[.val (.ref b), .val (.int (64 : Int32))] [(.ref b2), (.ref b)])) rfl rfl (hb hby d4_11)
  have f3_5 := f2_4.wr W3
  have f3_4 := f2_3.other W3 (Or.inr (slot_ne (Or.inl (hw _ (List.mem_of_getElem? (i := 28) rfl))) (Or.inl (hw _ (List.mem_of_getElem? (i := 40) rfl))) (by decide) (t := .int) (t' := (.array .long)) (by decide) (by decide)))
  have f3_3 := f2_2.other W3 (Or.inr (slot_ne (Or.inl (hw _ (List.mem_of_getElem? (i := 30) rfl))) (Or.inl (hw _ (List.mem_of_getElem? (i := 40) rfl))) (by decide) (t := .boolean) (t' := (.array .long)) (by decide) (by decide)))
  have f3_1 := Va2.other W3 (Ne.symm ne_b_b2)
  have K3 := (K2).wr W3 (Or.inl (List.mem_of_getElem? (i := 0) rfl))
  have Z3 := Nat.le_trans Z2 (Keep.of_wr W3).1
  have Fw3 := f2_1.same W3
  have N3 := Fr.snoc X3 N1 g_b
  refine own_pre st3 ?_
  show OwnGoes p e below _ (T3.setTop (mkF m 14 #[.val (.ref b), .val (.int (64 : Int32))] []))
  exact own_retV X3 hx Bd.returns Bd.notSynchronized (hb hby d4_14) ⟨rfl, N3, by rw [e3]; exact K3, by rw [e3]; exact f3_5, by rw [e3]; exact f3_4, by rw [e3]; exact f3_3, by rw [e3]; exact ⟨_, Fw3⟩⟩ (by decide) (by decide)
set_option maxRecDepth 65536 in
set_option maxHeartbeats 40000000 in
theorem rmBI (l : Launch) (Z : State) (a0 : Array Value) (hw : ∀ d ∈ tables_1, d.before a0 Z = true) (ws : List Jvm.Cond) (b : Addr) (h0 : Heap) (n0 : Nat) (Z0 : n0 ≤ h0.size) (Eb : Exa Z h0 b "java/util/BitSet") (Fw : Fld Z h0 b "java/util/BitSet" "wordsInUse" "I" (.int (0 : Int32))) (Fs : Fld Z h0 b "java/util/BitSet" "sizeIsSticky" "Z" (.int (0 : Int32))) (Fd : Fld Z h0 b "java/util/BitSet" "words" "[J" .null) (g_b : n0 ≤ b) :
    MetFree l (⟨"java/util/BitSet", "<init>", "()V"⟩ : MethodName) (head1 (Jvm.Cond.code (⟨"java/util/BitSet", "<init>", "()V"⟩ : MethodName) jdk_92_method_4_code 1 none :: ws) ({ frames := 2, cells := 1, slots := 1, locals := 28 } : Room)) (fun a U => a = #[(.ref b)] ∧ Z.Warmed39 U.vm ∧ U.heap = h0) (fun _ _ _ _ _ => True) (fun _ Uw_ ow_ Ue_ => ∃ vw_ Lw_, ow_ = .returned vw_ ∧ QIW Z b h0 n0 vw_ Ue_.heap Lw_ ∧ FrameEnd Uw_ ow_ Ue_ Lw_ ({ frames := 2, cells := 1, slots := 1, locals := 28 } : Room).cells ({ frames := 2, cells := 1, slots := 1, locals := 28 } : Room).slots) := by
  refine MetFree.of_bodySF (plainFor_of_name (by first | (simp [plainName, overriddenIn]; done) | decide +kernel)) hisR ?_
  intro p e s m args below meth c s₁ Bd hml0 hP hK
  obtain ⟨rfl, hZ, hh⟩ := hP
  have hx := Bd.exec
  have hby := Bd.bytes
  have hml : c.maxLocals = 1 := hml0
  have hown : s.vm.findClass "java/util/BitSet" = some m.cls := findClass_of_methodNamed Bd.named
  have hnm := (name_of_methodNamed Bd.named Bd.method).1
  have X0 : Stand p l e ({ frames := 2, cells := 1, slots := 1, locals := 28 } : Room) s m #[(.ref b)] below meth c s₁ [] 0 0 := Stand.of_body Bd
  have e0 : s₁.heap = h0 := by rw [← hh, Bd.state]; rfl
  have N0 := Fr.nil n0
  have ef : entryFrame m #[(.ref b)] 1 = (mkF m 0 #[.val (.ref b)] []) := by first | (simp [entryFrame, mkF, argsToLocals, Value.category]; done) | rfl
  show OwnGoes p e below (fun ow_ Ue_ => ∃ vw_ Lw_, ow_ = .returned vw_ ∧ QIW Z b h0 n0 vw_ Ue_.heap Lw_ ∧ FrameEnd s ow_ Ue_ Lw_ ({ frames := 2, cells := 1, slots := 1, locals := 28 } : Room).cells ({ frames := 2, cells := 1, slots := 1, locals := 28 } : Room).slots) (s₁.setTop (entryFrame m #[(.ref b)] 1))
  refine own_pre (fun t k => castTop ef k) ?_
  show OwnGoes p e below _ (s₁.setTop (mkF m 0 #[.val (.ref b)] []))
  refine own_pre (fun _ kz_ => XS.aloadN X0.here hx rfl (hb hby d3_0) rfl rfl kz_) ?_
  show OwnGoes p e below _ (s₁.setTop (mkF m 1 #[.val (.ref b)] [(.ref b)]))
  obtain ⟨T1, X1, e1, st1⟩ := initO X0 hx hZ hown (hw _ (List.mem_of_getElem? (i := 26) rfl)) (hw _ (List.mem_of_getElem? (i := 8) rfl)) (hw _ (List.mem_of_getElem? (i := 9) rfl)) e0 (g := (mkF m 1 #[.val (.ref b)] [(.ref b)])) rfl (by rw [hml]; rfl) rfl (hb hby d3_1) (by decide) (W := 0) (by show 2 * 0 + _ ≤ _; exact Nat.le_of_eq rfl) (by decide)
  refine own_pre st1 ?_
  show OwnGoes p e below _ (T1.setTop (mkF m 4 #[.val (.ref b)] []))
  refine own_pre (fun _ kz_ => XS.aloadN X1.here hx rfl (hb hby d3_4) rfl rfl kz_) ?_
  show OwnGoes p e below _ (T1.setTop (mkF m 5 #[.val (.ref b)] [(.ref b)]))
  refine own_pre (fun _ kz_ => XS.iconst X1.here hx rfl (hb hby d3_5) kz_) ?_
  show OwnGoes p e below _ (T1.setTop (mkF m 6 #[.val (.ref b)] [(.int (0 : Int32)), (.ref b)]))
  obtain ⟨T2, h2, X2, e2, W2, st2⟩ := putF X1 hx hZ hown (host := "") (Or.inl (hw _ (List.mem_of_getElem? (i := 27) rfl))) Via.refl e1 Fw Eb (Or.inl (hw _ (List.mem_of_getElem? (i := 28) rfl))) (hw _ (List.mem_of_getElem? (i := 21) rfl)) (ty := .int) (by decide) rfl rfl (g := (mkF m 6 #[.val (.ref b)] [(.int (0 : Int32)), (.ref b)])) rfl rfl (hb hby d3_6)
  have f2_4 := Eb.wr W2
  have f2_2 := Fs.other W2 (Or.inr (slot_ne (Or.inl (hw _ (List.mem_of_getElem? (i := 30) rfl))) (Or.inl (hw _ (List.mem_of_getElem? (i := 28) rfl))) (by decide) (t := .boolean) (t' := .int) (by decide) (by decide)))
  have f2_1 := Fd.other W2 (Or.inr (slot_ne (Or.inl (hw _ (List.mem_of_getElem? (i := 40) rfl))) (Or.inl (hw _ (List.mem_of_getElem? (i := 28) rfl))) (by decide) (t := (.array .long)) (t' := .int) (by decide) (by decide)))
  have K2 := ((Keep.refl h0 [b])).wr W2 (Or.inl (List.mem_of_getElem? (i := 0) rfl))
  have Z2 := Nat.le_trans Z0 (Keep.of_wr W2).1
  have Fw2 := Fw.same W2
  have N2 := Fr.snoc X2 N0 g_b
  refine own_pre st2 ?_
  show OwnGoes p e below _ (T2.setTop (mkF m 9 #[.val (.ref b)] []))
  refine own_pre (fun _ kz_ => XS.aloadN X2.here hx rfl (hb hby d3_9) rfl rfl kz_) ?_
  show OwnGoes p e below _ (T2.setTop (mkF m 10 #[.val (.ref b)] [(.ref b)]))
  refine own_pre (fun _ kz_ => XS.iconst X2.here hx rfl (hb hby d3_10) kz_) ?_
  show OwnGoes p e below _ (T2.setTop (mkF m 11 #[.val (.ref b)] [(.int (0 : Int32)), (.ref b)]))
  obtain ⟨T3, h3, X3, e3, W3, st3⟩ := putFN X2 hx hZ hown (hw _ (List.mem_of_getElem? (i := 29) rfl)) Via.refl e2 f2_2 f2_4 (Or.inl (hw _ (List.mem_of_getElem? (i := 30) rfl))) (hw _ (List.mem_of_getElem? (i := 21) rfl)) (ty := .boolean) (v' := (.int (0 : Int32))) (by decide) rfl rfl (g := (mkF m 11 #[.val (.ref b)] [(.int (0 : Int32)), (.ref b)])) rfl rfl (hb hby d3_11)
  have f3_4 := f2_4.wr W3
  have f3_3 := Fw2.other W3 (Or.inr (slot_ne (Or.inl (hw _ (List.mem_of_getElem? (i := 28) rfl))) (Or.inl (hw _ (List.mem_of_getElem? (i := 30) rfl))) (by decide) (t := .int) (t' := .boolean) (by decide) (by decide)))
  have f3_1 := f2_1.other W3 (Or.inr (slot_ne (Or.inl (hw _ (List.mem_of_getElem? (i := 40) rfl))) (Or.inl (hw _ (List.mem_of_getElem? (i := 30) rfl))) (by decide) (t := (.array .long)) (t' := .boolean) (by decide) (by decide)))
  have K3 := (K2).wr W3 (Or.inl (List.mem_of_getElem? (i := 0) rfl))
  have Z3 := Nat.le_trans Z2 (Keep.of_wr W3).1
  have Fw3 := f2_2.same W3
  have N3 := Fr.snoc X3 N2 g_b
  refine own_pre st3 ?_
  show OwnGoes p e below _ (T3.setTop (mkF m 14 #[.val (.ref b)] []))
  refine own_pre (fun _ kz_ => XS.aloadN X3.here hx rfl (hb hby d3_14) rfl rfl kz_) ?_
  show OwnGoes p e below _ (T3.setTop (mkF m 15 #[.val (.ref b)] [(.ref b)]))
  refine own_pre (fun _ kz_ => XS.bipush X3.here hx rfl (hb hby d3_15) kz_) ?_
  show OwnGoes p e below _ (T3.setTop (mkF m 17 #[.val (.ref b)] [(.int (64 : Int32)), (.ref b)]))
  obtain ⟨cq4, q4, q4'⟩ := f3_4.cell
  obtain ⟨_, _, ⟨T4, L4, k4, n4⟩, -, X4, ⟨Lc4, hQ4, l4, y4, z4⟩, st4⟩ := X3.privateBack hx (y := (⟨"java/util/BitSet", "initWords", "(I)V"⟩ : MethodName)) hown (mvT hZ (hw _ (List.mem_of_getElem? (i := 31) rfl))) (mvT hZ (hw _ (List.mem_of_getElem? (i := 32) rfl))) (mvT hZ (hw _ (List.mem_of_getElem? (i := 34) rfl))) (Jvm.Cond.privateMethod_at (mvP hZ (hw _ (List.mem_of_getElem? (i := 33) rfl)) (args := #[]))) (mvT hZ (hw _ (List.mem_of_getElem? (i := 35) rfl))) (by decide) (backOf (W := 0) (rmIW l Z a0 hw [] b h3 n0 Z3 f3_4 f3_3 Fw3 f3_1 g_b) hZ (hw _ (List.mem_of_getElem? (i := 35) rfl)) (hw _ (List.mem_of_getElem? (i := 22) rfl)) (by decide) (by decide)) (g := (mkF m 17 #[.val (.ref b)] [(.int (64 : Int32)), (.ref b)])) rfl (by rw [hml]; rfl) (Steps.refl _) (a := b) (by rw [e3]; exact q4) q4' (argsL := [(.int (64 : Int32))]) (rest := []) (lenOf (d := "(I)V") (ps := [.int]) (r := none) (by decide +kernel) rfl) rfl (by show 2 * 0 + _ ≤ _; exact Nat.le_of_eq rfl) (hb hby d3_17) (fun _ _ => ⟨rfl, e3, (by decide : 0 + 1 ≤ _), (by decide : 0 + 1 ≤ _)⟩)
  dsimp only [Pt.U, Pt.locs, Pt.cells, Pt.slots] at X4 l4 y4 z4 st4 hQ4
  subst l4 y4 z4
  obtain ⟨rfl, N4q, K4q, E4q, F4q, G4q, yw, H4q⟩ := hQ4
  have N4 := Fr.app N3 N4q
  refine own_tr st4 ?_
  have f4_4 := f3_4.keep K4q
  have Z4 := Nat.le_trans Z3 K4q.1
  have KK4 := (K3).trans K4q (fun x hx => by simp only [List.mem_cons, List.not_mem_nil, or_false] at hx; rcases hx with rfl <;> first | exact Or.inl (List.mem_of_getElem? (i := 0) rfl) | exact Or.inl (List.mem_of_getElem? (i := 1) rfl) )
  show OwnGoes p e below _ (T4.setTop (mkF m 20 #[.val (.ref b)] []))
  refine own_pre (fun _ kz_ => XS.aloadN X4.here hx rfl (hb hby d3_20) rfl rfl kz_) ?_
  show OwnGoes p e below _ (T4.setTop (mkF m 21 #[.val (.ref b)] [(.ref b)]))
  refine own_pre (fun _ kz_ => XS.iconst X4.here hx rfl (hb hby d3_21) kz_) ?_
  show OwnGoes p e below _ (T4.setTop (mkF m 22 #[.val (.ref b)] [(.int (0 : Int32)), (.ref b)]))
  obtain ⟨T5, h5, X5, e5, W5, st5⟩ := putFN X4 hx hZ hown (hw _ (List.mem_of_getElem? (i := 29) rfl)) Via.refl rfl G4q E4q (Or.inl (hw _ (List.mem_of_getElem? (i := 30) rfl))) (hw _ (List.mem_of_getElem? (i := 21) rfl)) (ty := .boolean) (v' := (.int (0 : Int32))) (by decide) rfl rfl (g := (mkF m 22 #[.val (.ref b)] [(.int (0 : Int32)), (.ref b)])) rfl rfl (hb hby d3_22)
  have f5_4 := E4q.wr W5
  have f5_3 := F4q.other W5 (Or.inr (slot_ne (Or.inl (hw _ (List.mem_of_getElem? (i := 28) rfl))) (Or.inl (hw _ (List.mem_of_getElem? (i := 30) rfl))) (by decide) (t := .int) (t' := .boolean) (by decide) (by decide)))
  have f5_1 := H4q.other W5 (Or.inr (slot_ne (Or.inl (hw _ (List.mem_of_getElem? (i := 40) rfl))) (Or.inl (hw _ (List.mem_of_getElem? (i := 30) rfl))) (by decide) (t := (.array .long)) (t' := .boolean) (by decide) (by decide)))
  have K5 := (KK4).wr W5 (Or.inl (List.mem_of_getElem? (i := 0) rfl))
  have Z5 := Nat.le_trans Z4 (Keep.of_wr W5).1
  have Fw5 := G4q.same W5
  have N5 := Fr.snoc X5 N4 g_b
  refine own_pre st5 ?_
  show OwnGoes p e below _ (T5.setTop (mkF m 25 #[.val (.ref b)] []))
  exact own_retV X5 hx Bd.returns Bd.notSynchronized (hb hby d3_25) ⟨rfl, N5, by rw [e5]; exact K5, by rw [e5]; exact f5_4, by rw [e5]; exact f5_3, by rw [e5]; exact Fw5, by rw [e5]; exact ⟨_, f5_1⟩⟩ (by decide) (by decide)
def QOI (Z : State) (o : Addr) (h0 : Heap) (n0 : Nat) (v : Option Value) (h : Heap) (L : List Loc) : Prop := v = none ∧ Fr n0 L ∧ Keep h0 h [o] ∧ OwnIdx Z n0 h o (List.replicate 1024 (0 : Int32))
set_option maxRecDepth 65536 in
set_option maxHeartbeats 40000000 in
theorem rmOI (l : Launch) (Z : State) (a0 : Array Value) (hw : ∀ d ∈ tables_1, d.before a0 Z = true) (ws : List Jvm.Cond) (o : Addr) (h0 : Heap) (n0 : Nat) (Z0 : n0 ≤ h0.size) (Eo : Exa Z h0 o "com/example/holdfast/holdfast/store/ObjectIndex") (F0 : Fld Z h0 o "com/example/holdfast/holdfast/store/ObjectIndex" "positions" "[J" .null) (F1 : Fld Z h0 o "com/example/holdfast/holdfast/store/ObjectIndex" "lengths" "[I" .null) (F2 : Fld Z h0 o "com/example/holdfast/holdfast/store/ObjectIndex" "classes" "[I" .null) (F3 : Fld Z h0 o "com/example/holdfast/holdfast/store/ObjectIndex" "versions" "[J" .null) (F4 : Fld Z h0 o "com/example/holdfast/holdfast/store/ObjectIndex" "replacedClasses" "Ljava/util/BitSet;" .null) (g_o : n0 ≤ o) :
    MetFree l (⟨"com/example/holdfast/holdfast/store/ObjectIndex", "<init>", "()V"⟩ : MethodName) (head1 (Jvm.Cond.code (⟨"com/example/holdfast/holdfast/store/ObjectIndex", "<init>", "()V"⟩ : MethodName) prog_119_method_1_code 1 none :: ws) ({ frames := 3, cells := 6, slots := 4100, locals := 42 } : Room)) (fun a U => a = #[(.ref o)] ∧ Z.Warmed39 U.vm ∧ U.heap = h0) (fun _ _ _ _ _ => True) (fun _ Uw_ ow_ Ue_ => ∃ vw_ Lw_, ow_ = .returned vw_ ∧ QOI Z o h0 n0 vw_ Ue_.heap Lw_ ∧ FrameEnd Uw_ ow_ Ue_ Lw_ ({ frames := 3, cells := 6, slots := 4100, locals := 42 } : Room).cells ({ frames := 3, cells := 6, slots := 4100, locals := 42 } : Room).slots) := by
  refine MetFree.of_bodySF (plainFor_of_name (by first | (simp [plainName, overriddenIn]; done) | decide +kernel)) hisR ?_
  intro p e s m args below meth c s₁ Bd hml0 hP hK
  obtain ⟨rfl, hZ, hh⟩ := hP
  have hx := Bd.exec
  have hby := Bd.bytes
  have hml : c.maxLocals = 1 := hml0
  have hown : s.vm.findClass "com/example/holdfast/holdfast/store/ObjectIndex" = some m.cls := findClass_of_methodNamed Bd.named
  have hnm := (name_of_methodNamed Bd.named Bd.method).1
  have X0 : Stand p l e ({ frames := 3, cells := 6, slots := 4100, locals := 42 } : Room) s m #[(.ref o)] below meth c s₁ [] 0 0 := Stand.of_body Bd
  have e0 : s₁.heap = h0 := by rw [← hh, Bd.state]; rfl
  have N0 := Fr.nil n0
  have ef : entryFrame m #[(.ref o)] 1 = (mkF m 0 #[.val (.ref o)] []) := by first | (simp [entryFrame, mkF, argsToLocals, Value.category]; done) | rfl
  show OwnGoes p e below (fun ow_ Ue_ => ∃ vw_ Lw_, ow_ = .returned vw_ ∧ QOI Z o h0 n0 vw_ Ue_.heap Lw_ ∧ FrameEnd s ow_ Ue_ Lw_ ({ frames := 3, cells := 6, slots := 4100, locals := 42 } : Room).cells ({ frames := 3, cells := 6, slots := 4100, locals := 42 } : Room).slots) (s₁.setTop (entryFrame m #[(.ref o)] 1))
  refine own_pre (fun t k => castTop ef k) ?_
  show OwnGoes p e below _ (s₁.setTop (mkF m 0 #[.val (.ref o)] []))
  refine own_pre (fun _ kz_ => XS.aloadN X0.here hx rfl (hb hby d1_0) rfl rfl kz_) ?_
  show OwnGoes p e below _ (s₁.setTop (mkF m 1 #[.val (.ref o)] [(.ref o)]))
  obtain ⟨T1, X1, e1, st1⟩ := initO X0 hx hZ hown (hw _ (List.mem_of_getElem? (i := 7) rfl)) (hw _ (List.mem_of_getElem? (i := 8) rfl)) (hw _ (List.mem_of_getElem? (i := 9) rfl)) e0 (g := (mkF m 1 #[.val (.ref o)] [(.ref o)])) rfl (by rw [hml]; rfl) rfl (hb hby d1_1) (by decide) (W := 0) (by show 2 * 0 + _ ≤ _; exact Nat.le_of_eq rfl) (by decide)
  refine own_pre st1 ?_
  show OwnGoes p e below _ (T1.setTop (mkF m 4 #[.val (.ref o)] []))
  refine own_pre (fun _ kz_ => XS.aloadN X1.here hx rfl (hb hby d1_4) rfl rfl kz_) ?_
  show OwnGoes p e below _ (T1.setTop (mkF m 5 #[.val (.ref o)] [(.ref o)]))
  refine own_pre (fun _ kz_ => XS.sipush X1.here hx rfl (hb hby d1_5) kz_) ?_
  show OwnGoes p e below _ (T1.setTop (mkF m 8 #[.val (.ref o)] [(.int (1024 : Int32)), (.ref o)]))
  obtain ⟨T2, h2, X2, e2, E2, V2, st2⟩ := own_newa X1 hx hZ (hw _ (List.mem_of_getElem? (i := 10) rfl)) e1 (g := (mkF m 8 #[.val (.ref o)] [(.int (1024 : Int32)), (.ref o)])) rfl (hb hby d1_8) rfl (by decide) (cap := 1024) (by decide) (by decide) (by decide) (by decide)
  obtain ⟨ap, g2⟩ : ∃ z, z = h0.size := ⟨_, rfl⟩
  rw [← g2] at V2 st2
  have g_ap : n0 ≤ ap := Nat.le_trans Z0 (Nat.le_of_eq g2.symm)
  have sz_ap : h0.size ≤ ap := Nat.le_trans ((Keep.refl h0 [o])).1 (Nat.le_of_eq g2.symm)
  have ne_o_ap : o ≠ ap := Nat.ne_of_lt (Nat.lt_of_lt_of_le Eo.lt (Nat.le_of_eq g2.symm))
  have f2_6 := Eo.ext E2
  have f2_5 := F0.ext E2
  have f2_4 := F1.ext E2
  have f2_3 := F2.ext E2
  have f2_2 := F3.ext E2
  have f2_1 := F4.ext E2
  have K2 := ((Keep.refl h0 [o])).ext E2
  have Z2 := Nat.le_trans Z0 E2.1
  have Va2 : OwnA Z h2 ap .long (List.replicate 1024 (.long (0 : Int64))) := V2
  refine own_pre st2 ?_
  show OwnGoes p e below _ (T2.setTop (mkF m 10 #[.val (.ref o)] [(.ref ap), (.ref o)]))
  obtain ⟨T3, h3, X3, e3, W3, st3⟩ := putF X2 hx hZ hown (host := "") (Or.inl (hw _ (List.mem_of_getElem? (i := 11) rfl))) Via.refl e2 f2_5 f2_6 (Or.inl (hw _ (List.mem_of_getElem? (i := 12) rfl))) (hw _ (List.mem_of_getElem? (i := 2) rfl)) (ty := (.array .long)) (by decide) rfl rfl (g := (mkF m 10 #[.val (.ref o)] [(.ref ap), (.ref o)])) rfl rfl (hb hby d1_10)
  have f3_7 := f2_6.wr W3
  have f3_5 := f2_4.other W3 (Or.inr (slot_ne (Or.inl (hw _ (List.mem_of_getElem? (i := 15) rfl))) (Or.inl (hw _ (List.mem_of_getElem? (i := 12) rfl))) (by decide) (t := (.array .int)) (t' := (.array .long)) (by decide) (by decide)))
  have f3_4 := f2_3.other W3 (Or.inr (slot_ne (Or.inl (hw _ (List.mem_of_getElem? (i := 17) rfl))) (Or.inl (hw _ (List.mem_of_getElem? (i := 12) rfl))) (by decide) (t := (.array .int)) (t' := (.array .long)) (by decide) (by decide)))
  have f3_3 := f2_2.other W3 (Or.inr (slot_ne (Or.inl (hw _ (List.mem_of_getElem? (i := 19) rfl))) (Or.inl (hw _ (List.mem_of_getElem? (i := 12) rfl))) (by decide) (t := (.array .long)) (t' := (.array .long)) (by decide) (by decide)))
  have f3_2 := f2_1.other W3 (Or.inr (slot_ne (Or.inr (hw _ (List.mem_of_getElem? (i := 42) rfl))) (Or.inl (hw _ (List.mem_of_getElem? (i := 12) rfl))) (by decide) (t := (.object "java/util/BitSet")) (t' := (.array .long)) (by decide) (by decide)))
  have f3_1 := Va2.other W3 (Ne.symm ne_o_ap)
  have K3 := (K2).wr W3 (Or.inl (List.mem_of_getElem? (i := 0) rfl))
  have Z3 := Nat.le_trans Z2 (Keep.of_wr W3).1
  have Fw3 := f2_5.same W3
  have N3 := Fr.snoc X3 N0 g_o
  refine own_pre st3 ?_
  show OwnGoes p e below _ (T3.setTop (mkF m 13 #[.val (.ref o)] []))
  refine own_pre (fun _ kz_ => XS.aloadN X3.here hx rfl (hb hby d1_13) rfl rfl kz_) ?_
  show OwnGoes p e below _ (T3.setTop (mkF m 14 #[.val (.ref o)] [(.ref o)]))
  refine own_pre (fun _ kz_ => XS.sipush X3.here hx rfl (hb hby d1_14) kz_) ?_
  show OwnGoes p e below _ (T3.setTop (mkF m 17 #[.val (.ref o)] [(.int (1024 : Int32)), (.ref o)]))
  obtain ⟨T4, h4, X4, e4, E4, V4, st4⟩ := own_newa X3 hx hZ (hw _ (List.mem_of_getElem? (i := 13) rfl)) e3 (g := (mkF m 17 #[.val (.ref o)] [(.int (1024 : Int32)), (.ref o)])) rfl (hb hby d1_17) rfl (by decide) (cap := 1024) (by decide) (by decide) (by decide) (by decide)
  obtain ⟨al, g4⟩ : ∃ z, z = h3.size := ⟨_, rfl⟩
  rw [← g4] at V4 st4
  have g_al : n0 ≤ al := Nat.le_trans Z3 (Nat.le_of_eq g4.symm)
  have sz_al : h0.size ≤ al := Nat.le_trans (K3).1 (Nat.le_of_eq g4.symm)
  have ne_ap_al : ap ≠ al := Nat.ne_of_lt (Nat.lt_of_lt_of_le f3_1.lt (Nat.le_of_eq g4.symm))
  have ne_o_al : o ≠ al := Nat.ne_of_lt (Nat.lt_of_lt_of_le f3_7.lt (Nat.le_of_eq g4.symm))
  have f4_7 := f3_7.ext E4
  have f4_6 := Fw3.ext E4
  have f4_5 := f3_5.ext E4
  have f4_4 := f3_4.ext E4
  have f4_3 := f3_3.ext E4
  have f4_2 := f3_2.ext E4
  have f4_1 := f3_1.ext E4
  have K4 := (K3).ext E4
  have Z4 := Nat.le_trans Z3 E4.1
  have Va4 : OwnA Z h4 al .int (List.replicate 1024 (.int (0 : Int32))) := V4
  refine own_pre st4 ?_
  show OwnGoes p e below _ (T4.setTop (mkF m 19 #[.val (.ref o)] [(.ref al), (.ref o)]))
  obtain ⟨T5, h5, X5, e5, W5, st5⟩ := putF X4 hx hZ hown (host := "") (Or.inl (hw _ (List.mem_of_getElem? (i := 14) rfl))) Via.refl e4 f4_5 f4_7 (Or.inl (hw _ (List.mem_of_getElem? (i := 15) rfl))) (hw _ (List.mem_of_getElem? (i := 2) rfl)) (ty := (.array .int)) (by decide) rfl rfl (g := (mkF m 19 #[.val (.ref o)] [(.ref al), (.ref o)])) rfl rfl (hb hby d1_19)
  have f5_8 := f4_7.wr W5
  have f5_7 := f4_6.other W5 (Or.inr (slot_ne (Or.inl (hw _ (List.mem_of_getElem? (i := 12) rfl))) (Or.inl (hw _ (List.mem_of_getElem? (i := 15) rfl))) (by decide) (t := (.array .long)) (t' := (.array .int)) (by decide) (by decide)))
  have f5_5 := f4_4.other W5 (Or.inr (slot_ne (Or.inl (hw _ (List.mem_of_getElem? (i := 17) rfl))) (Or.inl (hw _ (List.mem_of_getElem? (i := 15) rfl))) (by decide) (t := (.array .int)) (t' := (.array .int)) (by decide) (by decide)))
  have f5_4 := f4_3.other W5 (Or.inr (slot_ne (Or.inl (hw _ (List.mem_of_getElem? (i := 19) rfl))) (Or.inl (hw _ (List.mem_of_getElem? (i := 15) rfl))) (by decide) (t := (.array .long)) (t' := (.array .int)) (by decide) (by decide)))
  have f5_3 := f4_2.other W5 (Or.inr (slot_ne (Or.inr (hw _ (List.mem_of_getElem? (i := 42) rfl))) (Or.inl (hw _ (List.mem_of_getElem? (i := 15) rfl))) (by decide) (t := (.object "java/util/BitSet")) (t' := (.array .int)) (by decide) (by decide)))
  have f5_2 := f4_1.other W5 (Ne.symm ne_o_ap)
  have f5_1 := Va4.other W5 (Ne.symm ne_o_al)
  have K5 := (K4).wr W5 (Or.inl (List.mem_of_getElem? (i := 0) rfl))
  have Z5 := Nat.le_trans Z4 (Keep.of_wr W5).1
  have Fw5 := f4_5.same W5
  have N5 := Fr.snoc X5 N3 g_o
  refine own_pre st5 ?_
  show OwnGoes p e below _ (T5.setTop (mkF m 22 #[.val (.ref o)] []))
  refine own_pre (fun _ kz_ => XS.aloadN X5.here hx rfl (hb hby d1_22) rfl rfl kz_) ?_
  show OwnGoes p e below _ (T5.setTop (mkF m 23 #[.val (.ref o)] [(.ref o)]))
  refine own_pre (fun _ kz_ => XS.sipush X5.here hx rfl (hb hby d1_23) kz_) ?_
  show OwnGoes p e below _ (T5.setTop (mkF m 26 #[.val (.ref o)] [(.int (1024 : Int32)), (.ref o)]))
  obtain ⟨T6, h6, X6, e6, E6, V6, st6⟩ := own_newa X5 hx hZ (hw _ (List.mem_of_getElem? (i := 13) rfl)) e5 (g := (mkF m 26 #[.val (.ref o)] [(.int (1024 : Int32)), (.ref o)])) rfl (hb hby d1_26) rfl (by decide) (cap := 1024) (by decide) (by decide) (by decide) (by decide)
  obtain ⟨ac, g6⟩ : ∃ z, z = h5.size := ⟨_, rfl⟩
  rw [← g6] at V6 st6
  have g_ac : n0 ≤ ac := Nat.le_trans Z5 (Nat.le_of_eq g6.symm)
  have sz_ac : h0.size ≤ ac := Nat.le_trans (K5).1 (Nat.le_of_eq g6.symm)
  have ne_ap_ac : ap ≠ ac := Nat.ne_of_lt (Nat.lt_of_lt_of_le f5_2.lt (Nat.le_of_eq g6.symm))
  have ne_o_ac : o ≠ ac := Nat.ne_of_lt (Nat.lt_of_lt_of_le f5_8.lt (Nat.le_of_eq g6.symm))
  have ne_al_ac : al ≠ ac := Nat.ne_of_lt (Nat.lt_of_lt_of_le f5_1.lt (Nat.le_of_eq g6.symm))
  have f6_8 := f5_8.ext E6
  have f6_7 := f5_7.ext E6
  have f6_6 := Fw5.ext E6
  have f6_5 := f5_5.ext E6
  have f6_4 := f5_4.ext E6
  have f6_3 := f5_3.ext E6
  have f6_2 := f5_2.ext E6
  have f6_1 := f5_1.ext E6
  have K6 := (K5).ext E6
  have Z6 := Nat.le_trans Z5 E6.1
  have Va6 : OwnA Z h6 ac .int (List.replicate 1024 (.int (0 : Int32))) := V6
  refine own_pre st6 ?_
  show OwnGoes p e below _ (T6.setTop (mkF m 28 #[.val (.ref o)] [(.ref ac), (.ref o)]))
  obtain ⟨T7, h7, X7, e7, W7, st7⟩ := putF X6 hx hZ hown (host := "") (Or.inl (hw _ (List.mem_of_getElem? (i := 16) rfl))) Via.refl e6 f6_5 f6_8 (Or.inl (hw _ (List.mem_of_getElem? (i := 17) rfl))) (hw _ (List.mem_of_getElem? (i := 2) rfl)) (ty := (.array .int)) (by decide) rfl rfl (g := (mkF m 28 #[.val (.ref o)] [(.ref ac), (.ref o)])) rfl rfl (hb hby d1_28)
  have f7_9 := f6_8.wr W7
  have f7_8 := f6_7.other W7 (Or.inr (slot_ne (Or.inl (hw _ (List.mem_of_getElem? (i := 12) rfl))) (Or.inl (hw _ (List.mem_of_getElem? (i := 17) rfl))) (by decide) (t := (.array .long)) (t' := (.array .int)) (by decide) (by decide)))
  have f7_7 := f6_6.other W7 (Or.inr (slot_ne (Or.inl (hw _ (List.mem_of_getElem? (i := 15) rfl))) (Or.inl (hw _ (List.mem_of_getElem? (i := 17) rfl))) (by decide) (t := (.array .int)) (t' := (.array .int)) (by decide) (by decide)))
  have f7_5 := f6_4.other W7 (Or.inr (slot_ne (Or.inl (hw _ (List.mem_of_getElem? (i := 19) rfl))) (Or.inl (hw _ (List.mem_of_getElem? (i := 17) rfl))) (by decide) (t := (.array .long)) (t' := (.array .int)) (by decide) (by decide)))
  have f7_4 := f6_3.other W7 (Or.inr (slot_ne (Or.inr (hw _ (List.mem_of_getElem? (i := 42) rfl))) (Or.inl (hw _ (List.mem_of_getElem? (i := 17) rfl))) (by decide) (t := (.object "java/util/BitSet")) (t' := (.array .int)) (by decide) (by decide)))
  have f7_3 := f6_2.other W7 (Ne.symm ne_o_ap)
  have f7_2 := f6_1.other W7 (Ne.symm ne_o_al)
  have f7_1 := Va6.other W7 (Ne.symm ne_o_ac)
  have K7 := (K6).wr W7 (Or.inl (List.mem_of_getElem? (i := 0) rfl))
  have Z7 := Nat.le_trans Z6 (Keep.of_wr W7).1
  have Fw7 := f6_5.same W7
  have N7 := Fr.snoc X7 N5 g_o
  refine own_pre st7 ?_
  show OwnGoes p e below _ (T7.setTop (mkF m 31 #[.val (.ref o)] []))
  refine own_pre (fun _ kz_ => XS.aloadN X7.here hx rfl (hb hby d1_31) rfl rfl kz_) ?_
  show OwnGoes p e below _ (T7.setTop (mkF m 32 #[.val (.ref o)] [(.ref o)]))
  refine own_pre (fun _ kz_ => XS.sipush X7.here hx rfl (hb hby d1_32) kz_) ?_
  show OwnGoes p e below _ (T7.setTop (mkF m 35 #[.val (.ref o)] [(.int (1024 : Int32)), (.ref o)]))
  obtain ⟨T8, h8, X8, e8, E8, V8, st8⟩ := own_newa X7 hx hZ (hw _ (List.mem_of_getElem? (i := 10) rfl)) e7 (g := (mkF m 35 #[.val (.ref o)] [(.int (1024 : Int32)), (.ref o)])) rfl (hb hby d1_35) rfl (by decide) (cap := 1024) (by decide) (by decide) (by decide) (by decide)
  obtain ⟨av, g8⟩ : ∃ z, z = h7.size := ⟨_, rfl⟩
  rw [← g8] at V8 st8
  have g_av : n0 ≤ av := Nat.le_trans Z7 (Nat.le_of_eq g8.symm)
  have sz_av : h0.size ≤ av := Nat.le_trans (K7).1 (Nat.le_of_eq g8.symm)
  have ne_ap_av : ap ≠ av := Nat.ne_of_lt (Nat.lt_of_lt_of_le f7_3.lt (Nat.le_of_eq g8.symm))
  have ne_o_av : o ≠ av := Nat.ne_of_lt (Nat.lt_of_lt_of_le f7_9.lt (Nat.le_of_eq g8.symm))
  have ne_ac_av : ac ≠ av := Nat.ne_of_lt (Nat.lt_of_lt_of_le f7_1.lt (Nat.le_of_eq g8.symm))
  have ne_al_av : al ≠ av := Nat.ne_of_lt (Nat.lt_of_lt_of_le f7_2.lt (Nat.le_of_eq g8.symm))
  have f8_9 := f7_9.ext E8
  have f8_8 := f7_8.ext E8
  have f8_7 := f7_7.ext E8
  have f8_6 := Fw7.ext E8
  have f8_5 := f7_5.ext E8
  have f8_4 := f7_4.ext E8
  have f8_3 := f7_3.ext E8
  have f8_2 := f7_2.ext E8
  have f8_1 := f7_1.ext E8
  have K8 := (K7).ext E8
  have Z8 := Nat.le_trans Z7 E8.1
  have Va8 : OwnA Z h8 av .long (List.replicate 1024 (.long (0 : Int64))) := V8
  refine own_pre st8 ?_
  show OwnGoes p e below _ (T8.setTop (mkF m 37 #[.val (.ref o)] [(.ref av), (.ref o)]))
  obtain ⟨T9, h9, X9, e9, W9, st9⟩ := putF X8 hx hZ hown (host := "") (Or.inl (hw _ (List.mem_of_getElem? (i := 18) rfl))) Via.refl e8 f8_5 f8_9 (Or.inl (hw _ (List.mem_of_getElem? (i := 19) rfl))) (hw _ (List.mem_of_getElem? (i := 2) rfl)) (ty := (.array .long)) (by decide) rfl rfl (g := (mkF m 37 #[.val (.ref o)] [(.ref av), (.ref o)])) rfl rfl (hb hby d1_37)
  have f9_10 := f8_9.wr W9
  have f9_9 := f8_8.other W9 (Or.inr (slot_ne (Or.inl (hw _ (List.mem_of_getElem? (i := 12) rfl))) (Or.inl (hw _ (List.mem_of_getElem? (i := 19) rfl))) (by decide) (t := (.array .long)) (t' := (.array .long)) (by decide) (by decide)))
  have f9_8 := f8_7.other W9 (Or.inr (slot_ne (Or.inl (hw _ (List.mem_of_getElem? (i := 15) rfl))) (Or.inl (hw _ (List.mem_of_getElem? (i := 19) rfl))) (by decide) (t := (.array .int)) (t' := (.array .long)) (by decide) (by decide)))
  have f9_7 := f8_6.other W9 (Or.inr (slot_ne (Or.inl (hw _ (List.mem_of_getElem? (i := 17) rfl))) (Or.inl (hw _ (List.mem_of_getElem? (i := 19) rfl))) (by decide) (t := (.array .int)) (t' := (.array .long)) (by decide) (by decide)))
  have f9_5 := f8_4.other W9 (Or.inr (slot_ne (Or.inr (hw _ (List.mem_of_getElem? (i := 42) rfl))) (Or.inl (hw _ (List.mem_of_getElem? (i := 19) rfl))) (by decide) (t := (.object "java/util/BitSet")) (t' := (.array .long)) (by decide) (by decide)))
  have f9_4 := f8_3.other W9 (Ne.symm ne_o_ap)
  have f9_3 := f8_2.other W9 (Ne.symm ne_o_al)
  have f9_2 := f8_1.other W9 (Ne.symm ne_o_ac)
  have f9_1 := Va8.other W9 (Ne.symm ne_o_av)
  have K9 := (K8).wr W9 (Or.inl (List.mem_of_getElem? (i := 0) rfl))
  have Z9 := Nat.le_trans Z8 (Keep.of_wr W9).1
  have Fw9 := f8_5.same W9
  have N9 := Fr.snoc X9 N7 g_o
  refine own_pre st9 ?_
  show OwnGoes p e below _ (T9.setTop (mkF m 40 #[.val (.ref o)] []))
  refine own_pre (fun _ kz_ => XS.aloadN X9.here hx rfl (hb hby d1_40) rfl rfl kz_) ?_
  show OwnGoes p e below _ (T9.setTop (mkF m 41 #[.val (.ref o)] [(.ref o)]))
  obtain ⟨T10, h10, X10, e10, E10, A10, D10, -, st10⟩ := newO X9 hx hZ hown (hw _ (List.mem_of_getElem? (i := 20) rfl)) (hw _ (List.mem_of_getElem? (i := 21) rfl)) (hw _ (List.mem_of_getElem? (i := 22) rfl)) e9 (g := (mkF m 41 #[.val (.ref o)] [(.ref o)])) rfl (hb hby d1_41) (by decide) (by decide)
  obtain ⟨ab, g10⟩ : ∃ z, z = h9.size := ⟨_, rfl⟩
  rw [← g10] at A10 D10 st10
  have g_ab : n0 ≤ ab := Nat.le_trans Z9 (Nat.le_of_eq g10.symm)
  have sz_ab : h0.size ≤ ab := Nat.le_trans (K9).1 (Nat.le_of_eq g10.symm)
  have ne_ap_ab : ap ≠ ab := Nat.ne_of_lt (Nat.lt_of_lt_of_le f9_4.lt (Nat.le_of_eq g10.symm))
  have ne_av_ab : av ≠ ab := Nat.ne_of_lt (Nat.lt_of_lt_of_le f9_1.lt (Nat.le_of_eq g10.symm))
  have ne_al_ab : al ≠ ab := Nat.ne_of_lt (Nat.lt_of_lt_of_le f9_3.lt (Nat.le_of_eq g10.symm))
  have ne_ac_ab : ac ≠ ab := Nat.ne_of_lt (Nat.lt_of_lt_of_le f9_2.lt (Nat.le_of_eq g10.symm))
  have ne_o_ab : o ≠ ab := Nat.ne_of_lt (Nat.lt_of_lt_of_le f9_10.lt (Nat.le_of_eq g10.symm))
  have f10_10 := f9_10.ext E10
  have f10_9 := f9_9.ext E10
  have f10_8 := f9_8.ext E10
  have f10_7 := f9_7.ext E10
  have f10_6 := Fw9.ext E10
  have f10_5 := f9_5.ext E10
  have f10_4 := f9_4.ext E10
  have f10_3 := f9_3.ext E10
  have f10_2 := f9_2.ext E10
  have f10_1 := f9_1.ext E10
  have K10 := (K9).ext E10
  have Z10 := Nat.le_trans Z9 E10.1
  have F10_wordsInUse : Fld Z h10 ab "java/util/BitSet" "wordsInUse" "I" (.int (0 : Int32)) := D10 (Or.inl (hw _ (List.mem_of_getElem? (i := 28) rfl))) (ty := .int) (by decide)
  have F10_sizeIsSticky : Fld Z h10 ab "java/util/BitSet" "sizeIsSticky" "Z" (.int (0 : Int32)) := D10 (Or.inl (hw _ (List.mem_of_getElem? (i := 30) rfl))) (ty := .boolean) (by decide)
  have F10_words : Fld Z h10 ab "java/util/BitSet" "words" "[J" .null := D10 (Or.inl (hw _ (List.mem_of_getElem? (i := 40) rfl))) (ty := (.array .long)) (by decide)
  refine own_pre st10 ?_
  show OwnGoes p e below _ (T10.setTop (mkF m 44 #[.val (.ref o)] [(.ref ab), (.ref o)]))
  refine own_pre (fun _ kz_ => XS.dup X10.here hx rfl (hb hby d1_44) rfl rfl kz_) ?_
  show OwnGoes p e below _ (T10.setTop (mkF m 45 #[.val (.ref o)] [(.ref ab), (.ref ab), (.ref o)]))
  obtain ⟨_, _, ⟨T11, L11, k11, n11⟩, -, X11, ⟨Lc11, hQ11, l11, y11, z11⟩, st11⟩ := X10.specialBack hx (y := (⟨"java/util/BitSet", "<init>", "()V"⟩ : MethodName)) rfl hown (mvT hZ (hw _ (List.mem_of_getElem? (i := 23) rfl))) (mvT hZ (hw _ (List.mem_of_getElem? (i := 24) rfl))) (mvT hZ (hw _ (List.mem_of_getElem? (i := 25) rfl))) (by decide) (backOf (W := 2) (rmBI l Z a0 hw [] ab h10 n0 Z10 A10 F10_wordsInUse F10_sizeIsSticky F10_words g_ab) hZ (hw _ (List.mem_of_getElem? (i := 25) rfl)) (hw _ (List.mem_of_getElem? (i := 22) rfl)) (by decide) (by decide)) (g := (mkF m 45 #[.val (.ref o)] [(.ref ab), (.ref ab), (.ref o)])) rfl (by rw [hml]; rfl) (Steps.refl _) (a := ab) (argsL := []) (rest := [(.ref ab), (.ref o)]) (lenOf (d := "()V") (ps := []) (r := none) (by decide +kernel) rfl) rfl (by show 2 * 0 + _ ≤ _; exact Nat.le_of_eq rfl) (hb hby d1_45) (fun _ _ => ⟨rfl, e10, (by decide : 5 + 1 ≤ _), (by decide : 4099 + 1 ≤ _)⟩)
  dsimp only [Pt.U, Pt.locs, Pt.cells, Pt.slots] at X11 l11 y11 z11 st11 hQ11
  subst l11 y11 z11
  obtain ⟨rfl, N11q, K11q, E11q, F11q, -, -⟩ := hQ11
  have N11 := Fr.app N9 N11q
  refine own_tr st11 ?_
  have f11_14 := f10_10.keep K11q
  have f11_13 := f10_9.keep K11q (fun q => ne_o_ab (List.mem_singleton.mp q))
  have f11_12 := f10_8.keep K11q (fun q => ne_o_ab (List.mem_singleton.mp q))
  have f11_11 := f10_7.keep K11q (fun q => ne_o_ab (List.mem_singleton.mp q))
  have f11_10 := f10_6.keep K11q (fun q => ne_o_ab (List.mem_singleton.mp q))
  have f11_9 := f10_5.keep K11q (fun q => ne_o_ab (List.mem_singleton.mp q))
  have f11_8 := f10_4.keep K11q (fun q => ne_ap_ab (List.mem_singleton.mp q))
  have f11_7 := f10_3.keep K11q (fun q => ne_al_ab (List.mem_singleton.mp q))
  have f11_6 := f10_2.keep K11q (fun q => ne_ac_ab (List.mem_singleton.mp q))
  have f11_5 := f10_1.keep K11q (fun q => ne_av_ab (List.mem_singleton.mp q))
  have f11_4 := A10.keep K11q
  have Z11 := Nat.le_trans Z10 K11q.1
  have KK11 := (K10).trans K11q (fun x hx => by simp only [List.mem_cons, List.not_mem_nil, or_false] at hx; rcases hx with rfl <;> first | exact Or.inl (List.mem_of_getElem? (i := 0) rfl) | exact Or.inl (List.mem_of_getElem? (i := 1) rfl) | exact Or.inr sz_ab )
  show OwnGoes p e below _ (T11.setTop (mkF m 48 #[.val (.ref o)] [(.ref ab), (.ref o)]))
  obtain ⟨T12, h12, X12, e12, W12, st12⟩ := putF X11 hx hZ hown (host := "") (Or.inl (hw _ (List.mem_of_getElem? (i := 41) rfl))) Via.refl rfl f11_9 f11_14 (Or.inr ⟨(hw _ (List.mem_of_getElem? (i := 42) rfl)), rfl, hnm⟩) (hw _ (List.mem_of_getElem? (i := 2) rfl)) (ty := (.object "java/util/BitSet")) (by decide) rfl rfl (g := (mkF m 48 #[.val (.ref o)] [(.ref ab), (.ref o)])) rfl rfl (hb hby d1_48)
  have f12_12 := f11_14.wr W12
  have f12_11 := f11_13.other W12 (Or.inr (slot_ne (Or.inl (hw _ (List.mem_of_getElem? (i := 12) rfl))) (Or.inr (hw _ (List.mem_of_getElem? (i := 42) rfl))) (by decide) (t := (.array .long)) (t' := (.object "java/util/BitSet")) (by decide) (by decide)))
  have f12_10 := f11_12.other W12 (Or.inr (slot_ne (Or.inl (hw _ (List.mem_of_getElem? (i := 15) rfl))) (Or.inr (hw _ (List.mem_of_getElem? (i := 42) rfl))) (by decide) (t := (.array .int)) (t' := (.object "java/util/BitSet")) (by decide) (by decide)))
  have f12_9 := f11_11.other W12 (Or.inr (slot_ne (Or.inl (hw _ (List.mem_of_getElem? (i := 17) rfl))) (Or.inr (hw _ (List.mem_of_getElem? (i := 42) rfl))) (by decide) (t := (.array .int)) (t' := (.object "java/util/BitSet")) (by decide) (by decide)))
  have f12_8 := f11_10.other W12 (Or.inr (slot_ne (Or.inl (hw _ (List.mem_of_getElem? (i := 19) rfl))) (Or.inr (hw _ (List.mem_of_getElem? (i := 42) rfl))) (by decide) (t := (.array .long)) (t' := (.object "java/util/BitSet")) (by decide) (by decide)))
  have f12_6 := f11_8.other W12 (Ne.symm ne_o_ap)
  have f12_5 := f11_7.other W12 (Ne.symm ne_o_al)
  have f12_4 := f11_6.other W12 (Ne.symm ne_o_ac)
  have f12_3 := f11_5.other W12 (Ne.symm ne_o_av)
  have f12_2 := E11q.wr W12
  have f12_1 := F11q.other W12 (Or.inl (Ne.symm ne_o_ab))
  have K12 := (KK11).wr W12 (Or.inl (List.mem_of_getElem? (i := 0) rfl))
  have Z12 := Nat.le_trans Z11 (Keep.of_wr W12).1
  have Fw12 := f11_9.same W12
  have N12 := Fr.snoc X12 N11 g_o
  refine own_pre st12 ?_
  show OwnGoes p e below _ (T12.setTop (mkF m 51 #[.val (.ref o)] []))
  exact own_retV X12 hx Bd.returns Bd.notSynchronized (hb hby d1_51) ⟨rfl, N12, by rw [e12]; exact K12, by rw [e12]; exact ⟨ap, al, ac, av, ab, List.replicate 1024 0, List.replicate 1024 0, List.replicate 1024 0, f12_12, f12_11, f12_10, f12_9, f12_8, Fw12, by rw [List.map_replicate]; exact f12_6, by rw [List.map_replicate]; exact f12_5, by rw [List.map_replicate]; exact f12_4, by rw [List.map_replicate]; exact f12_3, by simp, by simp, by simp, f12_2, f12_1, g_o, g_ap, g_al, g_ac, g_av, ne_o_ap, ne_o_al, ne_o_ac, ne_o_av, ne_o_ab, ne_ap_al, ne_ap_ac, ne_ap_av, ne_ap_ab, ne_al_ac, ne_al_av, ne_al_ab, ne_ac_av, ne_ac_ab, ne_av_ab⟩⟩ (by decide) (by decide)
def QCl (r : Int32) (h0 : Heap) (n0 : Nat) (v : Option Value) (h : Heap) (L : List Loc) : Prop := v = some (.int r) ∧ Fr n0 L ∧ h = h0
set_option maxRecDepth 65536 in
set_option maxHeartbeats 40000000 in
theorem rmCl (l : Launch) (Z : State) (a0 : Array Value) (hw : ∀ d ∈ tables_1, d.before a0 Z = true) (ws : List Jvm.Cond) (o : Addr) (q : Int64) (cs : List Int32) (r : Int32) (h0 : Heap) (n0 : Nat) (Z0 : n0 ≤ h0.size) (IX : OwnIdx Z n0 h0 o cs) (hl : cs.length < 2 ^ 31) (hr : r = own_cls cs q) :
    MetFree l (⟨"com/example/holdfast/holdfast/store/ObjectIndex", "classId", "(J)I"⟩ : MethodName) (head1 (Jvm.Cond.code (⟨"com/example/holdfast/holdfast/store/ObjectIndex", "classId", "(J)I"⟩ : MethodName) prog_119_method_9_code 3 (some .int) :: ws) ({ frames := 0, cells := 0, slots := 0, locals := 0 } : Room)) (fun a U => a = #[(.ref o), (.long q)] ∧ Z.Warmed39 U.vm ∧ U.heap = h0) (fun _ _ _ _ _ => True) (fun _ Uw_ ow_ Ue_ => ∃ vw_ Lw_, ow_ = .returned vw_ ∧ QCl r h0 n0 vw_ Ue_.heap Lw_ ∧ FrameEnd Uw_ ow_ Ue_ Lw_ ({ frames := 0, cells := 0, slots := 0, locals := 0 } : Room).cells ({ frames := 0, cells := 0, slots := 0, locals := 0 } : Room).slots) := by
  refine MetFree.of_bodySF (plainFor_of_name (by first | (simp [plainName, overriddenIn]; done) | decide +kernel)) hisR ?_
  intro p e s m args below meth c s₁ Bd hml0 hP hK
  obtain ⟨rfl, hZ, hh⟩ := hP
  have hx := Bd.exec
  have hby := Bd.bytes
  have hml : c.maxLocals = 3 := hml0
  have hown : s.vm.findClass "com/example/holdfast/holdfast/store/ObjectIndex" = some m.cls := findClass_of_methodNamed Bd.named
  have hnm := (name_of_methodNamed Bd.named Bd.method).1
  have X0 : Stand p l e ({ frames := 0, cells := 0, slots := 0, locals := 0 } : Room) s m #[(.ref o), (.long q)] below meth c s₁ [] 0 0 := Stand.of_body Bd
  have e0 : s₁.heap = h0 := by rw [← hh, Bd.state]; rfl
  have N0 := Fr.nil n0
  have ef : entryFrame m #[(.ref o), (.long q)] 3 = (mkF m 0 #[.val (.ref o), .val (.long q), .second] []) := by first | (simp [entryFrame, mkF, argsToLocals, Value.category]; done) | rfl
  show OwnGoes p e below (fun ow_ Ue_ => ∃ vw_ Lw_, ow_ = .returned vw_ ∧ QCl r h0 n0 vw_ Ue_.heap Lw_ ∧ FrameEnd s ow_ Ue_ Lw_ ({ frames := 0, cells := 0, slots := 0, locals := 0 } : Room).cells ({ frames := 0, cells := 0, slots := 0, locals := 0 } : Room).slots) (s₁.setTop (entryFrame m #[(.ref o), (.long q)] 3))
  refine own_pre (fun t k => castTop ef k) ?_
  obtain ⟨ap, al, ac, av, ab, vp, vl, vv, Eo, Fp, Fl, Fc, Fv, Fr_, Vp, Vl, Vc, Vv, lp, ll, lv, Eb, Fw, g_o, g_ap, g_al, g_ac, g_av, n1, n2, n3, n4, n5, n6, n7, n8, n9, n10, n11, n12, n13, n14, n15⟩ := IX
  show OwnGoes p e below _ (s₁.setTop (mkF m 0 #[.val (.ref o), .val (.long q), .second] []))
  refine own_pre (fun _ kz_ => XS.lloadN X0.here hx rfl (hb hby d6_0) rfl kz_) ?_
  show OwnGoes p e below _ (s₁.setTop (mkF m 1 #[.val (.ref o), .val (.long q), .second] [(.long q)]))
  refine own_pre (fun _ kz_ => XS.lconst X0.here hx rfl (hb hby d6_1) kz_) ?_
  show OwnGoes p e below _ (s₁.setTop (mkF m 2 #[.val (.ref o), .val (.long q), .second] [(.long (0 : Int64)), (.long q)]))
  refine own_pre (fun _ kz_ => XS.lcmp X0.here hx rfl (hb hby d6_2) rfl kz_) ?_
  show OwnGoes p e below _ (s₁.setTop (mkF m 3 #[.val (.ref o), .val (.long q), .second] [(.int (lcmpW q (0 : Int64)))]))
  by_cases h3 : (0 : Int64) < q
  · refine own_pre (fun _ kz_ => XS.ifNo X0.here hx rfl (hb hby d6_3) rfl ((if0 _ _).trans (tlt ((lw_gt q (0 : Int64)).mpr h3)).2.2.2) kz_) ?_
    show OwnGoes p e below _ (s₁.setTop (mkF m 6 #[.val (.ref o), .val (.long q), .second] []))
    refine own_pre (fun _ kz_ => XS.lloadN X0.here hx rfl (hb hby d6_6) rfl kz_) ?_
    show OwnGoes p e below _ (s₁.setTop (mkF m 7 #[.val (.ref o), .val (.long q), .second] [(.long q)]))
    refine own_pre (fun _ kz_ => XS.aloadN X0.here hx rfl (hb hby d6_7) rfl rfl kz_) ?_
    show OwnGoes p e below _ (s₁.setTop (mkF m 8 #[.val (.ref o), .val (.long q), .second] [(.ref o), (.long q)]))
    obtain ⟨T1, X1, e1, st1⟩ := getF X0 hx hZ hown (host := "") (Or.inl (hw _ (List.mem_of_getElem? (i := 16) rfl))) Via.refl e0 Fc (g := (mkF m 8 #[.val (.ref o), .val (.long q), .second] [(.ref o), (.long q)])) rfl rfl (hb hby d6_8)
    refine own_pre st1 ?_
    show OwnGoes p e below _ (T1.setTop (mkF m 11 #[.val (.ref o), .val (.long q), .second] [(.ref ac), (.long q)]))
    refine own_pre (own_alen X1 hx hZ e1 Vc (n := (Int32.ofNat cs.length)) (by rw [List.length_map]) (g := (mkF m 11 #[.val (.ref o), .val (.long q), .second] [(.ref ac), (.long q)])) rfl rfl (hb hby d6_11)) ?_
    show OwnGoes p e below _ (T1.setTop (mkF m 12 #[.val (.ref o), .val (.long q), .second] [(.int (Int32.ofNat cs.length)), (.long q)]))
    refine own_pre (fun _ kz_ => XS.i2l X1.here hx rfl (hb hby d6_12) rfl kz_) ?_
    show OwnGoes p e below _ (T1.setTop (mkF m 13 #[.val (.ref o), .val (.long q), .second] [(.long ((Int32.ofNat cs.length).toInt64)), (.long q)]))
    refine own_pre (fun _ kz_ => XS.lcmp X1.here hx rfl (hb hby d6_13) rfl kz_) ?_
    show OwnGoes p e below _ (T1.setTop (mkF m 14 #[.val (.ref o), .val (.long q), .second] [(.int (lcmpW q ((Int32.ofNat cs.length).toInt64)))]))
    by_cases h14 : q < ((Int32.ofNat cs.length).toInt64)
    · refine own_pre (fun _ kz_ => XS.ifNo X1.here hx rfl (hb hby d6_14) rfl ((if0 _ _).trans (tlt ((lw_lt q ((Int32.ofNat cs.length).toInt64)).mpr h14)).2.1) kz_) ?_
      show OwnGoes p e below _ (T1.setTop (mkF m 17 #[.val (.ref o), .val (.long q), .second] []))
      refine own_pre (fun _ kz_ => XS.aloadN X1.here hx rfl (hb hby d6_17) rfl rfl kz_) ?_
      show OwnGoes p e below _ (T1.setTop (mkF m 18 #[.val (.ref o), .val (.long q), .second] [(.ref o)]))
      obtain ⟨T2, X2, e2, st2⟩ := getF X1 hx hZ hown (host := "") (Or.inl (hw _ (List.mem_of_getElem? (i := 16) rfl))) Via.refl e1 Fc (g := (mkF m 18 #[.val (.ref o), .val (.long q), .second] [(.ref o)])) rfl rfl (hb hby d6_18)
      refine own_pre st2 ?_
      show OwnGoes p e below _ (T2.setTop (mkF m 21 #[.val (.ref o), .val (.long q), .second] [(.ref ac)]))
      refine own_pre (fun _ kz_ => XS.lloadN X2.here hx rfl (hb hby d6_21) rfl kz_) ?_
      show OwnGoes p e below _ (T2.setTop (mkF m 22 #[.val (.ref o), .val (.long q), .second] [(.long q), (.ref ac)]))
      refine own_pre (fun _ kz_ => XS.l2i X2.here hx rfl (hb hby d6_22) rfl kz_) ?_
      show OwnGoes p e below _ (T2.setTop (mkF m 23 #[.val (.ref o), .val (.long q), .second] [(.int (q.toInt32)), (.ref ac)]))
      refine own_pre (own_iald X2 hx hZ e2 Vc (j := (q.toInt32)) (v := (.int (cs.getD q.toInt.toNat 0))) (own_idx_at h3 h14 hl).1 (own_idx_at h3 h14 hl).2 (g := (mkF m 23 #[.val (.ref o), .val (.long q), .second] [(.int (q.toInt32)), (.ref ac)])) rfl rfl (hb hby d6_23)) ?_
      show OwnGoes p e below _ (T2.setTop (mkF m 24 #[.val (.ref o), .val (.long q), .second] [(.int (cs.getD q.toInt.toNat 0))]))
      refine own_pre (fun _ kz_ => XS.iconst X2.here hx rfl (hb hby d6_24) kz_) ?_
      show OwnGoes p e below _ (T2.setTop (mkF m 25 #[.val (.ref o), .val (.long q), .second] [(.int (1 : Int32)), (.int (cs.getD q.toInt.toNat 0))]))
      refine own_pre (fun _ kz_ => XS.isub X2.here hx rfl (hb hby d6_25) rfl kz_) ?_
      show OwnGoes p e below _ (T2.setTop (mkF m 26 #[.val (.ref o), .val (.long q), .second] [(.int ((cs.getD q.toInt.toNat 0) - (1 : Int32)))]))
      refine own_pre (fun _ kz_ => XS.goto X2.here hx rfl (pc0 := 26) (pc' := 30) rfl (hb hby d6_26) (by decide) (by decide) kz_) ?_
      show OwnGoes p e below _ (T2.setTop (mkF m 30 #[.val (.ref o), .val (.long q), .second] [(.int ((cs.getD q.toInt.toNat 0) - (1 : Int32)))]))
      exact own_ret X2 hx Bd.returns (rfl) (Or.inl ⟨rfl, by simp, _, rfl⟩) Bd.notSynchronized (hb hby d6_30) ⟨by rw [hr]; unfold own_cls; rw [if_pos h3], N0, e2⟩ (by decide) (by decide)
    · refine own_pre (fun _ kz_ => XS.ifYes X1.here hx rfl (pc0 := 14) (pc' := 29) rfl (hb hby d6_14) rfl ((if0 _ _).trans (flt (fun qz_ => h14 ((lw_lt q ((Int32.ofNat cs.length).toInt64)).mp qz_))).2.1) (by decide) (by decide) kz_) ?_
      show OwnGoes p e below _ (T1.setTop (mkF m 29 #[.val (.ref o), .val (.long q), .second] []))
      refine own_pre (fun _ kz_ => XS.iconst X1.here hx rfl (hb hby d6_29) kz_) ?_
      show OwnGoes p e below _ (T1.setTop (mkF m 30 #[.val (.ref o), .val (.long q), .second] [(.int (-1 : Int32))]))
      exact own_ret X1 hx Bd.returns (rfl) (Or.inl ⟨rfl, by simp, _, rfl⟩) Bd.notSynchronized (hb hby d6_30) ⟨by rw [hr]; first | exact congrArg (fun z => some (Value.int z)) (own_cls_out h3 h14 hl) | (unfold own_cls; rw [if_neg h3]), N0, e1⟩ (by decide) (by decide)
  · refine own_pre (fun _ kz_ => XS.ifYes X0.here hx rfl (pc0 := 3) (pc' := 29) rfl (hb hby d6_3) rfl ((if0 _ _).trans (flt (fun qz_ => h3 ((lw_gt q (0 : Int64)).mp qz_))).2.2.2) (by decide) (by decide) kz_) ?_
    show OwnGoes p e below _ (s₁.setTop (mkF m 29 #[.val (.ref o), .val (.long q), .second] []))
    refine own_pre (fun _ kz_ => XS.iconst X0.here hx rfl (hb hby d6_29) kz_) ?_
    show OwnGoes p e below _ (s₁.setTop (mkF m 30 #[.val (.ref o), .val (.long q), .second] [(.int (-1 : Int32))]))
    exact own_ret X0 hx Bd.returns (rfl) (Or.inl ⟨rfl, by simp, _, rfl⟩) Bd.notSynchronized (hb hby d6_30) ⟨by rw [hr]; first | exact congrArg (fun z => some (Value.int z)) (own_cls_out h3 h14 hl) | (unfold own_cls; rw [if_neg h3]), N0, e0⟩ (by decide) (by decide)
def QPut (Z : State) (o : Addr) (cs : List Int32) (A : Nat) (k : Int32) (h0 : Heap) (n0 : Nat) (v : Option Value) (h : Heap) (L : List Loc) : Prop := v = none ∧ Fr n0 L ∧ (∃ ws, Keep h0 h ws ∧ ∀ x ∈ ws, n0 ≤ x) ∧ ∃ cs', OwnIdx Z n0 h o cs' ∧ A < cs'.length ∧ cs.length ≤ cs'.length ∧ cs'.length ≤ 4096 ∧ ∀ i, cs'.getD i 0 = if i = A then k + 1 else cs.getD i 0
set_option maxRecDepth 65536 in
set_option maxHeartbeats 40000000 in
theorem rmPut (l : Launch) (Z : State) (a0 : Array Value) (hw : ∀ d ∈ tables_1, d.before a0 Z = true) (ws : List Jvm.Cond) (o : Addr) (q1 : Int64) (k : Int32) (cs : List Int32) (A : Nat) (h0 : Heap) (n0 : Nat) (Z0 : n0 ≤ h0.size) (IX : OwnIdx Z n0 h0 o cs) (hq : q1 = Int64.ofNat A) (hA1 : 1 ≤ A) (hA2 : A ≤ 2048) (hl1 : 1024 ≤ cs.length) (hl2 : cs.length ≤ 4096) (hk : ¬ k < (0 : Int32)) (TS : OwnS Z n0 h0 "java/util/BitSet" "$assertionsDisabled" "Z" (.int (1 : Int32))) :
    MetFree l (⟨"com/example/holdfast/holdfast/store/ObjectIndex", "put", "(JJIIJ)V"⟩ : MethodName) (head1 (Jvm.Cond.code (⟨"com/example/holdfast/holdfast/store/ObjectIndex", "put", "(JJIIJ)V"⟩ : MethodName) prog_119_method_2_code 11 none :: ws) ({ frames := 2, cells := 4, slots := 16384, locals := 55 } : Room)) (fun a U => a = #[(.ref o), (.long q1), (.long (0 : Int64)), (.int (0 : Int32)), (.int k), (.long (0 : Int64))] ∧ Z.Warmed39 U.vm ∧ U.heap = h0) (fun _ _ _ _ _ => True) (fun _ Uw_ ow_ Ue_ => ∃ vw_ Lw_, ow_ = .returned vw_ ∧ QPut Z o cs A k h0 n0 vw_ Ue_.heap Lw_ ∧ FrameEnd Uw_ ow_ Ue_ Lw_ ({ frames := 2, cells := 4, slots := 16384, locals := 55 } : Room).cells ({ frames := 2, cells := 4, slots := 16384, locals := 55 } : Room).slots) := by
  refine MetFree.of_bodySF (plainFor_of_name (by first | (simp [plainName, overriddenIn]; done) | decide +kernel)) hisR ?_
  intro p e s m args below meth c s₁ Bd hml0 hP hK
  obtain ⟨rfl, hZ, hh⟩ := hP
  have hx := Bd.exec
  have hby := Bd.bytes
  have hml : c.maxLocals = 11 := hml0
  have hown : s.vm.findClass "com/example/holdfast/holdfast/store/ObjectIndex" = some m.cls := findClass_of_methodNamed Bd.named
  have hnm := (name_of_methodNamed Bd.named Bd.method).1
  have X0 : Stand p l e ({ frames := 2, cells := 4, slots := 16384, locals := 55 } : Room) s m #[(.ref o), (.long q1), (.long (0 : Int64)), (.int (0 : Int32)), (.int k), (.long (0 : Int64))] below meth c s₁ [] 0 0 := Stand.of_body Bd
  have e0 : s₁.heap = h0 := by rw [← hh, Bd.state]; rfl
  have N0 := Fr.nil n0
  have ef : entryFrame m #[(.ref o), (.long q1), (.long (0 : Int64)), (.int (0 : Int32)), (.int k), (.long (0 : Int64))] 11 = (mkF m 0 #[.val (.ref o), .val (.long q1), .second, .val (.long (0 : Int64)), .second, .val (.int (0 : Int32)), .val (.int k), .val (.long (0 : Int64)), .second, .unset, .unset] []) := by first | (simp [entryFrame, mkF, argsToLocals, Value.category]; done) | rfl
  show OwnGoes p e below (fun ow_ Ue_ => ∃ vw_ Lw_, ow_ = .returned vw_ ∧ QPut Z o cs A k h0 n0 vw_ Ue_.heap Lw_ ∧ FrameEnd s ow_ Ue_ Lw_ ({ frames := 2, cells := 4, slots := 16384, locals := 55 } : Room).cells ({ frames := 2, cells := 4, slots := 16384, locals := 55 } : Room).slots) (s₁.setTop (entryFrame m #[(.ref o), (.long q1), (.long (0 : Int64)), (.int (0 : Int32)), (.int k), (.long (0 : Int64))] 11))
  refine own_pre (fun t k => castTop ef k) ?_
  obtain ⟨ap, al, ac, av, ab, vp, vl, vv, Eo, Fp, Fl, Fc, Fv, Fr_, Vp, Vl, Vc, Vv, lp, ll, lv, Eb, Fw, g_o, g_ap, g_al, g_ac, g_av, n1, n2, n3, n4, n5, n6, n7, n8, n9, n10, n11, n12, n13, n14, n15⟩ := IX
  have hat : q1.toInt32 = Int32.ofNat A := by rw [hq]; exact own_l2i (by omega)
  have hat0 : ¬ Int32.ofNat A < 0 := Int32.ofNat_not_neg (by omega)
  show OwnGoes p e below _ (s₁.setTop (mkF m 0 #[.val (.ref o), .val (.long q1), .second, .val (.long (0 : Int64)), .second, .val (.int (0 : Int32)), .val (.int k), .val (.long (0 : Int64)), .second, .unset, .unset] []))
  refine own_pre (fun _ kz_ => XS.lloadN X0.here hx rfl (hb hby d7_0) rfl kz_) ?_
  show OwnGoes p e below _ (s₁.setTop (mkF m 1 #[.val (.ref o), .val (.long q1), .second, .val (.long (0 : Int64)), .second, .val (.int (0 : Int32)), .val (.int k), .val (.long (0 : Int64)), .second, .unset, .unset] [(.long q1)]))
  refine own_pre (fun _ kz_ => XS.l2i X0.here hx rfl (hb hby d7_1) rfl kz_) ?_
  show OwnGoes p e below _ (s₁.setTop (mkF m 2 #[.val (.ref o), .val (.long q1), .second, .val (.long (0 : Int64)), .second, .val (.int (0 : Int32)), .val (.int k), .val (.long (0 : Int64)), .second, .unset, .unset] [(.int (q1.toInt32))]))
  rw [hat]
  show OwnGoes p e below _ (s₁.setTop (mkF m 2 #[.val (.ref o), .val (.long q1), .second, .val (.long (0 : Int64)), .second, .val (.int (0 : Int32)), .val (.int k), .val (.long (0 : Int64)), .second, .unset, .unset] [(.int (Int32.ofNat A))]))
  refine own_pre (fun _ kz_ => XS.istore X0.here hx rfl (hb hby d7_2) rfl (l' := #[.val (.ref o), .val (.long q1), .second, .val (.long (0 : Int64)), .second, .val (.int (0 : Int32)), .val (.int k), .val (.long (0 : Int64)), .second, .val (.int (Int32.ofNat A)), .unset]) rfl kz_) ?_
  show OwnGoes p e below _ (s₁.setTop (mkF m 4 #[.val (.ref o), .val (.long q1), .second, .val (.long (0 : Int64)), .second, .val (.int (0 : Int32)), .val (.int k), .val (.long (0 : Int64)), .second, .val (.int (Int32.ofNat A)), .unset] []))
  refine own_pre (fun _ kz_ => XS.iload X0.here hx rfl (hb hby d7_4) rfl kz_) ?_
  show OwnGoes p e below _ (s₁.setTop (mkF m 6 #[.val (.ref o), .val (.long q1), .second, .val (.long (0 : Int64)), .second, .val (.int (0 : Int32)), .val (.int k), .val (.long (0 : Int64)), .second, .val (.int (Int32.ofNat A)), .unset] [(.int (Int32.ofNat A))]))
  refine own_pre (fun _ kz_ => XS.aloadN X0.here hx rfl (hb hby d7_6) rfl rfl kz_) ?_
  show OwnGoes p e below _ (s₁.setTop (mkF m 7 #[.val (.ref o), .val (.long q1), .second, .val (.long (0 : Int64)), .second, .val (.int (0 : Int32)), .val (.int k), .val (.long (0 : Int64)), .second, .val (.int (Int32.ofNat A)), .unset] [(.ref o), (.int (Int32.ofNat A))]))
  obtain ⟨T1, X1, e1, st1⟩ := getF X0 hx hZ hown (host := "") (Or.inl (hw _ (List.mem_of_getElem? (i := 11) rfl))) Via.refl e0 Fp (g := (mkF m 7 #[.val (.ref o), .val (.long q1), .second, .val (.long (0 : Int64)), .second, .val (.int (0 : Int32)), .val (.int k), .val (.long (0 : Int64)), .second, .val (.int (Int32.ofNat A)), .unset] [(.ref o), (.int (Int32.ofNat A))])) rfl rfl (hb hby d7_7)
  refine own_pre st1 ?_
  show OwnGoes p e below _ (T1.setTop (mkF m 10 #[.val (.ref o), .val (.long q1), .second, .val (.long (0 : Int64)), .second, .val (.int (0 : Int32)), .val (.int k), .val (.long (0 : Int64)), .second, .val (.int (Int32.ofNat A)), .unset] [(.ref ap), (.int (Int32.ofNat A))]))
  refine own_pre (own_alen X1 hx hZ e1 Vp (n := (Int32.ofNat cs.length)) (by rw [List.length_map, lp]) (g := (mkF m 10 #[.val (.ref o), .val (.long q1), .second, .val (.long (0 : Int64)), .second, .val (.int (0 : Int32)), .val (.int k), .val (.long (0 : Int64)), .second, .val (.int (Int32.ofNat A)), .unset] [(.ref ap), (.int (Int32.ofNat A))])) rfl rfl (hb hby d7_10)) ?_
  show OwnGoes p e below _ (T1.setTop (mkF m 11 #[.val (.ref o), .val (.long q1), .second, .val (.long (0 : Int64)), .second, .val (.int (0 : Int32)), .val (.int k), .val (.long (0 : Int64)), .second, .val (.int (Int32.ofNat A)), .unset] [(.int (Int32.ofNat cs.length)), (.int (Int32.ofNat A))]))
  by_cases h11 : (Int32.ofNat A) < (Int32.ofNat cs.length)
  · refine own_pre (fun _ kz_ => XS.icmpYes X1.here hx rfl (pc0 := 11) (pc' := 91) rfl (hb hby d7_11) rfl (tlt h11).1 (by decide) (by decide) kz_) ?_
    have hlen : A < cs.length := by have q := h11; rw [Int32.ofNat_lt_ofNat (by omega) (by omega)] at q; exact q
    show OwnGoes p e below _ (T1.setTop (mkF m 91 #[.val (.ref o), .val (.long q1), .second, .val (.long (0 : Int64)), .second, .val (.int (0 : Int32)), .val (.int k), .val (.long (0 : Int64)), .second, .val (.int (Int32.ofNat A)), .unset] []))
    refine own_pre (fun _ kz_ => XS.aloadN X1.here hx rfl (hb hby d7_91) rfl rfl kz_) ?_
    show OwnGoes p e below _ (T1.setTop (mkF m 92 #[.val (.ref o), .val (.long q1), .second, .val (.long (0 : Int64)), .second, .val (.int (0 : Int32)), .val (.int k), .val (.long (0 : Int64)), .second, .val (.int (Int32.ofNat A)), .unset] [(.ref o)]))
    obtain ⟨T2, X2, e2, st2⟩ := getF X1 hx hZ hown (host := "") (Or.inl (hw _ (List.mem_of_getElem? (i := 11) rfl))) Via.refl e1 Fp (g := (mkF m 92 #[.val (.ref o), .val (.long q1), .second, .val (.long (0 : Int64)), .second, .val (.int (0 : Int32)), .val (.int k), .val (.long (0 : Int64)), .second, .val (.int (Int32.ofNat A)), .unset] [(.ref o)])) rfl rfl (hb hby d7_92)
    refine own_pre st2 ?_
    show OwnGoes p e below _ (T2.setTop (mkF m 95 #[.val (.ref o), .val (.long q1), .second, .val (.long (0 : Int64)), .second, .val (.int (0 : Int32)), .val (.int k), .val (.long (0 : Int64)), .second, .val (.int (Int32.ofNat A)), .unset] [(.ref ap)]))
    refine own_pre (fun _ kz_ => XS.iload X2.here hx rfl (hb hby d7_95) rfl kz_) ?_
    show OwnGoes p e below _ (T2.setTop (mkF m 97 #[.val (.ref o), .val (.long q1), .second, .val (.long (0 : Int64)), .second, .val (.int (0 : Int32)), .val (.int k), .val (.long (0 : Int64)), .second, .val (.int (Int32.ofNat A)), .unset] [(.int (Int32.ofNat A)), (.ref ap)]))
    refine own_pre (fun _ kz_ => XS.lloadN X2.here hx rfl (hb hby d7_97) rfl kz_) ?_
    show OwnGoes p e below _ (T2.setTop (mkF m 98 #[.val (.ref o), .val (.long q1), .second, .val (.long (0 : Int64)), .second, .val (.int (0 : Int32)), .val (.int k), .val (.long (0 : Int64)), .second, .val (.int (Int32.ofNat A)), .unset] [(.long (0 : Int64)), (.int (Int32.ofNat A)), (.ref ap)]))
    obtain ⟨T3, h3, X3, e3, W3, V3, st3⟩ := own_jst X2 hx hZ e2 Vp (j := (Int32.ofNat A)) hat0 (by rw [XT.n32 (by omega), List.length_map]; first | omega | (simp only [List.length_append, List.length_replicate]; omega)) (g := (mkF m 98 #[.val (.ref o), .val (.long q1), .second, .val (.long (0 : Int64)), .second, .val (.int (0 : Int32)), .val (.int k), .val (.long (0 : Int64)), .second, .val (.int (Int32.ofNat A)), .unset] [(.long (0 : Int64)), (.int (Int32.ofNat A)), (.ref ap)])) rfl rfl (hb hby d7_98)
    have f3_13 := Eo.wr W3
    have f3_12 := Fp.other W3 (Or.inl n1)
    have f3_11 := Fl.other W3 (Or.inl n1)
    have f3_10 := Fc.other W3 (Or.inl n1)
    have f3_9 := Fv.other W3 (Or.inl n1)
    have f3_8 := Fr_.other W3 (Or.inl n1)
    have f3_6 := Vl.other W3 (Ne.symm n6)
    have f3_5 := Vc.other W3 (Ne.symm n7)
    have f3_4 := Vv.other W3 (Ne.symm n8)
    have f3_3 := Eb.wr W3
    have f3_2 := Fw.other W3 (Or.inl (Ne.symm n9))
    have f3_1 := TS.wr W3
    have K3 := ((Keep.refl h0 [o, ap, al, ac, av])).wr W3 (Or.inl (List.mem_of_getElem? (i := 1) rfl))
    have Z3 := Nat.le_trans Z0 (Keep.of_wr W3).1
    have N3 := Fr.snoc X3 N0 g_ap
    refine own_pre st3 ?_
    show OwnGoes p e below _ (T3.setTop (mkF m 99 #[.val (.ref o), .val (.long q1), .second, .val (.long (0 : Int64)), .second, .val (.int (0 : Int32)), .val (.int k), .val (.long (0 : Int64)), .second, .val (.int (Int32.ofNat A)), .unset] []))
    refine own_pre (fun _ kz_ => XS.aloadN X3.here hx rfl (hb hby d7_99) rfl rfl kz_) ?_
    show OwnGoes p e below _ (T3.setTop (mkF m 100 #[.val (.ref o), .val (.long q1), .second, .val (.long (0 : Int64)), .second, .val (.int (0 : Int32)), .val (.int k), .val (.long (0 : Int64)), .second, .val (.int (Int32.ofNat A)), .unset] [(.ref o)]))
    obtain ⟨T4, X4, e4, st4⟩ := getF X3 hx hZ hown (host := "") (Or.inl (hw _ (List.mem_of_getElem? (i := 14) rfl))) Via.refl e3 f3_11 (g := (mkF m 100 #[.val (.ref o), .val (.long q1), .second, .val (.long (0 : Int64)), .second, .val (.int (0 : Int32)), .val (.int k), .val (.long (0 : Int64)), .second, .val (.int (Int32.ofNat A)), .unset] [(.ref o)])) rfl rfl (hb hby d7_100)
    refine own_pre st4 ?_
    show OwnGoes p e below _ (T4.setTop (mkF m 103 #[.val (.ref o), .val (.long q1), .second, .val (.long (0 : Int64)), .second, .val (.int (0 : Int32)), .val (.int k), .val (.long (0 : Int64)), .second, .val (.int (Int32.ofNat A)), .unset] [(.ref al)]))
    refine own_pre (fun _ kz_ => XS.iload X4.here hx rfl (hb hby d7_103) rfl kz_) ?_
    show OwnGoes p e below _ (T4.setTop (mkF m 105 #[.val (.ref o), .val (.long q1), .second, .val (.long (0 : Int64)), .second, .val (.int (0 : Int32)), .val (.int k), .val (.long (0 : Int64)), .second, .val (.int (Int32.ofNat A)), .unset] [(.int (Int32.ofNat A)), (.ref al)]))
    refine own_pre (fun _ kz_ => XS.iload X4.here hx rfl (hb hby d7_105) rfl kz_) ?_
    show OwnGoes p e below _ (T4.setTop (mkF m 107 #[.val (.ref o), .val (.long q1), .second, .val (.long (0 : Int64)), .second, .val (.int (0 : Int32)), .val (.int k), .val (.long (0 : Int64)), .second, .val (.int (Int32.ofNat A)), .unset] [(.int (0 : Int32)), (.int (Int32.ofNat A)), (.ref al)]))
    obtain ⟨T5, h5, X5, e5, W5, V5, st5⟩ := own_ist X4 hx hZ e4 f3_6 (j := (Int32.ofNat A)) hat0 (by rw [XT.n32 (by omega), List.length_map]; first | omega | (simp only [List.length_append, List.length_replicate]; omega)) (g := (mkF m 107 #[.val (.ref o), .val (.long q1), .second, .val (.long (0 : Int64)), .second, .val (.int (0 : Int32)), .val (.int k), .val (.long (0 : Int64)), .second, .val (.int (Int32.ofNat A)), .unset] [(.int (0 : Int32)), (.int (Int32.ofNat A)), (.ref al)])) rfl rfl (hb hby d7_107)
    have f5_13 := f3_13.wr W5
    have f5_12 := f3_12.other W5 (Or.inl n2)
    have f5_11 := f3_11.other W5 (Or.inl n2)
    have f5_10 := f3_10.other W5 (Or.inl n2)
    have f5_9 := f3_9.other W5 (Or.inl n2)
    have f5_8 := f3_8.other W5 (Or.inl n2)
    have f5_7 := V3.other W5 n6
    have f5_5 := f3_5.other W5 (Ne.symm n10)
    have f5_4 := f3_4.other W5 (Ne.symm n11)
    have f5_3 := f3_3.wr W5
    have f5_2 := f3_2.other W5 (Or.inl (Ne.symm n12))
    have f5_1 := f3_1.wr W5
    have K5 := (K3).wr W5 (Or.inl (List.mem_of_getElem? (i := 2) rfl))
    have Z5 := Nat.le_trans Z3 (Keep.of_wr W5).1
    have N5 := Fr.snoc X5 N3 g_al
    refine own_pre st5 ?_
    show OwnGoes p e below _ (T5.setTop (mkF m 108 #[.val (.ref o), .val (.long q1), .second, .val (.long (0 : Int64)), .second, .val (.int (0 : Int32)), .val (.int k), .val (.long (0 : Int64)), .second, .val (.int (Int32.ofNat A)), .unset] []))
    refine own_pre (fun _ kz_ => XS.aloadN X5.here hx rfl (hb hby d7_108) rfl rfl kz_) ?_
    show OwnGoes p e below _ (T5.setTop (mkF m 109 #[.val (.ref o), .val (.long q1), .second, .val (.long (0 : Int64)), .second, .val (.int (0 : Int32)), .val (.int k), .val (.long (0 : Int64)), .second, .val (.int (Int32.ofNat A)), .unset] [(.ref o)]))
    obtain ⟨T6, X6, e6, st6⟩ := getF X5 hx hZ hown (host := "") (Or.inl (hw _ (List.mem_of_getElem? (i := 16) rfl))) Via.refl e5 f5_10 (g := (mkF m 109 #[.val (.ref o), .val (.long q1), .second, .val (.long (0 : Int64)), .second, .val (.int (0 : Int32)), .val (.int k), .val (.long (0 : Int64)), .second, .val (.int (Int32.ofNat A)), .unset] [(.ref o)])) rfl rfl (hb hby d7_109)
    refine own_pre st6 ?_
    show OwnGoes p e below _ (T6.setTop (mkF m 112 #[.val (.ref o), .val (.long q1), .second, .val (.long (0 : Int64)), .second, .val (.int (0 : Int32)), .val (.int k), .val (.long (0 : Int64)), .second, .val (.int (Int32.ofNat A)), .unset] [(.ref ac)]))
    refine own_pre (fun _ kz_ => XS.iload X6.here hx rfl (hb hby d7_112) rfl kz_) ?_
    show OwnGoes p e below _ (T6.setTop (mkF m 114 #[.val (.ref o), .val (.long q1), .second, .val (.long (0 : Int64)), .second, .val (.int (0 : Int32)), .val (.int k), .val (.long (0 : Int64)), .second, .val (.int (Int32.ofNat A)), .unset] [(.int (Int32.ofNat A)), (.ref ac)]))
    refine own_pre (fun _ kz_ => XS.iload X6.here hx rfl (hb hby d7_114) rfl kz_) ?_
    show OwnGoes p e below _ (T6.setTop (mkF m 116 #[.val (.ref o), .val (.long q1), .second, .val (.long (0 : Int64)), .second, .val (.int (0 : Int32)), .val (.int k), .val (.long (0 : Int64)), .second, .val (.int (Int32.ofNat A)), .unset] [(.int k), (.int (Int32.ofNat A)), (.ref ac)]))
    refine own_pre (fun _ kz_ => XS.iconst X6.here hx rfl (hb hby d7_116) kz_) ?_
    show OwnGoes p e below _ (T6.setTop (mkF m 117 #[.val (.ref o), .val (.long q1), .second, .val (.long (0 : Int64)), .second, .val (.int (0 : Int32)), .val (.int k), .val (.long (0 : Int64)), .second, .val (.int (Int32.ofNat A)), .unset] [(.int (1 : Int32)), (.int k), (.int (Int32.ofNat A)), (.ref ac)]))
    refine own_pre (fun _ kz_ => XS.iadd X6.here hx rfl (hb hby d7_117) rfl kz_) ?_
    show OwnGoes p e below _ (T6.setTop (mkF m 118 #[.val (.ref o), .val (.long q1), .second, .val (.long (0 : Int64)), .second, .val (.int (0 : Int32)), .val (.int k), .val (.long (0 : Int64)), .second, .val (.int (Int32.ofNat A)), .unset] [(.int (k + (1 : Int32))), (.int (Int32.ofNat A)), (.ref ac)]))
    obtain ⟨T7, h7, X7, e7, W7, V7, st7⟩ := own_ist X6 hx hZ e6 f5_5 (j := (Int32.ofNat A)) hat0 (by rw [XT.n32 (by omega), List.length_map]; first | omega | (simp only [List.length_append, List.length_replicate]; omega)) (g := (mkF m 118 #[.val (.ref o), .val (.long q1), .second, .val (.long (0 : Int64)), .second, .val (.int (0 : Int32)), .val (.int k), .val (.long (0 : Int64)), .second, .val (.int (Int32.ofNat A)), .unset] [(.int (k + (1 : Int32))), (.int (Int32.ofNat A)), (.ref ac)])) rfl rfl (hb hby d7_118)
    have f7_13 := f5_13.wr W7
    have f7_12 := f5_12.other W7 (Or.inl n3)
    have f7_11 := f5_11.other W7 (Or.inl n3)
    have f7_10 := f5_10.other W7 (Or.inl n3)
    have f7_9 := f5_9.other W7 (Or.inl n3)
    have f7_8 := f5_8.other W7 (Or.inl n3)
    have f7_7 := f5_7.other W7 n7
    have f7_6 := V5.other W7 n10
    have f7_4 := f5_4.other W7 (Ne.symm n13)
    have f7_3 := f5_3.wr W7
    have f7_2 := f5_2.other W7 (Or.inl (Ne.symm n14))
    have f7_1 := f5_1.wr W7
    have K7 := (K5).wr W7 (Or.inl (List.mem_of_getElem? (i := 3) rfl))
    have Z7 := Nat.le_trans Z5 (Keep.of_wr W7).1
    have N7 := Fr.snoc X7 N5 g_ac
    refine own_pre st7 ?_
    show OwnGoes p e below _ (T7.setTop (mkF m 119 #[.val (.ref o), .val (.long q1), .second, .val (.long (0 : Int64)), .second, .val (.int (0 : Int32)), .val (.int k), .val (.long (0 : Int64)), .second, .val (.int (Int32.ofNat A)), .unset] []))
    refine own_pre (fun _ kz_ => XS.aloadN X7.here hx rfl (hb hby d7_119) rfl rfl kz_) ?_
    show OwnGoes p e below _ (T7.setTop (mkF m 120 #[.val (.ref o), .val (.long q1), .second, .val (.long (0 : Int64)), .second, .val (.int (0 : Int32)), .val (.int k), .val (.long (0 : Int64)), .second, .val (.int (Int32.ofNat A)), .unset] [(.ref o)]))
    obtain ⟨T8, X8, e8, st8⟩ := getF X7 hx hZ hown (host := "") (Or.inl (hw _ (List.mem_of_getElem? (i := 18) rfl))) Via.refl e7 f7_9 (g := (mkF m 120 #[.val (.ref o), .val (.long q1), .second, .val (.long (0 : Int64)), .second, .val (.int (0 : Int32)), .val (.int k), .val (.long (0 : Int64)), .second, .val (.int (Int32.ofNat A)), .unset] [(.ref o)])) rfl rfl (hb hby d7_120)
    refine own_pre st8 ?_
    show OwnGoes p e below _ (T8.setTop (mkF m 123 #[.val (.ref o), .val (.long q1), .second, .val (.long (0 : Int64)), .second, .val (.int (0 : Int32)), .val (.int k), .val (.long (0 : Int64)), .second, .val (.int (Int32.ofNat A)), .unset] [(.ref av)]))
    refine own_pre (fun _ kz_ => XS.iload X8.here hx rfl (hb hby d7_123) rfl kz_) ?_
    show OwnGoes p e below _ (T8.setTop (mkF m 125 #[.val (.ref o), .val (.long q1), .second, .val (.long (0 : Int64)), .second, .val (.int (0 : Int32)), .val (.int k), .val (.long (0 : Int64)), .second, .val (.int (Int32.ofNat A)), .unset] [(.int (Int32.ofNat A)), (.ref av)]))
    refine own_pre (fun _ kz_ => XS.aloadN X8.here hx rfl (hb hby d7_125) rfl rfl kz_) ?_
    show OwnGoes p e below _ (T8.setTop (mkF m 126 #[.val (.ref o), .val (.long q1), .second, .val (.long (0 : Int64)), .second, .val (.int (0 : Int32)), .val (.int k), .val (.long (0 : Int64)), .second, .val (.int (Int32.ofNat A)), .unset] [(.ref o), (.int (Int32.ofNat A)), (.ref av)]))
    obtain ⟨T9, X9, e9, st9⟩ := getF X8 hx hZ hown (host := "") (Or.inl (hw _ (List.mem_of_getElem? (i := 41) rfl))) Via.refl e8 f7_8 (g := (mkF m 126 #[.val (.ref o), .val (.long q1), .second, .val (.long (0 : Int64)), .second, .val (.int (0 : Int32)), .val (.int k), .val (.long (0 : Int64)), .second, .val (.int (Int32.ofNat A)), .unset] [(.ref o), (.int (Int32.ofNat A)), (.ref av)])) rfl rfl (hb hby d7_126)
    refine own_pre st9 ?_
    show OwnGoes p e below _ (T9.setTop (mkF m 129 #[.val (.ref o), .val (.long q1), .second, .val (.long (0 : Int64)), .second, .val (.int (0 : Int32)), .val (.int k), .val (.long (0 : Int64)), .second, .val (.int (Int32.ofNat A)), .unset] [(.ref ab), (.int (Int32.ofNat A)), (.ref av)]))
    refine own_pre (fun _ kz_ => XS.iload X9.here hx rfl (hb hby d7_129) rfl kz_) ?_
    show OwnGoes p e below _ (T9.setTop (mkF m 131 #[.val (.ref o), .val (.long q1), .second, .val (.long (0 : Int64)), .second, .val (.int (0 : Int32)), .val (.int k), .val (.long (0 : Int64)), .second, .val (.int (Int32.ofNat A)), .unset] [(.int k), (.ref ab), (.int (Int32.ofNat A)), (.ref av)]))
    obtain ⟨cq10, kq10, q10a, q10b, q10c⟩ := isOf hZ e9 f7_3
    obtain ⟨_, _, ⟨T10, L10, k10, n10⟩, -, X10, ⟨Lc10, hQ10, l10, y10, z10⟩, st10⟩ := X9.virtualBack hx (y := (⟨"java/util/BitSet", "get", "(I)Z"⟩ : MethodName)) (z := (⟨"java/util/BitSet", "get", "(I)Z"⟩ : MethodName)) hown (mvT hZ (hw _ (List.mem_of_getElem? (i := 53) rfl))) (mvT hZ (hw _ (List.mem_of_getElem? (i := 54) rfl))) (notFace_of_selects (args := #[]) (mvT hZ (hw _ (List.mem_of_getElem? (i := 56) rfl)))) (mvT hZ (hw _ (List.mem_of_getElem? (i := 56) rfl))) (mvT hZ (hw _ (List.mem_of_getElem? (i := 55) rfl))) (by decide) (backOf (W := 2) (rmGet l Z a0 hw [] ab k h7 n0 Z7 f7_1 f7_3 f7_2 hk) hZ (hw _ (List.mem_of_getElem? (i := 57) rfl)) (hw _ (List.mem_of_getElem? (i := 22) rfl)) (by decide) (by decide)) q10a q10c (g := (mkF m 131 #[.val (.ref o), .val (.long q1), .second, .val (.long (0 : Int64)), .second, .val (.int (0 : Int32)), .val (.int k), .val (.long (0 : Int64)), .second, .val (.int (Int32.ofNat A)), .unset] [(.int k), (.ref ab), (.int (Int32.ofNat A)), (.ref av)])) rfl (by rw [hml]; rfl) (Steps.refl _) (argsL := [(.int k)]) (rest := [(.int (Int32.ofNat A)), (.ref av)]) (lenOf (d := "(I)Z") (ps := [.int]) (r := some .boolean) (by decide +kernel) rfl) rfl (by show 2 * 0 + _ ≤ _; exact Nat.le_of_eq rfl) (hb hby d7_131) (fun _ _ => ⟨rfl, e9, (by decide : 0 + 0 ≤ _), (by decide : 0 + 0 ≤ _)⟩)
    dsimp only [Pt.U, Pt.locs, Pt.cells, Pt.slots] at X10 l10 y10 z10 st10 hQ10
    subst l10 y10 z10
    obtain ⟨rfl, N10q, e10⟩ := hQ10
    have N10 := Fr.app N7 N10q
    refine own_tr st10 ?_
    show OwnGoes p e below _ (T10.setTop (mkF m 134 #[.val (.ref o), .val (.long q1), .second, .val (.long (0 : Int64)), .second, .val (.int (0 : Int32)), .val (.int k), .val (.long (0 : Int64)), .second, .val (.int (Int32.ofNat A)), .unset] [(.int (0 : Int32)), (.int (Int32.ofNat A)), (.ref av)]))
    refine own_pre (fun _ kz_ => XS.ifYes X10.here hx rfl (pc0 := 134) (pc' := 146) rfl (hb hby d7_134) rfl ((if0 _ _).trans (teq (by decide : (0 : Int32) = (0 : Int32))).1) (by decide) (by decide) kz_) ?_
    show OwnGoes p e below _ (T10.setTop (mkF m 146 #[.val (.ref o), .val (.long q1), .second, .val (.long (0 : Int64)), .second, .val (.int (0 : Int32)), .val (.int k), .val (.long (0 : Int64)), .second, .val (.int (Int32.ofNat A)), .unset] [(.int (Int32.ofNat A)), (.ref av)]))
    refine own_pre (fun _ kz_ => XS.lload X10.here hx rfl (hb hby d7_146) rfl kz_) ?_
    show OwnGoes p e below _ (T10.setTop (mkF m 148 #[.val (.ref o), .val (.long q1), .second, .val (.long (0 : Int64)), .second, .val (.int (0 : Int32)), .val (.int k), .val (.long (0 : Int64)), .second, .val (.int (Int32.ofNat A)), .unset] [(.long (0 : Int64)), (.int (Int32.ofNat A)), (.ref av)]))
    obtain ⟨T11, h11, X11, e11, W11, V11, st11⟩ := own_jst X10 hx hZ e10 f7_4 (j := (Int32.ofNat A)) hat0 (by rw [XT.n32 (by omega), List.length_map]; first | omega | (simp only [List.length_append, List.length_replicate]; omega)) (g := (mkF m 148 #[.val (.ref o), .val (.long q1), .second, .val (.long (0 : Int64)), .second, .val (.int (0 : Int32)), .val (.int k), .val (.long (0 : Int64)), .second, .val (.int (Int32.ofNat A)), .unset] [(.long (0 : Int64)), (.int (Int32.ofNat A)), (.ref av)])) rfl rfl (hb hby d7_148)
    have f11_13 := f7_13.wr W11
    have f11_12 := f7_12.other W11 (Or.inl n4)
    have f11_11 := f7_11.other W11 (Or.inl n4)
    have f11_10 := f7_10.other W11 (Or.inl n4)
    have f11_9 := f7_9.other W11 (Or.inl n4)
    have f11_8 := f7_8.other W11 (Or.inl n4)
    have f11_7 := f7_7.other W11 n8
    have f11_6 := f7_6.other W11 n11
    have f11_5 := V7.other W11 n13
    have f11_3 := f7_3.wr W11
    have f11_2 := f7_2.other W11 (Or.inl (Ne.symm n15))
    have f11_1 := f7_1.wr W11
    have K11 := (K7).wr W11 (Or.inl (List.mem_of_getElem? (i := 4) rfl))
    have Z11 := Nat.le_trans Z7 (Keep.of_wr W11).1
    have N11 := Fr.snoc X11 N10 g_av
    refine own_pre st11 ?_
    show OwnGoes p e below _ (T11.setTop (mkF m 149 #[.val (.ref o), .val (.long q1), .second, .val (.long (0 : Int64)), .second, .val (.int (0 : Int32)), .val (.int k), .val (.long (0 : Int64)), .second, .val (.int (Int32.ofNat A)), .unset] []))
    exact own_retV X11 hx Bd.returns Bd.notSynchronized (hb hby d7_149) ⟨rfl, N11, ⟨[o, ap, al, ac, av], by rw [e11]; exact K11, fun x hx => by simp only [List.mem_cons, List.not_mem_nil, or_false] at hx; rcases hx with rfl | rfl | rfl | rfl | rfl <;> assumption⟩, (cs ++ List.replicate 0 0).set A (k + 1), by rw [e11]; exact ⟨ap, al, ac, av, ab, (vp ++ List.replicate 0 0).set A 0, (vl ++ List.replicate 0 0).set A 0, (vv ++ List.replicate 0 0).set A 0, f11_13, f11_12, f11_11, f11_10, f11_9, f11_8, (by have q := own_setJ f11_7; rw [XT.n32 (by omega)] at q; rw [List.replicate_zero, List.append_nil]; exact q), (by have q := own_setI f11_6; rw [XT.n32 (by omega)] at q; rw [List.replicate_zero, List.append_nil]; exact q), (by have q := own_setI f11_5; rw [XT.n32 (by omega)] at q; rw [List.replicate_zero, List.append_nil]; exact q), (by have q := own_setJ V11; rw [XT.n32 (by omega)] at q; rw [List.replicate_zero, List.append_nil]; exact q), (by simp only [List.length_set, List.length_append, List.length_replicate]; omega), (by simp only [List.length_set, List.length_append, List.length_replicate]; omega), (by simp only [List.length_set, List.length_append, List.length_replicate]; omega), f11_3, f11_2, g_o, g_ap, g_al, g_ac, g_av, n1, n2, n3, n4, n5, n6, n7, n8, n9, n10, n11, n12, n13, n14, n15⟩, (by simp only [List.length_set, List.length_append, List.length_replicate]; omega), (by simp only [List.length_set, List.length_append, List.length_replicate]; omega), (by simp only [List.length_set, List.length_append, List.length_replicate]; omega), fun i => own_get (by simp only [List.length_append, List.length_replicate]; omega)⟩ (by decide) (by decide)
  · refine own_pre (fun _ kz_ => XS.icmpNo X1.here hx rfl (hb hby d7_11) rfl (flt h11).1 kz_) ?_
    have hlen : cs.length ≤ A := by have q := h11; rw [Int32.ofNat_lt_ofNat (by omega) (by omega)] at q; omega
    have hgrow : cs.length < own_K cs.length A := by unfold own_K; split <;> omega
    have hcap : own_K cs.length A ≤ 4096 := by unfold own_K; split <;> omega
    have hAK : A < own_K cs.length A := by unfold own_K; split <;> omega
    show OwnGoes p e below _ (T1.setTop (mkF m 14 #[.val (.ref o), .val (.long q1), .second, .val (.long (0 : Int64)), .second, .val (.int (0 : Int32)), .val (.int k), .val (.long (0 : Int64)), .second, .val (.int (Int32.ofNat A)), .unset] []))
    refine own_pre (fun _ kz_ => X1.ldc2Long hx hown (mvT hZ (hw _ (List.mem_of_getElem? (i := 64) rfl))) (g := (mkF m 14 #[.val (.ref o), .val (.long q1), .second, .val (.long (0 : Int64)), .second, .val (.int (0 : Int32)), .val (.int k), .val (.long (0 : Int64)), .second, .val (.int (Int32.ofNat A)), .unset] [])) rfl (hb hby d7_14) _ kz_) ?_
    show OwnGoes p e below _ (T1.setTop (mkF m 17 #[.val (.ref o), .val (.long q1), .second, .val (.long (0 : Int64)), .second, .val (.int (0 : Int32)), .val (.int k), .val (.long (0 : Int64)), .second, .val (.int (Int32.ofNat A)), .unset] [(.long (2147483640 : Int64))]))
    refine own_pre (fun _ kz_ => X1.ldc2Long hx hown (mvT hZ (hw _ (List.mem_of_getElem? (i := 65) rfl))) (g := (mkF m 17 #[.val (.ref o), .val (.long q1), .second, .val (.long (0 : Int64)), .second, .val (.int (0 : Int32)), .val (.int k), .val (.long (0 : Int64)), .second, .val (.int (Int32.ofNat A)), .unset] [(.long (2147483640 : Int64))])) rfl (hb hby d7_17) _ kz_) ?_
    show OwnGoes p e below _ (T1.setTop (mkF m 20 #[.val (.ref o), .val (.long q1), .second, .val (.long (0 : Int64)), .second, .val (.int (0 : Int32)), .val (.int k), .val (.long (0 : Int64)), .second, .val (.int (Int32.ofNat A)), .unset] [(.long (2 : Int64)), (.long (2147483640 : Int64))]))
    refine own_pre (fun _ kz_ => XS.aloadN X1.here hx rfl (hb hby d7_20) rfl rfl kz_) ?_
    show OwnGoes p e below _ (T1.setTop (mkF m 21 #[.val (.ref o), .val (.long q1), .second, .val (.long (0 : Int64)), .second, .val (.int (0 : Int32)), .val (.int k), .val (.long (0 : Int64)), .second, .val (.int (Int32.ofNat A)), .unset] [(.ref o), (.long (2 : Int64)), (.long (2147483640 : Int64))]))
    obtain ⟨T12, X12, e12, st12⟩ := getF X1 hx hZ hown (host := "") (Or.inl (hw _ (List.mem_of_getElem? (i := 11) rfl))) Via.refl e1 Fp (g := (mkF m 21 #[.val (.ref o), .val (.long q1), .second, .val (.long (0 : Int64)), .second, .val (.int (0 : Int32)), .val (.int k), .val (.long (0 : Int64)), .second, .val (.int (Int32.ofNat A)), .unset] [(.ref o), (.long (2 : Int64)), (.long (2147483640 : Int64))])) rfl rfl (hb hby d7_21)
    refine own_pre st12 ?_
    show OwnGoes p e below _ (T12.setTop (mkF m 24 #[.val (.ref o), .val (.long q1), .second, .val (.long (0 : Int64)), .second, .val (.int (0 : Int32)), .val (.int k), .val (.long (0 : Int64)), .second, .val (.int (Int32.ofNat A)), .unset] [(.ref ap), (.long (2 : Int64)), (.long (2147483640 : Int64))]))
    refine own_pre (own_alen X12 hx hZ e12 Vp (n := (Int32.ofNat cs.length)) (by rw [List.length_map, lp]) (g := (mkF m 24 #[.val (.ref o), .val (.long q1), .second, .val (.long (0 : Int64)), .second, .val (.int (0 : Int32)), .val (.int k), .val (.long (0 : Int64)), .second, .val (.int (Int32.ofNat A)), .unset] [(.ref ap), (.long (2 : Int64)), (.long (2147483640 : Int64))])) rfl rfl (hb hby d7_24)) ?_
    show OwnGoes p e below _ (T12.setTop (mkF m 25 #[.val (.ref o), .val (.long q1), .second, .val (.long (0 : Int64)), .second, .val (.int (0 : Int32)), .val (.int k), .val (.long (0 : Int64)), .second, .val (.int (Int32.ofNat A)), .unset] [(.int (Int32.ofNat cs.length)), (.long (2 : Int64)), (.long (2147483640 : Int64))]))
    refine own_pre (fun _ kz_ => XS.i2l X12.here hx rfl (hb hby d7_25) rfl kz_) ?_
    show OwnGoes p e below _ (T12.setTop (mkF m 26 #[.val (.ref o), .val (.long q1), .second, .val (.long (0 : Int64)), .second, .val (.int (0 : Int32)), .val (.int k), .val (.long (0 : Int64)), .second, .val (.int (Int32.ofNat A)), .unset] [(.long ((Int32.ofNat cs.length).toInt64)), (.long (2 : Int64)), (.long (2147483640 : Int64))]))
    refine own_pre (fun _ kz_ => XS.lmul X12.here hx rfl (hb hby d7_26) rfl kz_) ?_
    show OwnGoes p e below _ (T12.setTop (mkF m 27 #[.val (.ref o), .val (.long q1), .second, .val (.long (0 : Int64)), .second, .val (.int (0 : Int32)), .val (.int k), .val (.long (0 : Int64)), .second, .val (.int (Int32.ofNat A)), .unset] [(.long ((2 : Int64) * ((Int32.ofNat cs.length).toInt64))), (.long (2147483640 : Int64))]))
    refine own_pre (fun _ kz_ => XS.lloadN X12.here hx rfl (hb hby d7_27) rfl kz_) ?_
    show OwnGoes p e below _ (T12.setTop (mkF m 28 #[.val (.ref o), .val (.long q1), .second, .val (.long (0 : Int64)), .second, .val (.int (0 : Int32)), .val (.int k), .val (.long (0 : Int64)), .second, .val (.int (Int32.ofNat A)), .unset] [(.long q1), (.long ((2 : Int64) * ((Int32.ofNat cs.length).toInt64))), (.long (2147483640 : Int64))]))
    refine own_pre (fun _ kz_ => XS.lconst X12.here hx rfl (hb hby d7_28) kz_) ?_
    show OwnGoes p e below _ (T12.setTop (mkF m 29 #[.val (.ref o), .val (.long q1), .second, .val (.long (0 : Int64)), .second, .val (.int (0 : Int32)), .val (.int k), .val (.long (0 : Int64)), .second, .val (.int (Int32.ofNat A)), .unset] [(.long (1 : Int64)), (.long q1), (.long ((2 : Int64) * ((Int32.ofNat cs.length).toInt64))), (.long (2147483640 : Int64))]))
    refine own_pre (fun _ kz_ => XS.ladd X12.here hx rfl (hb hby d7_29) rfl kz_) ?_
    show OwnGoes p e below _ (T12.setTop (mkF m 30 #[.val (.ref o), .val (.long q1), .second, .val (.long (0 : Int64)), .second, .val (.int (0 : Int32)), .val (.int k), .val (.long (0 : Int64)), .second, .val (.int (Int32.ofNat A)), .unset] [(.long (q1 + (1 : Int64))), (.long ((2 : Int64) * ((Int32.ofNat cs.length).toInt64))), (.long (2147483640 : Int64))]))
    obtain ⟨_, _, ⟨T13, L13, k13, n13⟩, -, X13, ⟨Lc13, hQ13, l13, y13, z13⟩, st13⟩ := Jvm.LawKit.callS X12 hx (y := (⟨"java/lang/Math", "max", "(JJ)J"⟩ : MethodName)) hown (mvT hZ (hw _ (List.mem_of_getElem? (i := 66) rfl))) (mvT hZ (hw _ (List.mem_of_getElem? (i := 67) rfl))) (mvT hZ (hw _ (List.mem_of_getElem? (i := 68) rfl))) (mvT hZ (hw _ (List.mem_of_getElem? (i := 69) rfl))) (by decide) (backOf (W := 2) (rmMaxJ l Z a0 hw [] ((2 : Int64) * ((Int32.ofNat cs.length).toInt64)) (q1 + (1 : Int64)) (Int64.ofNat (own_K cs.length A)) h0 n0 Z0 (by rw [hq]; exact own_max (by omega) (by omega))) hZ (hw _ (List.mem_of_getElem? (i := 69) rfl)) (hw _ (List.mem_of_getElem? (i := 68) rfl)) (by decide) (by decide)) (g := (mkF m 30 #[.val (.ref o), .val (.long q1), .second, .val (.long (0 : Int64)), .second, .val (.int (0 : Int32)), .val (.int k), .val (.long (0 : Int64)), .second, .val (.int (Int32.ofNat A)), .unset] [(.long (q1 + (1 : Int64))), (.long ((2 : Int64) * ((Int32.ofNat cs.length).toInt64))), (.long (2147483640 : Int64))])) rfl (by rw [hml]; rfl) (argsL := [(.long ((2 : Int64) * ((Int32.ofNat cs.length).toInt64))), (.long (q1 + (1 : Int64)))]) (rest := [(.long (2147483640 : Int64))]) (lenOf (d := "(JJ)J") (ps := [.long, .long]) (r := some .long) (by decide +kernel) rfl) rfl (by show 2 * 0 + _ ≤ _; exact Nat.le_of_eq rfl) (hb hby d7_30) (fun _ _ => ⟨rfl, e12, (by decide : 0 + 0 ≤ _), (by decide : 0 + 0 ≤ _)⟩)
    dsimp only [Pt.U, Pt.locs, Pt.cells, Pt.slots] at X13 l13 y13 z13 st13 hQ13
    subst l13 y13 z13
    obtain ⟨rfl, N13q, e13⟩ := hQ13
    have N13 := Fr.app N0 N13q
    refine own_pre st13 ?_
    show OwnGoes p e below _ (T13.setTop (mkF m 33 #[.val (.ref o), .val (.long q1), .second, .val (.long (0 : Int64)), .second, .val (.int (0 : Int32)), .val (.int k), .val (.long (0 : Int64)), .second, .val (.int (Int32.ofNat A)), .unset] [(.long (Int64.ofNat (own_K cs.length A))), (.long (2147483640 : Int64))]))
    obtain ⟨_, _, ⟨T14, L14, k14, n14⟩, -, X14, ⟨Lc14, hQ14, l14, y14, z14⟩, st14⟩ := Jvm.LawKit.callS X13 hx (y := (⟨"java/lang/Math", "min", "(JJ)J"⟩ : MethodName)) hown (mvT hZ (hw _ (List.mem_of_getElem? (i := 70) rfl))) (mvT hZ (hw _ (List.mem_of_getElem? (i := 71) rfl))) (mvT hZ (hw _ (List.mem_of_getElem? (i := 68) rfl))) (mvT hZ (hw _ (List.mem_of_getElem? (i := 72) rfl))) (by decide) (backOf (W := 0) (rmMinJ l Z a0 hw [] (2147483640 : Int64) (Int64.ofNat (own_K cs.length A)) (Int64.ofNat (own_K cs.length A)) h0 n0 Z0 (own_min hcap)) hZ (hw _ (List.mem_of_getElem? (i := 72) rfl)) (hw _ (List.mem_of_getElem? (i := 68) rfl)) (by decide) (by decide)) (g := (mkF m 33 #[.val (.ref o), .val (.long q1), .second, .val (.long (0 : Int64)), .second, .val (.int (0 : Int32)), .val (.int k), .val (.long (0 : Int64)), .second, .val (.int (Int32.ofNat A)), .unset] [(.long (Int64.ofNat (own_K cs.length A))), (.long (2147483640 : Int64))])) rfl (by rw [hml]; rfl) (argsL := [(.long (2147483640 : Int64)), (.long (Int64.ofNat (own_K cs.length A)))]) (rest := []) (lenOf (d := "(JJ)J") (ps := [.long, .long]) (r := some .long) (by decide +kernel) rfl) rfl (by show 2 * 0 + _ ≤ _; exact Nat.le_of_eq rfl) (hb hby d7_33) (fun _ _ => ⟨rfl, e13, (by decide : 0 + 0 ≤ _), (by decide : 0 + 0 ≤ _)⟩)
    dsimp only [Pt.U, Pt.locs, Pt.cells, Pt.slots] at X14 l14 y14 z14 st14 hQ14
    subst l14 y14 z14
    obtain ⟨rfl, N14q, e14⟩ := hQ14
    have N14 := Fr.app N13 N14q
    refine own_pre st14 ?_
    show OwnGoes p e below _ (T14.setTop (mkF m 36 #[.val (.ref o), .val (.long q1), .second, .val (.long (0 : Int64)), .second, .val (.int (0 : Int32)), .val (.int k), .val (.long (0 : Int64)), .second, .val (.int (Int32.ofNat A)), .unset] [(.long (Int64.ofNat (own_K cs.length A)))]))
    refine own_pre (fun _ kz_ => XS.l2i X14.here hx rfl (hb hby d7_36) rfl kz_) ?_
    show OwnGoes p e below _ (T14.setTop (mkF m 37 #[.val (.ref o), .val (.long q1), .second, .val (.long (0 : Int64)), .second, .val (.int (0 : Int32)), .val (.int k), .val (.long (0 : Int64)), .second, .val (.int (Int32.ofNat A)), .unset] [(.int ((Int64.ofNat (own_K cs.length A)).toInt32))]))
    rw [own_l2i hcap]
    show OwnGoes p e below _ (T14.setTop (mkF m 37 #[.val (.ref o), .val (.long q1), .second, .val (.long (0 : Int64)), .second, .val (.int (0 : Int32)), .val (.int k), .val (.long (0 : Int64)), .second, .val (.int (Int32.ofNat A)), .unset] [(.int (Int32.ofNat (own_K cs.length A)))]))
    refine own_pre (fun _ kz_ => XS.istore X14.here hx rfl (hb hby d7_37) rfl (l' := #[.val (.ref o), .val (.long q1), .second, .val (.long (0 : Int64)), .second, .val (.int (0 : Int32)), .val (.int k), .val (.long (0 : Int64)), .second, .val (.int (Int32.ofNat A)), .val (.int (Int32.ofNat (own_K cs.length A)))]) rfl kz_) ?_
    show OwnGoes p e below _ (T14.setTop (mkF m 39 #[.val (.ref o), .val (.long q1), .second, .val (.long (0 : Int64)), .second, .val (.int (0 : Int32)), .val (.int k), .val (.long (0 : Int64)), .second, .val (.int (Int32.ofNat A)), .val (.int (Int32.ofNat (own_K cs.length A)))] []))
    refine own_pre (fun _ kz_ => XS.aloadN X14.here hx rfl (hb hby d7_39) rfl rfl kz_) ?_
    show OwnGoes p e below _ (T14.setTop (mkF m 40 #[.val (.ref o), .val (.long q1), .second, .val (.long (0 : Int64)), .second, .val (.int (0 : Int32)), .val (.int k), .val (.long (0 : Int64)), .second, .val (.int (Int32.ofNat A)), .val (.int (Int32.ofNat (own_K cs.length A)))] [(.ref o)]))
    refine own_pre (fun _ kz_ => XS.aloadN X14.here hx rfl (hb hby d7_40) rfl rfl kz_) ?_
    show OwnGoes p e below _ (T14.setTop (mkF m 41 #[.val (.ref o), .val (.long q1), .second, .val (.long (0 : Int64)), .second, .val (.int (0 : Int32)), .val (.int k), .val (.long (0 : Int64)), .second, .val (.int (Int32.ofNat A)), .val (.int (Int32.ofNat (own_K cs.length A)))] [(.ref o), (.ref o)]))
    obtain ⟨T15, X15, e15, st15⟩ := getF X14 hx hZ hown (host := "") (Or.inl (hw _ (List.mem_of_getElem? (i := 11) rfl))) Via.refl e14 Fp (g := (mkF m 41 #[.val (.ref o), .val (.long q1), .second, .val (.long (0 : Int64)), .second, .val (.int (0 : Int32)), .val (.int k), .val (.long (0 : Int64)), .second, .val (.int (Int32.ofNat A)), .val (.int (Int32.ofNat (own_K cs.length A)))] [(.ref o), (.ref o)])) rfl rfl (hb hby d7_41)
    refine own_pre st15 ?_
    show OwnGoes p e below _ (T15.setTop (mkF m 44 #[.val (.ref o), .val (.long q1), .second, .val (.long (0 : Int64)), .second, .val (.int (0 : Int32)), .val (.int k), .val (.long (0 : Int64)), .second, .val (.int (Int32.ofNat A)), .val (.int (Int32.ofNat (own_K cs.length A)))] [(.ref ap), (.ref o)]))
    refine own_pre (fun _ kz_ => XS.iload X15.here hx rfl (hb hby d7_44) rfl kz_) ?_
    show OwnGoes p e below _ (T15.setTop (mkF m 46 #[.val (.ref o), .val (.long q1), .second, .val (.long (0 : Int64)), .second, .val (.int (0 : Int32)), .val (.int k), .val (.long (0 : Int64)), .second, .val (.int (Int32.ofNat A)), .val (.int (Int32.ofNat (own_K cs.length A)))] [(.int (Int32.ofNat (own_K cs.length A))), (.ref ap), (.ref o)]))
    obtain ⟨_, _, ⟨T16, L16, k16, n16⟩, -, X16, ⟨Lc16, hQ16, l16, y16, z16⟩, st16⟩ := Jvm.LawKit.callS X15 hx (y := (⟨"java/util/Arrays", "copyOf", "([JI)[J"⟩ : MethodName)) hown (mvT hZ (hw _ (List.mem_of_getElem? (i := 73) rfl))) (mvT hZ (hw _ (List.mem_of_getElem? (i := 74) rfl))) (mvT hZ (hw _ (List.mem_of_getElem? (i := 75) rfl))) (mvT hZ (hw _ (List.mem_of_getElem? (i := 76) rfl))) (by decide) (backOf (W := 1) (rmCpJ l Z a0 hw [] ap (Int32.ofNat (own_K cs.length A)) (vp.map .long) (own_K cs.length A) h0 n0 Z0 Vp rfl hcap (by rw [List.length_map, lp]; exact hgrow) (own_fitJ _)) hZ (hw _ (List.mem_of_getElem? (i := 76) rfl)) (hw _ (List.mem_of_getElem? (i := 75) rfl)) (by decide) (by decide)) (g := (mkF m 46 #[.val (.ref o), .val (.long q1), .second, .val (.long (0 : Int64)), .second, .val (.int (0 : Int32)), .val (.int k), .val (.long (0 : Int64)), .second, .val (.int (Int32.ofNat A)), .val (.int (Int32.ofNat (own_K cs.length A)))] [(.int (Int32.ofNat (own_K cs.length A))), (.ref ap), (.ref o)])) rfl (by rw [hml]; rfl) (argsL := [(.ref ap), (.int (Int32.ofNat (own_K cs.length A)))]) (rest := [(.ref o)]) (lenOf (d := "([JI)[J") (ps := [(.array .long), .int]) (r := some (.array .long)) (by decide +kernel) rfl) rfl (by show 2 * 0 + _ ≤ _; exact Nat.le_of_eq rfl) (hb hby d7_46) (fun _ _ => ⟨rfl, e15, (by decide : 0 + 1 ≤ _), (by decide : 0 + 4096 ≤ _)⟩)
    dsimp only [Pt.U, Pt.locs, Pt.cells, Pt.slots] at X16 l16 y16 z16 st16 hQ16
    subst l16 y16 z16
    obtain ⟨rp, rfl, N16q, K16q, G16q, V16q⟩ := hQ16
    have N16 := Fr.app N14 N16q
    refine own_pre st16 ?_
    have ne_ap_rp : ap ≠ rp := Nat.ne_of_lt (Nat.lt_of_lt_of_le Vp.lt G16q)
    have ne_av_rp : av ≠ rp := Nat.ne_of_lt (Nat.lt_of_lt_of_le Vv.lt G16q)
    have ne_al_rp : al ≠ rp := Nat.ne_of_lt (Nat.lt_of_lt_of_le Vl.lt G16q)
    have ne_ac_rp : ac ≠ rp := Nat.ne_of_lt (Nat.lt_of_lt_of_le Vc.lt G16q)
    have ne_ab_rp : ab ≠ rp := Nat.ne_of_lt (Nat.lt_of_lt_of_le Eb.lt G16q)
    have ne_o_rp : o ≠ rp := Nat.ne_of_lt (Nat.lt_of_lt_of_le Eo.lt G16q)
    have g_rp : n0 ≤ rp := Nat.le_trans Z0 G16q
    have sz_rp : h0.size ≤ rp := Nat.le_trans ((Keep.refl h0 [o, ap, al, ac, av])).1 G16q
    have f16_13 := Eo.keep K16q
    have f16_12 := Fp.keep K16q (List.not_mem_nil)
    have f16_11 := Fl.keep K16q (List.not_mem_nil)
    have f16_10 := Fc.keep K16q (List.not_mem_nil)
    have f16_9 := Fv.keep K16q (List.not_mem_nil)
    have f16_8 := Fr_.keep K16q (List.not_mem_nil)
    have f16_7 := Vp.keep K16q (List.not_mem_nil)
    have f16_6 := Vl.keep K16q (List.not_mem_nil)
    have f16_5 := Vc.keep K16q (List.not_mem_nil)
    have f16_4 := Vv.keep K16q (List.not_mem_nil)
    have f16_3 := Eb.keep K16q
    have f16_2 := Fw.keep K16q (List.not_mem_nil)
    have f16_1 := TS.keep K16q (fun x hx => by cases hx)
    have Z16 := Nat.le_trans Z0 K16q.1
    have KK16 := ((Keep.refl h0 [o, ap, al, ac, av])).trans K16q (fun x hx => by cases hx)
    have V16m := own_mapJ V16q
    show OwnGoes p e below _ (T16.setTop (mkF m 49 #[.val (.ref o), .val (.long q1), .second, .val (.long (0 : Int64)), .second, .val (.int (0 : Int32)), .val (.int k), .val (.long (0 : Int64)), .second, .val (.int (Int32.ofNat A)), .val (.int (Int32.ofNat (own_K cs.length A)))] [(.ref rp), (.ref o)]))
    obtain ⟨T17, h17, X17, e17, W17, st17⟩ := putF X16 hx hZ hown (host := "") (Or.inl (hw _ (List.mem_of_getElem? (i := 11) rfl))) Via.refl rfl f16_12 f16_13 (Or.inl (hw _ (List.mem_of_getElem? (i := 12) rfl))) (hw _ (List.mem_of_getElem? (i := 2) rfl)) (ty := (.array .long)) (by decide) rfl rfl (g := (mkF m 49 #[.val (.ref o), .val (.long q1), .second, .val (.long (0 : Int64)), .second, .val (.int (0 : Int32)), .val (.int k), .val (.long (0 : Int64)), .second, .val (.int (Int32.ofNat A)), .val (.int (Int32.ofNat (own_K cs.length A)))] [(.ref rp), (.ref o)])) rfl rfl (hb hby d7_49)
    have f17_14 := f16_13.wr W17
    have f17_12 := f16_11.other W17 (Or.inr (slot_ne (Or.inl (hw _ (List.mem_of_getElem? (i := 15) rfl))) (Or.inl (hw _ (List.mem_of_getElem? (i := 12) rfl))) (by decide) (t := (.array .int)) (t' := (.array .long)) (by decide) (by decide)))
    have f17_11 := f16_10.other W17 (Or.inr (slot_ne (Or.inl (hw _ (List.mem_of_getElem? (i := 17) rfl))) (Or.inl (hw _ (List.mem_of_getElem? (i := 12) rfl))) (by decide) (t := (.array .int)) (t' := (.array .long)) (by decide) (by decide)))
    have f17_10 := f16_9.other W17 (Or.inr (slot_ne (Or.inl (hw _ (List.mem_of_getElem? (i := 19) rfl))) (Or.inl (hw _ (List.mem_of_getElem? (i := 12) rfl))) (by decide) (t := (.array .long)) (t' := (.array .long)) (by decide) (by decide)))
    have f17_9 := f16_8.other W17 (Or.inr (slot_ne (Or.inr (hw _ (List.mem_of_getElem? (i := 42) rfl))) (Or.inl (hw _ (List.mem_of_getElem? (i := 12) rfl))) (by decide) (t := (.object "java/util/BitSet")) (t' := (.array .long)) (by decide) (by decide)))
    have f17_8 := f16_7.other W17 (Ne.symm n1)
    have f17_7 := f16_6.other W17 (Ne.symm n2)
    have f17_6 := f16_5.other W17 (Ne.symm n3)
    have f17_5 := f16_4.other W17 (Ne.symm n4)
    have f17_4 := f16_3.wr W17
    have f17_3 := f16_2.other W17 (Or.inl (Ne.symm n5))
    have f17_2 := f16_1.wr W17
    have f17_1 := V16m.other W17 (Ne.symm ne_o_rp)
    have K17 := (KK16).wr W17 (Or.inl (List.mem_of_getElem? (i := 0) rfl))
    have Z17 := Nat.le_trans Z16 (Keep.of_wr W17).1
    have Fw17 := f16_12.same W17
    have N17 := Fr.snoc X17 N16 g_o
    refine own_pre st17 ?_
    show OwnGoes p e below _ (T17.setTop (mkF m 52 #[.val (.ref o), .val (.long q1), .second, .val (.long (0 : Int64)), .second, .val (.int (0 : Int32)), .val (.int k), .val (.long (0 : Int64)), .second, .val (.int (Int32.ofNat A)), .val (.int (Int32.ofNat (own_K cs.length A)))] []))
    refine own_pre (fun _ kz_ => XS.aloadN X17.here hx rfl (hb hby d7_52) rfl rfl kz_) ?_
    show OwnGoes p e below _ (T17.setTop (mkF m 53 #[.val (.ref o), .val (.long q1), .second, .val (.long (0 : Int64)), .second, .val (.int (0 : Int32)), .val (.int k), .val (.long (0 : Int64)), .second, .val (.int (Int32.ofNat A)), .val (.int (Int32.ofNat (own_K cs.length A)))] [(.ref o)]))
    refine own_pre (fun _ kz_ => XS.aloadN X17.here hx rfl (hb hby d7_53) rfl rfl kz_) ?_
    show OwnGoes p e below _ (T17.setTop (mkF m 54 #[.val (.ref o), .val (.long q1), .second, .val (.long (0 : Int64)), .second, .val (.int (0 : Int32)), .val (.int k), .val (.long (0 : Int64)), .second, .val (.int (Int32.ofNat A)), .val (.int (Int32.ofNat (own_K cs.length A)))] [(.ref o), (.ref o)]))
    obtain ⟨T18, X18, e18, st18⟩ := getF X17 hx hZ hown (host := "") (Or.inl (hw _ (List.mem_of_getElem? (i := 14) rfl))) Via.refl e17 f17_12 (g := (mkF m 54 #[.val (.ref o), .val (.long q1), .second, .val (.long (0 : Int64)), .second, .val (.int (0 : Int32)), .val (.int k), .val (.long (0 : Int64)), .second, .val (.int (Int32.ofNat A)), .val (.int (Int32.ofNat (own_K cs.length A)))] [(.ref o), (.ref o)])) rfl rfl (hb hby d7_54)
    refine own_pre st18 ?_
    show OwnGoes p e below _ (T18.setTop (mkF m 57 #[.val (.ref o), .val (.long q1), .second, .val (.long (0 : Int64)), .second, .val (.int (0 : Int32)), .val (.int k), .val (.long (0 : Int64)), .second, .val (.int (Int32.ofNat A)), .val (.int (Int32.ofNat (own_K cs.length A)))] [(.ref al), (.ref o)]))
    refine own_pre (fun _ kz_ => XS.iload X18.here hx rfl (hb hby d7_57) rfl kz_) ?_
    show OwnGoes p e below _ (T18.setTop (mkF m 59 #[.val (.ref o), .val (.long q1), .second, .val (.long (0 : Int64)), .second, .val (.int (0 : Int32)), .val (.int k), .val (.long (0 : Int64)), .second, .val (.int (Int32.ofNat A)), .val (.int (Int32.ofNat (own_K cs.length A)))] [(.int (Int32.ofNat (own_K cs.length A))), (.ref al), (.ref o)]))
    obtain ⟨_, _, ⟨T19, L19, k19, n19⟩, -, X19, ⟨Lc19, hQ19, l19, y19, z19⟩, st19⟩ := Jvm.LawKit.callS X18 hx (y := (⟨"java/util/Arrays", "copyOf", "([II)[I"⟩ : MethodName)) hown (mvT hZ (hw _ (List.mem_of_getElem? (i := 84) rfl))) (mvT hZ (hw _ (List.mem_of_getElem? (i := 85) rfl))) (mvT hZ (hw _ (List.mem_of_getElem? (i := 75) rfl))) (mvT hZ (hw _ (List.mem_of_getElem? (i := 86) rfl))) (by decide) (backOf (W := 1) (rmCpI l Z a0 hw [] al (Int32.ofNat (own_K cs.length A)) (vl.map .int) (own_K cs.length A) h17 n0 Z17 f17_7 rfl hcap (by rw [List.length_map, ll]; exact hgrow) (own_fitI _)) hZ (hw _ (List.mem_of_getElem? (i := 86) rfl)) (hw _ (List.mem_of_getElem? (i := 75) rfl)) (by decide) (by decide)) (g := (mkF m 59 #[.val (.ref o), .val (.long q1), .second, .val (.long (0 : Int64)), .second, .val (.int (0 : Int32)), .val (.int k), .val (.long (0 : Int64)), .second, .val (.int (Int32.ofNat A)), .val (.int (Int32.ofNat (own_K cs.length A)))] [(.int (Int32.ofNat (own_K cs.length A))), (.ref al), (.ref o)])) rfl (by rw [hml]; rfl) (argsL := [(.ref al), (.int (Int32.ofNat (own_K cs.length A)))]) (rest := [(.ref o)]) (lenOf (d := "([II)[I") (ps := [(.array .int), .int]) (r := some (.array .int)) (by decide +kernel) rfl) rfl (by show 2 * 0 + _ ≤ _; exact Nat.le_of_eq rfl) (hb hby d7_59) (fun _ _ => ⟨rfl, e18, (by decide : 1 + 1 ≤ _), (by decide : 4096 + 4096 ≤ _)⟩)
    dsimp only [Pt.U, Pt.locs, Pt.cells, Pt.slots] at X19 l19 y19 z19 st19 hQ19
    subst l19 y19 z19
    obtain ⟨rl, rfl, N19q, K19q, G19q, V19q⟩ := hQ19
    have N19 := Fr.app N17 N19q
    refine own_pre st19 ?_
    have ne_av_rl : av ≠ rl := Nat.ne_of_lt (Nat.lt_of_lt_of_le f17_5.lt G19q)
    have ne_rp_rl : rp ≠ rl := Nat.ne_of_lt (Nat.lt_of_lt_of_le f17_1.lt G19q)
    have ne_al_rl : al ≠ rl := Nat.ne_of_lt (Nat.lt_of_lt_of_le f17_7.lt G19q)
    have ne_ac_rl : ac ≠ rl := Nat.ne_of_lt (Nat.lt_of_lt_of_le f17_6.lt G19q)
    have ne_ab_rl : ab ≠ rl := Nat.ne_of_lt (Nat.lt_of_lt_of_le f17_4.lt G19q)
    have ne_o_rl : o ≠ rl := Nat.ne_of_lt (Nat.lt_of_lt_of_le f17_14.lt G19q)
    have g_rl : n0 ≤ rl := Nat.le_trans Z17 G19q
    have sz_rl : h0.size ≤ rl := Nat.le_trans (K17).1 G19q
    have f19_13 := f17_14.keep K19q
    have f19_12 := Fw17.keep K19q (List.not_mem_nil)
    have f19_11 := f17_12.keep K19q (List.not_mem_nil)
    have f19_10 := f17_11.keep K19q (List.not_mem_nil)
    have f19_9 := f17_10.keep K19q (List.not_mem_nil)
    have f19_8 := f17_9.keep K19q (List.not_mem_nil)
    have f19_7 := f17_7.keep K19q (List.not_mem_nil)
    have f19_6 := f17_6.keep K19q (List.not_mem_nil)
    have f19_5 := f17_5.keep K19q (List.not_mem_nil)
    have f19_4 := f17_4.keep K19q
    have f19_3 := f17_3.keep K19q (List.not_mem_nil)
    have f19_2 := f17_2.keep K19q (fun x hx => by cases hx)
    have f19_1 := f17_1.keep K19q (List.not_mem_nil)
    have Z19 := Nat.le_trans Z17 K19q.1
    have KK19 := (K17).trans K19q (fun x hx => by cases hx)
    have V19m := own_mapI V19q
    show OwnGoes p e below _ (T19.setTop (mkF m 62 #[.val (.ref o), .val (.long q1), .second, .val (.long (0 : Int64)), .second, .val (.int (0 : Int32)), .val (.int k), .val (.long (0 : Int64)), .second, .val (.int (Int32.ofNat A)), .val (.int (Int32.ofNat (own_K cs.length A)))] [(.ref rl), (.ref o)]))
    obtain ⟨T20, h20, X20, e20, W20, st20⟩ := putF X19 hx hZ hown (host := "") (Or.inl (hw _ (List.mem_of_getElem? (i := 14) rfl))) Via.refl rfl f19_11 f19_13 (Or.inl (hw _ (List.mem_of_getElem? (i := 15) rfl))) (hw _ (List.mem_of_getElem? (i := 2) rfl)) (ty := (.array .int)) (by decide) rfl rfl (g := (mkF m 62 #[.val (.ref o), .val (.long q1), .second, .val (.long (0 : Int64)), .second, .val (.int (0 : Int32)), .val (.int k), .val (.long (0 : Int64)), .second, .val (.int (Int32.ofNat A)), .val (.int (Int32.ofNat (own_K cs.length A)))] [(.ref rl), (.ref o)])) rfl rfl (hb hby d7_62)
    have f20_14 := f19_13.wr W20
    have f20_13 := f19_12.other W20 (Or.inr (slot_ne (Or.inl (hw _ (List.mem_of_getElem? (i := 12) rfl))) (Or.inl (hw _ (List.mem_of_getElem? (i := 15) rfl))) (by decide) (t := (.array .long)) (t' := (.array .int)) (by decide) (by decide)))
    have f20_11 := f19_10.other W20 (Or.inr (slot_ne (Or.inl (hw _ (List.mem_of_getElem? (i := 17) rfl))) (Or.inl (hw _ (List.mem_of_getElem? (i := 15) rfl))) (by decide) (t := (.array .int)) (t' := (.array .int)) (by decide) (by decide)))
    have f20_10 := f19_9.other W20 (Or.inr (slot_ne (Or.inl (hw _ (List.mem_of_getElem? (i := 19) rfl))) (Or.inl (hw _ (List.mem_of_getElem? (i := 15) rfl))) (by decide) (t := (.array .long)) (t' := (.array .int)) (by decide) (by decide)))
    have f20_9 := f19_8.other W20 (Or.inr (slot_ne (Or.inr (hw _ (List.mem_of_getElem? (i := 42) rfl))) (Or.inl (hw _ (List.mem_of_getElem? (i := 15) rfl))) (by decide) (t := (.object "java/util/BitSet")) (t' := (.array .int)) (by decide) (by decide)))
    have f20_8 := f19_7.other W20 (Ne.symm n2)
    have f20_7 := f19_6.other W20 (Ne.symm n3)
    have f20_6 := f19_5.other W20 (Ne.symm n4)
    have f20_5 := f19_4.wr W20
    have f20_4 := f19_3.other W20 (Or.inl (Ne.symm n5))
    have f20_3 := f19_2.wr W20
    have f20_2 := f19_1.other W20 (Ne.symm ne_o_rp)
    have f20_1 := V19m.other W20 (Ne.symm ne_o_rl)
    have K20 := (KK19).wr W20 (Or.inl (List.mem_of_getElem? (i := 0) rfl))
    have Z20 := Nat.le_trans Z19 (Keep.of_wr W20).1
    have Fw20 := f19_11.same W20
    have N20 := Fr.snoc X20 N19 g_o
    refine own_pre st20 ?_
    show OwnGoes p e below _ (T20.setTop (mkF m 65 #[.val (.ref o), .val (.long q1), .second, .val (.long (0 : Int64)), .second, .val (.int (0 : Int32)), .val (.int k), .val (.long (0 : Int64)), .second, .val (.int (Int32.ofNat A)), .val (.int (Int32.ofNat (own_K cs.length A)))] []))
    refine own_pre (fun _ kz_ => XS.aloadN X20.here hx rfl (hb hby d7_65) rfl rfl kz_) ?_
    show OwnGoes p e below _ (T20.setTop (mkF m 66 #[.val (.ref o), .val (.long q1), .second, .val (.long (0 : Int64)), .second, .val (.int (0 : Int32)), .val (.int k), .val (.long (0 : Int64)), .second, .val (.int (Int32.ofNat A)), .val (.int (Int32.ofNat (own_K cs.length A)))] [(.ref o)]))
    refine own_pre (fun _ kz_ => XS.aloadN X20.here hx rfl (hb hby d7_66) rfl rfl kz_) ?_
    show OwnGoes p e below _ (T20.setTop (mkF m 67 #[.val (.ref o), .val (.long q1), .second, .val (.long (0 : Int64)), .second, .val (.int (0 : Int32)), .val (.int k), .val (.long (0 : Int64)), .second, .val (.int (Int32.ofNat A)), .val (.int (Int32.ofNat (own_K cs.length A)))] [(.ref o), (.ref o)]))
    obtain ⟨T21, X21, e21, st21⟩ := getF X20 hx hZ hown (host := "") (Or.inl (hw _ (List.mem_of_getElem? (i := 16) rfl))) Via.refl e20 f20_11 (g := (mkF m 67 #[.val (.ref o), .val (.long q1), .second, .val (.long (0 : Int64)), .second, .val (.int (0 : Int32)), .val (.int k), .val (.long (0 : Int64)), .second, .val (.int (Int32.ofNat A)), .val (.int (Int32.ofNat (own_K cs.length A)))] [(.ref o), (.ref o)])) rfl rfl (hb hby d7_67)
    refine own_pre st21 ?_
    show OwnGoes p e below _ (T21.setTop (mkF m 70 #[.val (.ref o), .val (.long q1), .second, .val (.long (0 : Int64)), .second, .val (.int (0 : Int32)), .val (.int k), .val (.long (0 : Int64)), .second, .val (.int (Int32.ofNat A)), .val (.int (Int32.ofNat (own_K cs.length A)))] [(.ref ac), (.ref o)]))
    refine own_pre (fun _ kz_ => XS.iload X21.here hx rfl (hb hby d7_70) rfl kz_) ?_
    show OwnGoes p e below _ (T21.setTop (mkF m 72 #[.val (.ref o), .val (.long q1), .second, .val (.long (0 : Int64)), .second, .val (.int (0 : Int32)), .val (.int k), .val (.long (0 : Int64)), .second, .val (.int (Int32.ofNat A)), .val (.int (Int32.ofNat (own_K cs.length A)))] [(.int (Int32.ofNat (own_K cs.length A))), (.ref ac), (.ref o)]))
    obtain ⟨_, _, ⟨T22, L22, k22, n22⟩, -, X22, ⟨Lc22, hQ22, l22, y22, z22⟩, st22⟩ := Jvm.LawKit.callS X21 hx (y := (⟨"java/util/Arrays", "copyOf", "([II)[I"⟩ : MethodName)) hown (mvT hZ (hw _ (List.mem_of_getElem? (i := 84) rfl))) (mvT hZ (hw _ (List.mem_of_getElem? (i := 85) rfl))) (mvT hZ (hw _ (List.mem_of_getElem? (i := 75) rfl))) (mvT hZ (hw _ (List.mem_of_getElem? (i := 86) rfl))) (by decide) (backOf (W := 1) (rmCpI l Z a0 hw [] ac (Int32.ofNat (own_K cs.length A)) (cs.map .int) (own_K cs.length A) h20 n0 Z20 f20_7 rfl hcap (by rw [List.length_map]; exact hgrow) (own_fitI _)) hZ (hw _ (List.mem_of_getElem? (i := 86) rfl)) (hw _ (List.mem_of_getElem? (i := 75) rfl)) (by decide) (by decide)) (g := (mkF m 72 #[.val (.ref o), .val (.long q1), .second, .val (.long (0 : Int64)), .second, .val (.int (0 : Int32)), .val (.int k), .val (.long (0 : Int64)), .second, .val (.int (Int32.ofNat A)), .val (.int (Int32.ofNat (own_K cs.length A)))] [(.int (Int32.ofNat (own_K cs.length A))), (.ref ac), (.ref o)])) rfl (by rw [hml]; rfl) (argsL := [(.ref ac), (.int (Int32.ofNat (own_K cs.length A)))]) (rest := [(.ref o)]) (lenOf (d := "([II)[I") (ps := [(.array .int), .int]) (r := some (.array .int)) (by decide +kernel) rfl) rfl (by show 2 * 0 + _ ≤ _; exact Nat.le_of_eq rfl) (hb hby d7_72) (fun _ _ => ⟨rfl, e21, (by decide : 2 + 1 ≤ _), (by decide : 8192 + 4096 ≤ _)⟩)
    dsimp only [Pt.U, Pt.locs, Pt.cells, Pt.slots] at X22 l22 y22 z22 st22 hQ22
    subst l22 y22 z22
    obtain ⟨rc, rfl, N22q, K22q, G22q, V22q⟩ := hQ22
    have N22 := Fr.app N20 N22q
    refine own_pre st22 ?_
    have ne_av_rc : av ≠ rc := Nat.ne_of_lt (Nat.lt_of_lt_of_le f20_6.lt G22q)
    have ne_rl_rc : rl ≠ rc := Nat.ne_of_lt (Nat.lt_of_lt_of_le f20_1.lt G22q)
    have ne_rp_rc : rp ≠ rc := Nat.ne_of_lt (Nat.lt_of_lt_of_le f20_2.lt G22q)
    have ne_ac_rc : ac ≠ rc := Nat.ne_of_lt (Nat.lt_of_lt_of_le f20_7.lt G22q)
    have ne_ab_rc : ab ≠ rc := Nat.ne_of_lt (Nat.lt_of_lt_of_le f20_5.lt G22q)
    have ne_o_rc : o ≠ rc := Nat.ne_of_lt (Nat.lt_of_lt_of_le f20_14.lt G22q)
    have g_rc : n0 ≤ rc := Nat.le_trans Z20 G22q
    have sz_rc : h0.size ≤ rc := Nat.le_trans (K20).1 G22q
    have f22_13 := f20_14.keep K22q
    have f22_12 := f20_13.keep K22q (List.not_mem_nil)
    have f22_11 := Fw20.keep K22q (List.not_mem_nil)
    have f22_10 := f20_11.keep K22q (List.not_mem_nil)
    have f22_9 := f20_10.keep K22q (List.not_mem_nil)
    have f22_8 := f20_9.keep K22q (List.not_mem_nil)
    have f22_7 := f20_7.keep K22q (List.not_mem_nil)
    have f22_6 := f20_6.keep K22q (List.not_mem_nil)
    have f22_5 := f20_5.keep K22q
    have f22_4 := f20_4.keep K22q (List.not_mem_nil)
    have f22_3 := f20_3.keep K22q (fun x hx => by cases hx)
    have f22_2 := f20_2.keep K22q (List.not_mem_nil)
    have f22_1 := f20_1.keep K22q (List.not_mem_nil)
    have Z22 := Nat.le_trans Z20 K22q.1
    have KK22 := (K20).trans K22q (fun x hx => by cases hx)
    have V22m := own_mapI V22q
    show OwnGoes p e below _ (T22.setTop (mkF m 75 #[.val (.ref o), .val (.long q1), .second, .val (.long (0 : Int64)), .second, .val (.int (0 : Int32)), .val (.int k), .val (.long (0 : Int64)), .second, .val (.int (Int32.ofNat A)), .val (.int (Int32.ofNat (own_K cs.length A)))] [(.ref rc), (.ref o)]))
    obtain ⟨T23, h23, X23, e23, W23, st23⟩ := putF X22 hx hZ hown (host := "") (Or.inl (hw _ (List.mem_of_getElem? (i := 16) rfl))) Via.refl rfl f22_10 f22_13 (Or.inl (hw _ (List.mem_of_getElem? (i := 17) rfl))) (hw _ (List.mem_of_getElem? (i := 2) rfl)) (ty := (.array .int)) (by decide) rfl rfl (g := (mkF m 75 #[.val (.ref o), .val (.long q1), .second, .val (.long (0 : Int64)), .second, .val (.int (0 : Int32)), .val (.int k), .val (.long (0 : Int64)), .second, .val (.int (Int32.ofNat A)), .val (.int (Int32.ofNat (own_K cs.length A)))] [(.ref rc), (.ref o)])) rfl rfl (hb hby d7_75)
    have f23_14 := f22_13.wr W23
    have f23_13 := f22_12.other W23 (Or.inr (slot_ne (Or.inl (hw _ (List.mem_of_getElem? (i := 12) rfl))) (Or.inl (hw _ (List.mem_of_getElem? (i := 17) rfl))) (by decide) (t := (.array .long)) (t' := (.array .int)) (by decide) (by decide)))
    have f23_12 := f22_11.other W23 (Or.inr (slot_ne (Or.inl (hw _ (List.mem_of_getElem? (i := 15) rfl))) (Or.inl (hw _ (List.mem_of_getElem? (i := 17) rfl))) (by decide) (t := (.array .int)) (t' := (.array .int)) (by decide) (by decide)))
    have f23_10 := f22_9.other W23 (Or.inr (slot_ne (Or.inl (hw _ (List.mem_of_getElem? (i := 19) rfl))) (Or.inl (hw _ (List.mem_of_getElem? (i := 17) rfl))) (by decide) (t := (.array .long)) (t' := (.array .int)) (by decide) (by decide)))
    have f23_9 := f22_8.other W23 (Or.inr (slot_ne (Or.inr (hw _ (List.mem_of_getElem? (i := 42) rfl))) (Or.inl (hw _ (List.mem_of_getElem? (i := 17) rfl))) (by decide) (t := (.object "java/util/BitSet")) (t' := (.array .int)) (by decide) (by decide)))
    have f23_8 := f22_7.other W23 (Ne.symm n3)
    have f23_7 := f22_6.other W23 (Ne.symm n4)
    have f23_6 := f22_5.wr W23
    have f23_5 := f22_4.other W23 (Or.inl (Ne.symm n5))
    have f23_4 := f22_3.wr W23
    have f23_3 := f22_2.other W23 (Ne.symm ne_o_rp)
    have f23_2 := f22_1.other W23 (Ne.symm ne_o_rl)
    have f23_1 := V22m.other W23 (Ne.symm ne_o_rc)
    have K23 := (KK22).wr W23 (Or.inl (List.mem_of_getElem? (i := 0) rfl))
    have Z23 := Nat.le_trans Z22 (Keep.of_wr W23).1
    have Fw23 := f22_10.same W23
    have N23 := Fr.snoc X23 N22 g_o
    refine own_pre st23 ?_
    show OwnGoes p e below _ (T23.setTop (mkF m 78 #[.val (.ref o), .val (.long q1), .second, .val (.long (0 : Int64)), .second, .val (.int (0 : Int32)), .val (.int k), .val (.long (0 : Int64)), .second, .val (.int (Int32.ofNat A)), .val (.int (Int32.ofNat (own_K cs.length A)))] []))
    refine own_pre (fun _ kz_ => XS.aloadN X23.here hx rfl (hb hby d7_78) rfl rfl kz_) ?_
    show OwnGoes p e below _ (T23.setTop (mkF m 79 #[.val (.ref o), .val (.long q1), .second, .val (.long (0 : Int64)), .second, .val (.int (0 : Int32)), .val (.int k), .val (.long (0 : Int64)), .second, .val (.int (Int32.ofNat A)), .val (.int (Int32.ofNat (own_K cs.length A)))] [(.ref o)]))
    refine own_pre (fun _ kz_ => XS.aloadN X23.here hx rfl (hb hby d7_79) rfl rfl kz_) ?_
    show OwnGoes p e below _ (T23.setTop (mkF m 80 #[.val (.ref o), .val (.long q1), .second, .val (.long (0 : Int64)), .second, .val (.int (0 : Int32)), .val (.int k), .val (.long (0 : Int64)), .second, .val (.int (Int32.ofNat A)), .val (.int (Int32.ofNat (own_K cs.length A)))] [(.ref o), (.ref o)]))
    obtain ⟨T24, X24, e24, st24⟩ := getF X23 hx hZ hown (host := "") (Or.inl (hw _ (List.mem_of_getElem? (i := 18) rfl))) Via.refl e23 f23_10 (g := (mkF m 80 #[.val (.ref o), .val (.long q1), .second, .val (.long (0 : Int64)), .second, .val (.int (0 : Int32)), .val (.int k), .val (.long (0 : Int64)), .second, .val (.int (Int32.ofNat A)), .val (.int (Int32.ofNat (own_K cs.length A)))] [(.ref o), (.ref o)])) rfl rfl (hb hby d7_80)
    refine own_pre st24 ?_
    show OwnGoes p e below _ (T24.setTop (mkF m 83 #[.val (.ref o), .val (.long q1), .second, .val (.long (0 : Int64)), .second, .val (.int (0 : Int32)), .val (.int k), .val (.long (0 : Int64)), .second, .val (.int (Int32.ofNat A)), .val (.int (Int32.ofNat (own_K cs.length A)))] [(.ref av), (.ref o)]))
    refine own_pre (fun _ kz_ => XS.iload X24.here hx rfl (hb hby d7_83) rfl kz_) ?_
    show OwnGoes p e below _ (T24.setTop (mkF m 85 #[.val (.ref o), .val (.long q1), .second, .val (.long (0 : Int64)), .second, .val (.int (0 : Int32)), .val (.int k), .val (.long (0 : Int64)), .second, .val (.int (Int32.ofNat A)), .val (.int (Int32.ofNat (own_K cs.length A)))] [(.int (Int32.ofNat (own_K cs.length A))), (.ref av), (.ref o)]))
    obtain ⟨_, _, ⟨T25, L25, k25, n25⟩, -, X25, ⟨Lc25, hQ25, l25, y25, z25⟩, st25⟩ := Jvm.LawKit.callS X24 hx (y := (⟨"java/util/Arrays", "copyOf", "([JI)[J"⟩ : MethodName)) hown (mvT hZ (hw _ (List.mem_of_getElem? (i := 73) rfl))) (mvT hZ (hw _ (List.mem_of_getElem? (i := 74) rfl))) (mvT hZ (hw _ (List.mem_of_getElem? (i := 75) rfl))) (mvT hZ (hw _ (List.mem_of_getElem? (i := 76) rfl))) (by decide) (backOf (W := 1) (rmCpJ l Z a0 hw [] av (Int32.ofNat (own_K cs.length A)) (vv.map .long) (own_K cs.length A) h23 n0 Z23 f23_7 rfl hcap (by rw [List.length_map, lv]; exact hgrow) (own_fitJ _)) hZ (hw _ (List.mem_of_getElem? (i := 76) rfl)) (hw _ (List.mem_of_getElem? (i := 75) rfl)) (by decide) (by decide)) (g := (mkF m 85 #[.val (.ref o), .val (.long q1), .second, .val (.long (0 : Int64)), .second, .val (.int (0 : Int32)), .val (.int k), .val (.long (0 : Int64)), .second, .val (.int (Int32.ofNat A)), .val (.int (Int32.ofNat (own_K cs.length A)))] [(.int (Int32.ofNat (own_K cs.length A))), (.ref av), (.ref o)])) rfl (by rw [hml]; rfl) (argsL := [(.ref av), (.int (Int32.ofNat (own_K cs.length A)))]) (rest := [(.ref o)]) (lenOf (d := "([JI)[J") (ps := [(.array .long), .int]) (r := some (.array .long)) (by decide +kernel) rfl) rfl (by show 2 * 0 + _ ≤ _; exact Nat.le_of_eq rfl) (hb hby d7_85) (fun _ _ => ⟨rfl, e24, (by decide : 3 + 1 ≤ _), (by decide : 12288 + 4096 ≤ _)⟩)
    dsimp only [Pt.U, Pt.locs, Pt.cells, Pt.slots] at X25 l25 y25 z25 st25 hQ25
    subst l25 y25 z25
    obtain ⟨rv, rfl, N25q, K25q, G25q, V25q⟩ := hQ25
    have N25 := Fr.app N23 N25q
    refine own_pre st25 ?_
    have ne_av_rv : av ≠ rv := Nat.ne_of_lt (Nat.lt_of_lt_of_le f23_7.lt G25q)
    have ne_rl_rv : rl ≠ rv := Nat.ne_of_lt (Nat.lt_of_lt_of_le f23_2.lt G25q)
    have ne_rp_rv : rp ≠ rv := Nat.ne_of_lt (Nat.lt_of_lt_of_le f23_3.lt G25q)
    have ne_rc_rv : rc ≠ rv := Nat.ne_of_lt (Nat.lt_of_lt_of_le f23_1.lt G25q)
    have ne_ab_rv : ab ≠ rv := Nat.ne_of_lt (Nat.lt_of_lt_of_le f23_6.lt G25q)
    have ne_o_rv : o ≠ rv := Nat.ne_of_lt (Nat.lt_of_lt_of_le f23_14.lt G25q)
    have g_rv : n0 ≤ rv := Nat.le_trans Z23 G25q
    have sz_rv : h0.size ≤ rv := Nat.le_trans (K23).1 G25q
    have f25_13 := f23_14.keep K25q
    have f25_12 := f23_13.keep K25q (List.not_mem_nil)
    have f25_11 := f23_12.keep K25q (List.not_mem_nil)
    have f25_10 := Fw23.keep K25q (List.not_mem_nil)
    have f25_9 := f23_10.keep K25q (List.not_mem_nil)
    have f25_8 := f23_9.keep K25q (List.not_mem_nil)
    have f25_7 := f23_7.keep K25q (List.not_mem_nil)
    have f25_6 := f23_6.keep K25q
    have f25_5 := f23_5.keep K25q (List.not_mem_nil)
    have f25_4 := f23_4.keep K25q (fun x hx => by cases hx)
    have f25_3 := f23_3.keep K25q (List.not_mem_nil)
    have f25_2 := f23_2.keep K25q (List.not_mem_nil)
    have f25_1 := f23_1.keep K25q (List.not_mem_nil)
    have Z25 := Nat.le_trans Z23 K25q.1
    have KK25 := (K23).trans K25q (fun x hx => by cases hx)
    have V25m := own_mapJ V25q
    show OwnGoes p e below _ (T25.setTop (mkF m 88 #[.val (.ref o), .val (.long q1), .second, .val (.long (0 : Int64)), .second, .val (.int (0 : Int32)), .val (.int k), .val (.long (0 : Int64)), .second, .val (.int (Int32.ofNat A)), .val (.int (Int32.ofNat (own_K cs.length A)))] [(.ref rv), (.ref o)]))
    obtain ⟨T26, h26, X26, e26, W26, st26⟩ := putF X25 hx hZ hown (host := "") (Or.inl (hw _ (List.mem_of_getElem? (i := 18) rfl))) Via.refl rfl f25_9 f25_13 (Or.inl (hw _ (List.mem_of_getElem? (i := 19) rfl))) (hw _ (List.mem_of_getElem? (i := 2) rfl)) (ty := (.array .long)) (by decide) rfl rfl (g := (mkF m 88 #[.val (.ref o), .val (.long q1), .second, .val (.long (0 : Int64)), .second, .val (.int (0 : Int32)), .val (.int k), .val (.long (0 : Int64)), .second, .val (.int (Int32.ofNat A)), .val (.int (Int32.ofNat (own_K cs.length A)))] [(.ref rv), (.ref o)])) rfl rfl (hb hby d7_88)
    have f26_14 := f25_13.wr W26
    have f26_13 := f25_12.other W26 (Or.inr (slot_ne (Or.inl (hw _ (List.mem_of_getElem? (i := 12) rfl))) (Or.inl (hw _ (List.mem_of_getElem? (i := 19) rfl))) (by decide) (t := (.array .long)) (t' := (.array .long)) (by decide) (by decide)))
    have f26_12 := f25_11.other W26 (Or.inr (slot_ne (Or.inl (hw _ (List.mem_of_getElem? (i := 15) rfl))) (Or.inl (hw _ (List.mem_of_getElem? (i := 19) rfl))) (by decide) (t := (.array .int)) (t' := (.array .long)) (by decide) (by decide)))
    have f26_11 := f25_10.other W26 (Or.inr (slot_ne (Or.inl (hw _ (List.mem_of_getElem? (i := 17) rfl))) (Or.inl (hw _ (List.mem_of_getElem? (i := 19) rfl))) (by decide) (t := (.array .int)) (t' := (.array .long)) (by decide) (by decide)))
    have f26_9 := f25_8.other W26 (Or.inr (slot_ne (Or.inr (hw _ (List.mem_of_getElem? (i := 42) rfl))) (Or.inl (hw _ (List.mem_of_getElem? (i := 19) rfl))) (by decide) (t := (.object "java/util/BitSet")) (t' := (.array .long)) (by decide) (by decide)))
    have f26_8 := f25_7.other W26 (Ne.symm n4)
    have f26_7 := f25_6.wr W26
    have f26_6 := f25_5.other W26 (Or.inl (Ne.symm n5))
    have f26_5 := f25_4.wr W26
    have f26_4 := f25_3.other W26 (Ne.symm ne_o_rp)
    have f26_3 := f25_2.other W26 (Ne.symm ne_o_rl)
    have f26_2 := f25_1.other W26 (Ne.symm ne_o_rc)
    have f26_1 := V25m.other W26 (Ne.symm ne_o_rv)
    have K26 := (KK25).wr W26 (Or.inl (List.mem_of_getElem? (i := 0) rfl))
    have Z26 := Nat.le_trans Z25 (Keep.of_wr W26).1
    have Fw26 := f25_9.same W26
    have N26 := Fr.snoc X26 N25 g_o
    refine own_pre st26 ?_
    show OwnGoes p e below _ (T26.setTop (mkF m 91 #[.val (.ref o), .val (.long q1), .second, .val (.long (0 : Int64)), .second, .val (.int (0 : Int32)), .val (.int k), .val (.long (0 : Int64)), .second, .val (.int (Int32.ofNat A)), .val (.int (Int32.ofNat (own_K cs.length A)))] []))
    refine own_pre (fun _ kz_ => XS.aloadN X26.here hx rfl (hb hby d7_91) rfl rfl kz_) ?_
    show OwnGoes p e below _ (T26.setTop (mkF m 92 #[.val (.ref o), .val (.long q1), .second, .val (.long (0 : Int64)), .second, .val (.int (0 : Int32)), .val (.int k), .val (.long (0 : Int64)), .second, .val (.int (Int32.ofNat A)), .val (.int (Int32.ofNat (own_K cs.length A)))] [(.ref o)]))
    obtain ⟨T27, X27, e27, st27⟩ := getF X26 hx hZ hown (host := "") (Or.inl (hw _ (List.mem_of_getElem? (i := 11) rfl))) Via.refl e26 f26_13 (g := (mkF m 92 #[.val (.ref o), .val (.long q1), .second, .val (.long (0 : Int64)), .second, .val (.int (0 : Int32)), .val (.int k), .val (.long (0 : Int64)), .second, .val (.int (Int32.ofNat A)), .val (.int (Int32.ofNat (own_K cs.length A)))] [(.ref o)])) rfl rfl (hb hby d7_92)
    refine own_pre st27 ?_
    show OwnGoes p e below _ (T27.setTop (mkF m 95 #[.val (.ref o), .val (.long q1), .second, .val (.long (0 : Int64)), .second, .val (.int (0 : Int32)), .val (.int k), .val (.long (0 : Int64)), .second, .val (.int (Int32.ofNat A)), .val (.int (Int32.ofNat (own_K cs.length A)))] [(.ref rp)]))
    refine own_pre (fun _ kz_ => XS.iload X27.here hx rfl (hb hby d7_95) rfl kz_) ?_
    show OwnGoes p e below _ (T27.setTop (mkF m 97 #[.val (.ref o), .val (.long q1), .second, .val (.long (0 : Int64)), .second, .val (.int (0 : Int32)), .val (.int k), .val (.long (0 : Int64)), .second, .val (.int (Int32.ofNat A)), .val (.int (Int32.ofNat (own_K cs.length A)))] [(.int (Int32.ofNat A)), (.ref rp)]))
    refine own_pre (fun _ kz_ => XS.lloadN X27.here hx rfl (hb hby d7_97) rfl kz_) ?_
    show OwnGoes p e below _ (T27.setTop (mkF m 98 #[.val (.ref o), .val (.long q1), .second, .val (.long (0 : Int64)), .second, .val (.int (0 : Int32)), .val (.int k), .val (.long (0 : Int64)), .second, .val (.int (Int32.ofNat A)), .val (.int (Int32.ofNat (own_K cs.length A)))] [(.long (0 : Int64)), (.int (Int32.ofNat A)), (.ref rp)]))
    obtain ⟨T28, h28, X28, e28, W28, V28, st28⟩ := own_jst X27 hx hZ e27 f26_4 (j := (Int32.ofNat A)) hat0 (by rw [XT.n32 (by omega), List.length_map]; first | omega | (simp only [List.length_append, List.length_replicate]; omega)) (g := (mkF m 98 #[.val (.ref o), .val (.long q1), .second, .val (.long (0 : Int64)), .second, .val (.int (0 : Int32)), .val (.int k), .val (.long (0 : Int64)), .second, .val (.int (Int32.ofNat A)), .val (.int (Int32.ofNat (own_K cs.length A)))] [(.long (0 : Int64)), (.int (Int32.ofNat A)), (.ref rp)])) rfl rfl (hb hby d7_98)
    have f28_14 := f26_14.wr W28
    have f28_13 := f26_13.other W28 (Or.inl ne_o_rp)
    have f28_12 := f26_12.other W28 (Or.inl ne_o_rp)
    have f28_11 := f26_11.other W28 (Or.inl ne_o_rp)
    have f28_10 := Fw26.other W28 (Or.inl ne_o_rp)
    have f28_9 := f26_9.other W28 (Or.inl ne_o_rp)
    have f28_8 := f26_8.other W28 ne_av_rp
    have f28_7 := f26_7.wr W28
    have f28_6 := f26_6.other W28 (Or.inl ne_ab_rp)
    have f28_5 := f26_5.wr W28
    have f28_3 := f26_3.other W28 (Ne.symm ne_rp_rl)
    have f28_2 := f26_2.other W28 (Ne.symm ne_rp_rc)
    have f28_1 := f26_1.other W28 (Ne.symm ne_rp_rv)
    have K28 := (K26).wr W28 (Or.inr sz_rp)
    have Z28 := Nat.le_trans Z26 (Keep.of_wr W28).1
    have N28 := Fr.snoc X28 N26 g_rp
    refine own_pre st28 ?_
    show OwnGoes p e below _ (T28.setTop (mkF m 99 #[.val (.ref o), .val (.long q1), .second, .val (.long (0 : Int64)), .second, .val (.int (0 : Int32)), .val (.int k), .val (.long (0 : Int64)), .second, .val (.int (Int32.ofNat A)), .val (.int (Int32.ofNat (own_K cs.length A)))] []))
    refine own_pre (fun _ kz_ => XS.aloadN X28.here hx rfl (hb hby d7_99) rfl rfl kz_) ?_
    show OwnGoes p e below _ (T28.setTop (mkF m 100 #[.val (.ref o), .val (.long q1), .second, .val (.long (0 : Int64)), .second, .val (.int (0 : Int32)), .val (.int k), .val (.long (0 : Int64)), .second, .val (.int (Int32.ofNat A)), .val (.int (Int32.ofNat (own_K cs.length A)))] [(.ref o)]))
    obtain ⟨T29, X29, e29, st29⟩ := getF X28 hx hZ hown (host := "") (Or.inl (hw _ (List.mem_of_getElem? (i := 14) rfl))) Via.refl e28 f28_12 (g := (mkF m 100 #[.val (.ref o), .val (.long q1), .second, .val (.long (0 : Int64)), .second, .val (.int (0 : Int32)), .val (.int k), .val (.long (0 : Int64)), .second, .val (.int (Int32.ofNat A)), .val (.int (Int32.ofNat (own_K cs.length A)))] [(.ref o)])) rfl rfl (hb hby d7_100)
    refine own_pre st29 ?_
    show OwnGoes p e below _ (T29.setTop (mkF m 103 #[.val (.ref o), .val (.long q1), .second, .val (.long (0 : Int64)), .second, .val (.int (0 : Int32)), .val (.int k), .val (.long (0 : Int64)), .second, .val (.int (Int32.ofNat A)), .val (.int (Int32.ofNat (own_K cs.length A)))] [(.ref rl)]))
    refine own_pre (fun _ kz_ => XS.iload X29.here hx rfl (hb hby d7_103) rfl kz_) ?_
    show OwnGoes p e below _ (T29.setTop (mkF m 105 #[.val (.ref o), .val (.long q1), .second, .val (.long (0 : Int64)), .second, .val (.int (0 : Int32)), .val (.int k), .val (.long (0 : Int64)), .second, .val (.int (Int32.ofNat A)), .val (.int (Int32.ofNat (own_K cs.length A)))] [(.int (Int32.ofNat A)), (.ref rl)]))
    refine own_pre (fun _ kz_ => XS.iload X29.here hx rfl (hb hby d7_105) rfl kz_) ?_
    show OwnGoes p e below _ (T29.setTop (mkF m 107 #[.val (.ref o), .val (.long q1), .second, .val (.long (0 : Int64)), .second, .val (.int (0 : Int32)), .val (.int k), .val (.long (0 : Int64)), .second, .val (.int (Int32.ofNat A)), .val (.int (Int32.ofNat (own_K cs.length A)))] [(.int (0 : Int32)), (.int (Int32.ofNat A)), (.ref rl)]))
    obtain ⟨T30, h30, X30, e30, W30, V30, st30⟩ := own_ist X29 hx hZ e29 f28_3 (j := (Int32.ofNat A)) hat0 (by rw [XT.n32 (by omega), List.length_map]; first | omega | (simp only [List.length_append, List.length_replicate]; omega)) (g := (mkF m 107 #[.val (.ref o), .val (.long q1), .second, .val (.long (0 : Int64)), .second, .val (.int (0 : Int32)), .val (.int k), .val (.long (0 : Int64)), .second, .val (.int (Int32.ofNat A)), .val (.int (Int32.ofNat (own_K cs.length A)))] [(.int (0 : Int32)), (.int (Int32.ofNat A)), (.ref rl)])) rfl rfl (hb hby d7_107)
    have f30_14 := f28_14.wr W30
    have f30_13 := f28_13.other W30 (Or.inl ne_o_rl)
    have f30_12 := f28_12.other W30 (Or.inl ne_o_rl)
    have f30_11 := f28_11.other W30 (Or.inl ne_o_rl)
    have f30_10 := f28_10.other W30 (Or.inl ne_o_rl)
    have f30_9 := f28_9.other W30 (Or.inl ne_o_rl)
    have f30_8 := f28_8.other W30 ne_av_rl
    have f30_7 := f28_7.wr W30
    have f30_6 := f28_6.other W30 (Or.inl ne_ab_rl)
    have f30_5 := f28_5.wr W30
    have f30_4 := V28.other W30 ne_rp_rl
    have f30_2 := f28_2.other W30 (Ne.symm ne_rl_rc)
    have f30_1 := f28_1.other W30 (Ne.symm ne_rl_rv)
    have K30 := (K28).wr W30 (Or.inr sz_rl)
    have Z30 := Nat.le_trans Z28 (Keep.of_wr W30).1
    have N30 := Fr.snoc X30 N28 g_rl
    refine own_pre st30 ?_
    show OwnGoes p e below _ (T30.setTop (mkF m 108 #[.val (.ref o), .val (.long q1), .second, .val (.long (0 : Int64)), .second, .val (.int (0 : Int32)), .val (.int k), .val (.long (0 : Int64)), .second, .val (.int (Int32.ofNat A)), .val (.int (Int32.ofNat (own_K cs.length A)))] []))
    refine own_pre (fun _ kz_ => XS.aloadN X30.here hx rfl (hb hby d7_108) rfl rfl kz_) ?_
    show OwnGoes p e below _ (T30.setTop (mkF m 109 #[.val (.ref o), .val (.long q1), .second, .val (.long (0 : Int64)), .second, .val (.int (0 : Int32)), .val (.int k), .val (.long (0 : Int64)), .second, .val (.int (Int32.ofNat A)), .val (.int (Int32.ofNat (own_K cs.length A)))] [(.ref o)]))
    obtain ⟨T31, X31, e31, st31⟩ := getF X30 hx hZ hown (host := "") (Or.inl (hw _ (List.mem_of_getElem? (i := 16) rfl))) Via.refl e30 f30_11 (g := (mkF m 109 #[.val (.ref o), .val (.long q1), .second, .val (.long (0 : Int64)), .second, .val (.int (0 : Int32)), .val (.int k), .val (.long (0 : Int64)), .second, .val (.int (Int32.ofNat A)), .val (.int (Int32.ofNat (own_K cs.length A)))] [(.ref o)])) rfl rfl (hb hby d7_109)
    refine own_pre st31 ?_
    show OwnGoes p e below _ (T31.setTop (mkF m 112 #[.val (.ref o), .val (.long q1), .second, .val (.long (0 : Int64)), .second, .val (.int (0 : Int32)), .val (.int k), .val (.long (0 : Int64)), .second, .val (.int (Int32.ofNat A)), .val (.int (Int32.ofNat (own_K cs.length A)))] [(.ref rc)]))
    refine own_pre (fun _ kz_ => XS.iload X31.here hx rfl (hb hby d7_112) rfl kz_) ?_
    show OwnGoes p e below _ (T31.setTop (mkF m 114 #[.val (.ref o), .val (.long q1), .second, .val (.long (0 : Int64)), .second, .val (.int (0 : Int32)), .val (.int k), .val (.long (0 : Int64)), .second, .val (.int (Int32.ofNat A)), .val (.int (Int32.ofNat (own_K cs.length A)))] [(.int (Int32.ofNat A)), (.ref rc)]))
    refine own_pre (fun _ kz_ => XS.iload X31.here hx rfl (hb hby d7_114) rfl kz_) ?_
    show OwnGoes p e below _ (T31.setTop (mkF m 116 #[.val (.ref o), .val (.long q1), .second, .val (.long (0 : Int64)), .second, .val (.int (0 : Int32)), .val (.int k), .val (.long (0 : Int64)), .second, .val (.int (Int32.ofNat A)), .val (.int (Int32.ofNat (own_K cs.length A)))] [(.int k), (.int (Int32.ofNat A)), (.ref rc)]))
    refine own_pre (fun _ kz_ => XS.iconst X31.here hx rfl (hb hby d7_116) kz_) ?_
    show OwnGoes p e below _ (T31.setTop (mkF m 117 #[.val (.ref o), .val (.long q1), .second, .val (.long (0 : Int64)), .second, .val (.int (0 : Int32)), .val (.int k), .val (.long (0 : Int64)), .second, .val (.int (Int32.ofNat A)), .val (.int (Int32.ofNat (own_K cs.length A)))] [(.int (1 : Int32)), (.int k), (.int (Int32.ofNat A)), (.ref rc)]))
    refine own_pre (fun _ kz_ => XS.iadd X31.here hx rfl (hb hby d7_117) rfl kz_) ?_
    show OwnGoes p e below _ (T31.setTop (mkF m 118 #[.val (.ref o), .val (.long q1), .second, .val (.long (0 : Int64)), .second, .val (.int (0 : Int32)), .val (.int k), .val (.long (0 : Int64)), .second, .val (.int (Int32.ofNat A)), .val (.int (Int32.ofNat (own_K cs.length A)))] [(.int (k + (1 : Int32))), (.int (Int32.ofNat A)), (.ref rc)]))
    obtain ⟨T32, h32, X32, e32, W32, V32, st32⟩ := own_ist X31 hx hZ e31 f30_2 (j := (Int32.ofNat A)) hat0 (by rw [XT.n32 (by omega), List.length_map]; first | omega | (simp only [List.length_append, List.length_replicate]; omega)) (g := (mkF m 118 #[.val (.ref o), .val (.long q1), .second, .val (.long (0 : Int64)), .second, .val (.int (0 : Int32)), .val (.int k), .val (.long (0 : Int64)), .second, .val (.int (Int32.ofNat A)), .val (.int (Int32.ofNat (own_K cs.length A)))] [(.int (k + (1 : Int32))), (.int (Int32.ofNat A)), (.ref rc)])) rfl rfl (hb hby d7_118)
    have f32_14 := f30_14.wr W32
    have f32_13 := f30_13.other W32 (Or.inl ne_o_rc)
    have f32_12 := f30_12.other W32 (Or.inl ne_o_rc)
    have f32_11 := f30_11.other W32 (Or.inl ne_o_rc)
    have f32_10 := f30_10.other W32 (Or.inl ne_o_rc)
    have f32_9 := f30_9.other W32 (Or.inl ne_o_rc)
    have f32_8 := f30_8.other W32 ne_av_rc
    have f32_7 := f30_7.wr W32
    have f32_6 := f30_6.other W32 (Or.inl ne_ab_rc)
    have f32_5 := f30_5.wr W32
    have f32_4 := f30_4.other W32 ne_rp_rc
    have f32_3 := V30.other W32 ne_rl_rc
    have f32_1 := f30_1.other W32 (Ne.symm ne_rc_rv)
    have K32 := (K30).wr W32 (Or.inr sz_rc)
    have Z32 := Nat.le_trans Z30 (Keep.of_wr W32).1
    have N32 := Fr.snoc X32 N30 g_rc
    refine own_pre st32 ?_
    show OwnGoes p e below _ (T32.setTop (mkF m 119 #[.val (.ref o), .val (.long q1), .second, .val (.long (0 : Int64)), .second, .val (.int (0 : Int32)), .val (.int k), .val (.long (0 : Int64)), .second, .val (.int (Int32.ofNat A)), .val (.int (Int32.ofNat (own_K cs.length A)))] []))
    refine own_pre (fun _ kz_ => XS.aloadN X32.here hx rfl (hb hby d7_119) rfl rfl kz_) ?_
    show OwnGoes p e below _ (T32.setTop (mkF m 120 #[.val (.ref o), .val (.long q1), .second, .val (.long (0 : Int64)), .second, .val (.int (0 : Int32)), .val (.int k), .val (.long (0 : Int64)), .second, .val (.int (Int32.ofNat A)), .val (.int (Int32.ofNat (own_K cs.length A)))] [(.ref o)]))
    obtain ⟨T33, X33, e33, st33⟩ := getF X32 hx hZ hown (host := "") (Or.inl (hw _ (List.mem_of_getElem? (i := 18) rfl))) Via.refl e32 f32_10 (g := (mkF m 120 #[.val (.ref o), .val (.long q1), .second, .val (.long (0 : Int64)), .second, .val (.int (0 : Int32)), .val (.int k), .val (.long (0 : Int64)), .second, .val (.int (Int32.ofNat A)), .val (.int (Int32.ofNat (own_K cs.length A)))] [(.ref o)])) rfl rfl (hb hby d7_120)
    refine own_pre st33 ?_
    show OwnGoes p e below _ (T33.setTop (mkF m 123 #[.val (.ref o), .val (.long q1), .second, .val (.long (0 : Int64)), .second, .val (.int (0 : Int32)), .val (.int k), .val (.long (0 : Int64)), .second, .val (.int (Int32.ofNat A)), .val (.int (Int32.ofNat (own_K cs.length A)))] [(.ref rv)]))
    refine own_pre (fun _ kz_ => XS.iload X33.here hx rfl (hb hby d7_123) rfl kz_) ?_
    show OwnGoes p e below _ (T33.setTop (mkF m 125 #[.val (.ref o), .val (.long q1), .second, .val (.long (0 : Int64)), .second, .val (.int (0 : Int32)), .val (.int k), .val (.long (0 : Int64)), .second, .val (.int (Int32.ofNat A)), .val (.int (Int32.ofNat (own_K cs.length A)))] [(.int (Int32.ofNat A)), (.ref rv)]))
    refine own_pre (fun _ kz_ => XS.aloadN X33.here hx rfl (hb hby d7_125) rfl rfl kz_) ?_
    show OwnGoes p e below _ (T33.setTop (mkF m 126 #[.val (.ref o), .val (.long q1), .second, .val (.long (0 : Int64)), .second, .val (.int (0 : Int32)), .val (.int k), .val (.long (0 : Int64)), .second, .val (.int (Int32.ofNat A)), .val (.int (Int32.ofNat (own_K cs.length A)))] [(.ref o), (.int (Int32.ofNat A)), (.ref rv)]))
    obtain ⟨T34, X34, e34, st34⟩ := getF X33 hx hZ hown (host := "") (Or.inl (hw _ (List.mem_of_getElem? (i := 41) rfl))) Via.refl e33 f32_9 (g := (mkF m 126 #[.val (.ref o), .val (.long q1), .second, .val (.long (0 : Int64)), .second, .val (.int (0 : Int32)), .val (.int k), .val (.long (0 : Int64)), .second, .val (.int (Int32.ofNat A)), .val (.int (Int32.ofNat (own_K cs.length A)))] [(.ref o), (.int (Int32.ofNat A)), (.ref rv)])) rfl rfl (hb hby d7_126)
    refine own_pre st34 ?_
    show OwnGoes p e below _ (T34.setTop (mkF m 129 #[.val (.ref o), .val (.long q1), .second, .val (.long (0 : Int64)), .second, .val (.int (0 : Int32)), .val (.int k), .val (.long (0 : Int64)), .second, .val (.int (Int32.ofNat A)), .val (.int (Int32.ofNat (own_K cs.length A)))] [(.ref ab), (.int (Int32.ofNat A)), (.ref rv)]))
    refine own_pre (fun _ kz_ => XS.iload X34.here hx rfl (hb hby d7_129) rfl kz_) ?_
    show OwnGoes p e below _ (T34.setTop (mkF m 131 #[.val (.ref o), .val (.long q1), .second, .val (.long (0 : Int64)), .second, .val (.int (0 : Int32)), .val (.int k), .val (.long (0 : Int64)), .second, .val (.int (Int32.ofNat A)), .val (.int (Int32.ofNat (own_K cs.length A)))] [(.int k), (.ref ab), (.int (Int32.ofNat A)), (.ref rv)]))
    obtain ⟨cq35, kq35, q35a, q35b, q35c⟩ := isOf hZ e34 f32_7
    obtain ⟨_, _, ⟨T35, L35, k35, n35⟩, -, X35, ⟨Lc35, hQ35, l35, y35, z35⟩, st35⟩ := X34.virtualBack hx (y := (⟨"java/util/BitSet", "get", "(I)Z"⟩ : MethodName)) (z := (⟨"java/util/BitSet", "get", "(I)Z"⟩ : MethodName)) hown (mvT hZ (hw _ (List.mem_of_getElem? (i := 53) rfl))) (mvT hZ (hw _ (List.mem_of_getElem? (i := 54) rfl))) (notFace_of_selects (args := #[]) (mvT hZ (hw _ (List.mem_of_getElem? (i := 56) rfl)))) (mvT hZ (hw _ (List.mem_of_getElem? (i := 56) rfl))) (mvT hZ (hw _ (List.mem_of_getElem? (i := 55) rfl))) (by decide) (backOf (W := 2) (rmGet l Z a0 hw [] ab k h32 n0 Z32 f32_5 f32_7 f32_6 hk) hZ (hw _ (List.mem_of_getElem? (i := 57) rfl)) (hw _ (List.mem_of_getElem? (i := 22) rfl)) (by decide) (by decide)) q35a q35c (g := (mkF m 131 #[.val (.ref o), .val (.long q1), .second, .val (.long (0 : Int64)), .second, .val (.int (0 : Int32)), .val (.int k), .val (.long (0 : Int64)), .second, .val (.int (Int32.ofNat A)), .val (.int (Int32.ofNat (own_K cs.length A)))] [(.int k), (.ref ab), (.int (Int32.ofNat A)), (.ref rv)])) rfl (by rw [hml]; rfl) (Steps.refl _) (argsL := [(.int k)]) (rest := [(.int (Int32.ofNat A)), (.ref rv)]) (lenOf (d := "(I)Z") (ps := [.int]) (r := some .boolean) (by decide +kernel) rfl) rfl (by show 2 * 0 + _ ≤ _; exact Nat.le_of_eq rfl) (hb hby d7_131) (fun _ _ => ⟨rfl, e34, (by decide : 4 + 0 ≤ _), (by decide : 16384 + 0 ≤ _)⟩)
    dsimp only [Pt.U, Pt.locs, Pt.cells, Pt.slots] at X35 l35 y35 z35 st35 hQ35
    subst l35 y35 z35
    obtain ⟨rfl, N35q, e35⟩ := hQ35
    have N35 := Fr.app N32 N35q
    refine own_tr st35 ?_
    show OwnGoes p e below _ (T35.setTop (mkF m 134 #[.val (.ref o), .val (.long q1), .second, .val (.long (0 : Int64)), .second, .val (.int (0 : Int32)), .val (.int k), .val (.long (0 : Int64)), .second, .val (.int (Int32.ofNat A)), .val (.int (Int32.ofNat (own_K cs.length A)))] [(.int (0 : Int32)), (.int (Int32.ofNat A)), (.ref rv)]))
    refine own_pre (fun _ kz_ => XS.ifYes X35.here hx rfl (pc0 := 134) (pc' := 146) rfl (hb hby d7_134) rfl ((if0 _ _).trans (teq (by decide : (0 : Int32) = (0 : Int32))).1) (by decide) (by decide) kz_) ?_
    show OwnGoes p e below _ (T35.setTop (mkF m 146 #[.val (.ref o), .val (.long q1), .second, .val (.long (0 : Int64)), .second, .val (.int (0 : Int32)), .val (.int k), .val (.long (0 : Int64)), .second, .val (.int (Int32.ofNat A)), .val (.int (Int32.ofNat (own_K cs.length A)))] [(.int (Int32.ofNat A)), (.ref rv)]))
    refine own_pre (fun _ kz_ => XS.lload X35.here hx rfl (hb hby d7_146) rfl kz_) ?_
    show OwnGoes p e below _ (T35.setTop (mkF m 148 #[.val (.ref o), .val (.long q1), .second, .val (.long (0 : Int64)), .second, .val (.int (0 : Int32)), .val (.int k), .val (.long (0 : Int64)), .second, .val (.int (Int32.ofNat A)), .val (.int (Int32.ofNat (own_K cs.length A)))] [(.long (0 : Int64)), (.int (Int32.ofNat A)), (.ref rv)]))
    obtain ⟨T36, h36, X36, e36, W36, V36, st36⟩ := own_jst X35 hx hZ e35 f32_1 (j := (Int32.ofNat A)) hat0 (by rw [XT.n32 (by omega), List.length_map]; first | omega | (simp only [List.length_append, List.length_replicate]; omega)) (g := (mkF m 148 #[.val (.ref o), .val (.long q1), .second, .val (.long (0 : Int64)), .second, .val (.int (0 : Int32)), .val (.int k), .val (.long (0 : Int64)), .second, .val (.int (Int32.ofNat A)), .val (.int (Int32.ofNat (own_K cs.length A)))] [(.long (0 : Int64)), (.int (Int32.ofNat A)), (.ref rv)])) rfl rfl (hb hby d7_148)
    have f36_14 := f32_14.wr W36
    have f36_13 := f32_13.other W36 (Or.inl ne_o_rv)
    have f36_12 := f32_12.other W36 (Or.inl ne_o_rv)
    have f36_11 := f32_11.other W36 (Or.inl ne_o_rv)
    have f36_10 := f32_10.other W36 (Or.inl ne_o_rv)
    have f36_9 := f32_9.other W36 (Or.inl ne_o_rv)
    have f36_8 := f32_8.other W36 ne_av_rv
    have f36_7 := f32_7.wr W36
    have f36_6 := f32_6.other W36 (Or.inl ne_ab_rv)
    have f36_5 := f32_5.wr W36
    have f36_4 := f32_4.other W36 ne_rp_rv
    have f36_3 := f32_3.other W36 ne_rl_rv
    have f36_2 := V32.other W36 ne_rc_rv
    have K36 := (K32).wr W36 (Or.inr sz_rv)
    have Z36 := Nat.le_trans Z32 (Keep.of_wr W36).1
    have N36 := Fr.snoc X36 N35 g_rv
    refine own_pre st36 ?_
    show OwnGoes p e below _ (T36.setTop (mkF m 149 #[.val (.ref o), .val (.long q1), .second, .val (.long (0 : Int64)), .second, .val (.int (0 : Int32)), .val (.int k), .val (.long (0 : Int64)), .second, .val (.int (Int32.ofNat A)), .val (.int (Int32.ofNat (own_K cs.length A)))] []))
    exact own_retV X36 hx Bd.returns Bd.notSynchronized (hb hby d7_149) ⟨rfl, N36, ⟨[o, ap, al, ac, av], by rw [e36]; exact K36, fun x hx => by simp only [List.mem_cons, List.not_mem_nil, or_false] at hx; rcases hx with rfl | rfl | rfl | rfl | rfl <;> assumption⟩, (cs ++ List.replicate (own_K cs.length A - cs.length) 0).set A (k + 1), by rw [e36]; exact ⟨rp, rl, rc, rv, ab, (vp ++ List.replicate (own_K cs.length A - vp.length) 0).set A 0, (vl ++ List.replicate (own_K cs.length A - vl.length) 0).set A 0, (vv ++ List.replicate (own_K cs.length A - vv.length) 0).set A 0, f36_14, f36_13, f36_12, f36_11, f36_10, f36_9, (by have q := own_setJ f36_4; rw [XT.n32 (by omega)] at q; exact q), (by have q := own_setI f36_3; rw [XT.n32 (by omega)] at q; exact q), (by have q := own_setI f36_2; rw [XT.n32 (by omega)] at q; exact q), (by have q := own_setJ V36; rw [XT.n32 (by omega)] at q; exact q), (by simp only [List.length_set, List.length_append, List.length_replicate]; omega), (by simp only [List.length_set, List.length_append, List.length_replicate]; omega), (by simp only [List.length_set, List.length_append, List.length_replicate]; omega), f36_7, f36_6, g_o, g_rp, g_rl, g_rc, g_rv, ne_o_rp, ne_o_rl, ne_o_rc, ne_o_rv, n5, ne_rp_rl, ne_rp_rc, ne_rp_rv, (Ne.symm ne_ab_rp), ne_rl_rc, ne_rl_rv, (Ne.symm ne_ab_rl), ne_rc_rv, (Ne.symm ne_ab_rc), (Ne.symm ne_ab_rv)⟩, (by simp only [List.length_set, List.length_append, List.length_replicate]; omega), (by simp only [List.length_set, List.length_append, List.length_replicate]; omega), (by simp only [List.length_set, List.length_append, List.length_replicate]; omega), fun i => own_get (by simp only [List.length_append, List.length_replicate]; omega)⟩ (by decide) (by decide)

theorem own_rep0 (i : Nat) : (List.replicate 1024 (0 : Int32)).getD i 0 = 0 := by
  rw [List.getD_eq_getElem?_getD, List.getElem?_replicate]
  by_cases h : i < 1024 <;> simp [h]
theorem own_cls0 (q : Int64) : (-1 : Int32) = own_cls (List.replicate 1024 (0 : Int32)) q := by
  unfold own_cls
  rw [own_rep0]
  split <;> decide
theorem own_oid (p : Int32) : ∃ A : Nat, 1 ≤ A ∧ A ≤ 2048 ∧ (1 : Int64) + (p &&& (2047 : Int32)).toInt64 = Int64.ofNat A := by
  have h1 := c_mask p 2047 11 (by decide) (by decide)
  have h2 := c_ladd 1 (p &&& (2047 : Int32)).toInt64
  rw [Int32.toInt_toInt64] at h2
  have h3 := rng64 ((1 : Int64) + (p &&& (2047 : Int32)).toInt64)
  have e1 : (1 : Int64).toInt = 1 := rfl
  rw [e1] at h2
  have h4 : ((1 : Int64) + (p &&& (2047 : Int32)).toInt64).toInt = 1 + (p &&& (2047 : Int32)).toInt := by omega
  refine ⟨((1 : Int64) + (p &&& (2047 : Int32)).toInt64).toInt.toNat, by omega, by omega, ?_⟩
  apply Int64.toInt_inj.mp
  rw [Int64.toInt_ofNat_of_lt (by omega)]
  omega
theorem own_and31 (p : Int32) : ¬ (p &&& (2147483647 : Int32)) < (0 : Int32) := by
  rw [Int32.lt_iff_toInt_lt, c_mask p 2147483647 31 (by decide) (by decide)]
  show ¬ p.toInt % _ < 0
  omega
theorem own_nat {A : Nat} (h : A ≤ 2048) : (Int64.ofNat A).toInt = A := Int64.toInt_ofNat_of_lt (by omega)
section Res
variable {cs1 cs2 : List Int32} {A B : Nat} {k1 k2 : Int32} {q : Int64}
theorem own_m1 (k : Int32) : k + 1 - 1 = k := Int32.add_sub_cancel k 1
theorem own_x1 (hB1 : 1 ≤ B) (hB2 : B ≤ 2048) (g2 : ∀ i, cs2.getD i 0 = if i = B then k2 + 1 else cs1.getD i 0) (h : q = Int64.ofNat B) : k2 = own_cls cs2 q := by
  subst h
  unfold own_cls
  rw [if_pos (by rw [Int64.lt_iff_toInt_lt, own_nat hB2]; show (0 : Int) < B; omega), own_nat hB2, g2, if_pos (by omega), own_m1]
theorem own_x2 (hA1 : 1 ≤ A) (hA2 : A ≤ 2048) (g1 : ∀ i, cs1.getD i 0 = if i = A then k1 + 1 else (List.replicate 1024 (0 : Int32)).getD i 0) (g2 : ∀ i, cs2.getD i 0 = if i = B then k2 + 1 else cs1.getD i 0) (h1 : ¬ q = Int64.ofNat B) (h : q = Int64.ofNat A) : k1 = own_cls cs2 q := by
  subst h
  have hne : ¬ A = B := fun e => h1 (by rw [e])
  unfold own_cls
  rw [if_pos (by rw [Int64.lt_iff_toInt_lt, own_nat hA2]; show (0 : Int) < A; omega), own_nat hA2, g2, if_neg (by omega), g1, if_pos (by omega), own_m1]
theorem own_x3 (hA2 : A ≤ 2048) (hB2 : B ≤ 2048) (g1 : ∀ i, cs1.getD i 0 = if i = A then k1 + 1 else (List.replicate 1024 (0 : Int32)).getD i 0) (g2 : ∀ i, cs2.getD i 0 = if i = B then k2 + 1 else cs1.getD i 0) (h1 : ¬ q = Int64.ofNat B) (h2 : ¬ q = Int64.ofNat A) : (-1 : Int32) = own_cls cs2 q := by
  unfold own_cls
  by_cases h : (0 : Int64) < q
  · rw [if_pos h]
    rw [Int64.lt_iff_toInt_lt] at h
    have e0 : (0 : Int64).toInt = 0 := rfl
    have hB : ¬ q.toInt.toNat = B := fun e => h1 (Int64.toInt_inj.mp (by rw [own_nat hB2]; omega))
    have hA : ¬ q.toInt.toNat = A := fun e => h2 (Int64.toInt_inj.mp (by rw [own_nat hA2]; omega))
    rw [g2, if_neg hB, g1, if_neg hA, own_rep0]; decide
  · rw [if_neg h]
end Res

def Q0  (h0 : Heap) (n0 : Nat) (v : Option Value) (h : Heap) (L : List Loc) : Prop := v = some (.int (1 : Int32)) ∧ Fr n0 L
set_option maxRecDepth 65536 in
set_option maxHeartbeats 40000000 in
theorem rm0 (l : Launch) (Z : State) (a0 : Array Value) (hw : ∀ d ∈ tables_1, d.before a0 Z = true) (ws : List Jvm.Cond) (p0 p1 p2 p3 : Int32) (q4 : Int64) (p5 : Int32) (h0 : Heap) (n0 : Nat) (Z0 : n0 ≤ h0.size) (TS : OwnS Z n0 h0 "java/util/BitSet" "$assertionsDisabled" "Z" (.int (1 : Int32))) :
    MetFree l x (head1 (Jvm.Cond.code x code maxLocals ret :: ws) room_1) (fun a U => a = #[(.int p0), (.int p1), (.int p2), (.int p3), (.long q4), (.int p5)] ∧ Z.Warmed39 U.vm ∧ U.heap = h0) (fun _ _ _ _ _ => True) (fun _ Uw_ ow_ Ue_ => ∃ vw_ Lw_, ow_ = .returned vw_ ∧ Q0 h0 n0 vw_ Ue_.heap Lw_ ∧ FrameEnd Uw_ ow_ Ue_ Lw_ room_1.cells room_1.slots) := by
  refine MetFree.of_bodySF (plainFor_of_name (by first | (simp [plainName, overriddenIn]; done) | decide +kernel)) hisR ?_
  intro p e s m args below meth c s₁ Bd hml0 hP hK
  obtain ⟨rfl, hZ, hh⟩ := hP
  have hx := Bd.exec
  have hby := Bd.bytes
  have hml : c.maxLocals = 20 := hml0
  have hown : s.vm.findClass "com/example/holdfast/holdfast/store/ObjectIndexClassIdPinLaw" = some m.cls := findClass_of_methodNamed Bd.named
  have hnm := (name_of_methodNamed Bd.named Bd.method).1
  have X0 : Stand p l e room_1 s m #[(.int p0), (.int p1), (.int p2), (.int p3), (.long q4), (.int p5)] below meth c s₁ [] 0 0 := Stand.of_body Bd
  have e0 : s₁.heap = h0 := by rw [← hh, Bd.state]; rfl
  have N0 := Fr.nil n0
  have ef : entryFrame m #[(.int p0), (.int p1), (.int p2), (.int p3), (.long q4), (.int p5)] maxLocals = (mkF m 0 #[.val (.int p0), .val (.int p1), .val (.int p2), .val (.int p3), .val (.long q4), .second, .val (.int p5), .unset, .unset, .unset, .unset, .unset, .unset, .unset, .unset, .unset, .unset, .unset, .unset, .unset] []) := by first | (simp [entryFrame, mkF, argsToLocals, Value.category, maxLocals]; done) | rfl
  show OwnGoes p e below (fun ow_ Ue_ => ∃ vw_ Lw_, ow_ = .returned vw_ ∧ Q0 h0 n0 vw_ Ue_.heap Lw_ ∧ FrameEnd s ow_ Ue_ Lw_ room_1.cells room_1.slots) (s₁.setTop (entryFrame m #[(.int p0), (.int p1), (.int p2), (.int p3), (.long q4), (.int p5)] maxLocals))
  refine own_pre (fun t k => castTop ef k) ?_
  obtain ⟨A, hA1, hA2, hA⟩ := own_oid p2
  obtain ⟨B, hB1, hB2, hB⟩ := own_oid p3
  obtain ⟨k1, hk1e⟩ : ∃ z, z = p0 &&& (2147483647 : Int32) := ⟨_, rfl⟩
  obtain ⟨k2, hk2e⟩ : ∃ z, z = p1 &&& (2147483647 : Int32) := ⟨_, rfl⟩
  have hk1 : ¬ k1 < (0 : Int32) := by rw [hk1e]; exact own_and31 p0
  have hk2 : ¬ k2 < (0 : Int32) := by rw [hk2e]; exact own_and31 p1
  have J76 : ∀ qq : Int64, OwnGoes p e below (fun ow_ Ue_ => ∃ vw_ Lw_, ow_ = .returned vw_ ∧ Q0 h0 n0 vw_ Ue_.heap Lw_ ∧ FrameEnd s ow_ Ue_ Lw_ room_1.cells room_1.slots) (s₁.setTop (mkF m 76 #[.val (.int p0), .val (.int p1), .val (.int p2), .val (.int p3), .val (.long q4), .second, .val (.int p5), .val (.int k1), .val (.int k2), .val (.long (Int64.ofNat A)), .second, .val (.long (Int64.ofNat B)), .second, .val (.int (p5 &&& (3 : Int32))), .unset, .unset, .unset, .unset, .unset, .unset] [(.long qq)])) := by
    intro qq
    show OwnGoes p e below _ (s₁.setTop (mkF m 76 #[.val (.int p0), .val (.int p1), .val (.int p2), .val (.int p3), .val (.long q4), .second, .val (.int p5), .val (.int k1), .val (.int k2), .val (.long (Int64.ofNat A)), .second, .val (.long (Int64.ofNat B)), .second, .val (.int (p5 &&& (3 : Int32))), .unset, .unset, .unset, .unset, .unset, .unset] [(.long qq)]))
    refine own_pre (fun _ kz_ => XS.lstore X0.here hx rfl (hb hby at_76) rfl (l' := #[.val (.int p0), .val (.int p1), .val (.int p2), .val (.int p3), .val (.long q4), .second, .val (.int p5), .val (.int k1), .val (.int k2), .val (.long (Int64.ofNat A)), .second, .val (.long (Int64.ofNat B)), .second, .val (.int (p5 &&& (3 : Int32))), .val (.long qq), .second, .unset, .unset, .unset, .unset]) rfl kz_) ?_
    show OwnGoes p e below _ (s₁.setTop (mkF m 78 #[.val (.int p0), .val (.int p1), .val (.int p2), .val (.int p3), .val (.long q4), .second, .val (.int p5), .val (.int k1), .val (.int k2), .val (.long (Int64.ofNat A)), .second, .val (.long (Int64.ofNat B)), .second, .val (.int (p5 &&& (3 : Int32))), .val (.long qq), .second, .unset, .unset, .unset, .unset] []))
    obtain ⟨T1, h1, X1, e1, E1, A1, D1, -, st1⟩ := newO X0 hx hZ hown (hw _ (List.mem_of_getElem? (i := 1) rfl)) (hw _ (List.mem_of_getElem? (i := 2) rfl)) (hw _ (List.mem_of_getElem? (i := 3) rfl)) e0 (g := (mkF m 78 #[.val (.int p0), .val (.int p1), .val (.int p2), .val (.int p3), .val (.long q4), .second, .val (.int p5), .val (.int k1), .val (.int k2), .val (.long (Int64.ofNat A)), .second, .val (.long (Int64.ofNat B)), .second, .val (.int (p5 &&& (3 : Int32))), .val (.long qq), .second, .unset, .unset, .unset, .unset] [])) rfl (hb hby at_78) (by decide) (by decide)
    obtain ⟨o, g1⟩ : ∃ z, z = h0.size := ⟨_, rfl⟩
    rw [← g1] at A1 D1 st1
    have g_o : n0 ≤ o := Nat.le_trans Z0 (Nat.le_of_eq g1.symm)
    have sz_o : h0.size ≤ o := Nat.le_trans ((Keep.refl h0 [])).1 (Nat.le_of_eq g1.symm)
    have f1_1 := TS.ext E1
    have K1 := ((Keep.refl h0 [])).ext E1
    have Z1 := Nat.le_trans Z0 E1.1
    have F1_positions : Fld Z h1 o "com/example/holdfast/holdfast/store/ObjectIndex" "positions" "[J" .null := D1 (Or.inl (hw _ (List.mem_of_getElem? (i := 12) rfl))) (ty := (.array .long)) (by decide)
    have F1_lengths : Fld Z h1 o "com/example/holdfast/holdfast/store/ObjectIndex" "lengths" "[I" .null := D1 (Or.inl (hw _ (List.mem_of_getElem? (i := 15) rfl))) (ty := (.array .int)) (by decide)
    have F1_classes : Fld Z h1 o "com/example/holdfast/holdfast/store/ObjectIndex" "classes" "[I" .null := D1 (Or.inl (hw _ (List.mem_of_getElem? (i := 17) rfl))) (ty := (.array .int)) (by decide)
    have F1_versions : Fld Z h1 o "com/example/holdfast/holdfast/store/ObjectIndex" "versions" "[J" .null := D1 (Or.inl (hw _ (List.mem_of_getElem? (i := 19) rfl))) (ty := (.array .long)) (by decide)
    have F1_replacedClasses : Fld Z h1 o "com/example/holdfast/holdfast/store/ObjectIndex" "replacedClasses" "Ljava/util/BitSet;" .null := D1 (Or.inr (hw _ (List.mem_of_getElem? (i := 42) rfl))) (ty := (.object "java/util/BitSet")) (by decide)
    refine own_pre st1 ?_
    show OwnGoes p e below _ (T1.setTop (mkF m 81 #[.val (.int p0), .val (.int p1), .val (.int p2), .val (.int p3), .val (.long q4), .second, .val (.int p5), .val (.int k1), .val (.int k2), .val (.long (Int64.ofNat A)), .second, .val (.long (Int64.ofNat B)), .second, .val (.int (p5 &&& (3 : Int32))), .val (.long qq), .second, .unset, .unset, .unset, .unset] [(.ref o)]))
    refine own_pre (fun _ kz_ => XS.dup X1.here hx rfl (hb hby at_81) rfl rfl kz_) ?_
    show OwnGoes p e below _ (T1.setTop (mkF m 82 #[.val (.int p0), .val (.int p1), .val (.int p2), .val (.int p3), .val (.long q4), .second, .val (.int p5), .val (.int k1), .val (.int k2), .val (.long (Int64.ofNat A)), .second, .val (.long (Int64.ofNat B)), .second, .val (.int (p5 &&& (3 : Int32))), .val (.long qq), .second, .unset, .unset, .unset, .unset] [(.ref o), (.ref o)]))
    obtain ⟨_, _, ⟨T2, L2, k2, n2⟩, -, X2, ⟨Lc2, hQ2, l2, y2, z2⟩, st2⟩ := X1.specialBack hx (y := (⟨"com/example/holdfast/holdfast/store/ObjectIndex", "<init>", "()V"⟩ : MethodName)) rfl hown (mvT hZ (hw _ (List.mem_of_getElem? (i := 4) rfl))) (mvT hZ (hw _ (List.mem_of_getElem? (i := 5) rfl))) (mvT hZ (hw _ (List.mem_of_getElem? (i := 6) rfl))) (by decide) (backOf (W := 1) (rmOI l Z a0 hw [] o h1 n0 Z1 A1 F1_positions F1_lengths F1_classes F1_versions F1_replacedClasses g_o) hZ (hw _ (List.mem_of_getElem? (i := 6) rfl)) (hw _ (List.mem_of_getElem? (i := 3) rfl)) (by decide) (by decide)) (g := (mkF m 82 #[.val (.int p0), .val (.int p1), .val (.int p2), .val (.int p3), .val (.long q4), .second, .val (.int p5), .val (.int k1), .val (.int k2), .val (.long (Int64.ofNat A)), .second, .val (.long (Int64.ofNat B)), .second, .val (.int (p5 &&& (3 : Int32))), .val (.long qq), .second, .unset, .unset, .unset, .unset] [(.ref o), (.ref o)])) rfl (by rw [hml]; rfl) (Steps.refl _) (a := o) (argsL := []) (rest := [(.ref o)]) (lenOf (d := "()V") (ps := []) (r := none) (by decide +kernel) rfl) rfl (by show 2 * 0 + _ ≤ _; exact Nat.le_of_eq rfl) (hb hby at_82) (fun _ _ => ⟨rfl, e1, (by decide : 1 + 6 ≤ _), (by decide : 5 + 4100 ≤ _)⟩)
    dsimp only [Pt.U, Pt.locs, Pt.cells, Pt.slots] at X2 l2 y2 z2 st2 hQ2
    subst l2 y2 z2
    obtain ⟨rfl, N2q, K2q, I2q⟩ := hQ2
    have N2 := Fr.app N0 N2q
    refine own_tr st2 ?_
    have T2s := f1_1.keep K2q (fun x hx => by cases List.mem_singleton.mp hx; exact g_o)
    have Z2 := Nat.le_trans Z1 K2q.1
    obtain ⟨E2x, -⟩ : ∃ _ : Exa Z T2.heap o "com/example/holdfast/holdfast/store/ObjectIndex", True := by obtain ⟨_, _, _, _, _, _, _, _, q, -⟩ := I2q; exact ⟨q, trivial⟩
    show OwnGoes p e below _ (T2.setTop (mkF m 85 #[.val (.int p0), .val (.int p1), .val (.int p2), .val (.int p3), .val (.long q4), .second, .val (.int p5), .val (.int k1), .val (.int k2), .val (.long (Int64.ofNat A)), .second, .val (.long (Int64.ofNat B)), .second, .val (.int (p5 &&& (3 : Int32))), .val (.long qq), .second, .unset, .unset, .unset, .unset] [(.ref o)]))
    refine own_pre (fun _ kz_ => XS.astore X2.here hx rfl (hb hby at_85) rfl rfl (l' := #[.val (.int p0), .val (.int p1), .val (.int p2), .val (.int p3), .val (.long q4), .second, .val (.int p5), .val (.int k1), .val (.int k2), .val (.long (Int64.ofNat A)), .second, .val (.long (Int64.ofNat B)), .second, .val (.int (p5 &&& (3 : Int32))), .val (.long qq), .second, .val (.ref o), .unset, .unset, .unset]) rfl kz_) ?_
    show OwnGoes p e below _ (T2.setTop (mkF m 87 #[.val (.int p0), .val (.int p1), .val (.int p2), .val (.int p3), .val (.long q4), .second, .val (.int p5), .val (.int k1), .val (.int k2), .val (.long (Int64.ofNat A)), .second, .val (.long (Int64.ofNat B)), .second, .val (.int (p5 &&& (3 : Int32))), .val (.long qq), .second, .val (.ref o), .unset, .unset, .unset] []))
    refine own_pre (fun _ kz_ => XS.aload X2.here hx rfl (hb hby at_87) rfl rfl kz_) ?_
    show OwnGoes p e below _ (T2.setTop (mkF m 89 #[.val (.int p0), .val (.int p1), .val (.int p2), .val (.int p3), .val (.long q4), .second, .val (.int p5), .val (.int k1), .val (.int k2), .val (.long (Int64.ofNat A)), .second, .val (.long (Int64.ofNat B)), .second, .val (.int (p5 &&& (3 : Int32))), .val (.long qq), .second, .val (.ref o), .unset, .unset, .unset] [(.ref o)]))
    refine own_pre (fun _ kz_ => XS.lload X2.here hx rfl (hb hby at_89) rfl kz_) ?_
    show OwnGoes p e below _ (T2.setTop (mkF m 91 #[.val (.int p0), .val (.int p1), .val (.int p2), .val (.int p3), .val (.long q4), .second, .val (.int p5), .val (.int k1), .val (.int k2), .val (.long (Int64.ofNat A)), .second, .val (.long (Int64.ofNat B)), .second, .val (.int (p5 &&& (3 : Int32))), .val (.long qq), .second, .val (.ref o), .unset, .unset, .unset] [(.long qq), (.ref o)]))
    obtain ⟨cq3, kq3, q3a, q3b, q3c⟩ := isOf hZ rfl E2x
    obtain ⟨_, _, ⟨T3, L3, k3, n3⟩, -, X3, ⟨Lc3, hQ3, l3, y3, z3⟩, st3⟩ := X2.virtualBack hx (y := (⟨"com/example/holdfast/holdfast/store/ObjectIndex", "classId", "(J)I"⟩ : MethodName)) (z := (⟨"com/example/holdfast/holdfast/store/ObjectIndex", "classId", "(J)I"⟩ : MethodName)) hown (mvT hZ (hw _ (List.mem_of_getElem? (i := 43) rfl))) (mvT hZ (hw _ (List.mem_of_getElem? (i := 44) rfl))) (notFace_of_selects (args := #[]) (mvT hZ (hw _ (List.mem_of_getElem? (i := 46) rfl)))) (mvT hZ (hw _ (List.mem_of_getElem? (i := 46) rfl))) (mvT hZ (hw _ (List.mem_of_getElem? (i := 45) rfl))) (by decide) (backOf (W := 0) (rmCl l Z a0 hw [] o qq (List.replicate 1024 (0 : Int32)) (-1 : Int32) T2.heap n0 Z2 I2q (by rw [List.length_replicate]; decide) (own_cls0 _)) hZ (hw _ (List.mem_of_getElem? (i := 47) rfl)) (hw _ (List.mem_of_getElem? (i := 3) rfl)) (by decide) (by decide)) q3a q3c (g := (mkF m 91 #[.val (.int p0), .val (.int p1), .val (.int p2), .val (.int p3), .val (.long q4), .second, .val (.int p5), .val (.int k1), .val (.int k2), .val (.long (Int64.ofNat A)), .second, .val (.long (Int64.ofNat B)), .second, .val (.int (p5 &&& (3 : Int32))), .val (.long qq), .second, .val (.ref o), .unset, .unset, .unset] [(.long qq), (.ref o)])) rfl (by rw [hml]; rfl) (Steps.refl _) (argsL := [(.long qq)]) (rest := []) (lenOf (d := "(J)I") (ps := [.long]) (r := some .int) (by decide +kernel) rfl) rfl (by show 2 * 0 + _ ≤ _; exact Nat.le_of_eq rfl) (hb hby at_91) (fun _ _ => ⟨rfl, rfl, (by decide : 7 + 0 ≤ _), (by decide : 4105 + 0 ≤ _)⟩)
    dsimp only [Pt.U, Pt.locs, Pt.cells, Pt.slots] at X3 l3 y3 z3 st3 hQ3
    subst l3 y3 z3
    obtain ⟨rfl, N3q, e3⟩ := hQ3
    have N3 := Fr.app N2 N3q
    refine own_tr st3 ?_
    show OwnGoes p e below _ (T3.setTop (mkF m 94 #[.val (.int p0), .val (.int p1), .val (.int p2), .val (.int p3), .val (.long q4), .second, .val (.int p5), .val (.int k1), .val (.int k2), .val (.long (Int64.ofNat A)), .second, .val (.long (Int64.ofNat B)), .second, .val (.int (p5 &&& (3 : Int32))), .val (.long qq), .second, .val (.ref o), .unset, .unset, .unset] [(.int (-1 : Int32))]))
    refine own_pre (fun _ kz_ => XS.iconst X3.here hx rfl (hb hby at_94) kz_) ?_
    show OwnGoes p e below _ (T3.setTop (mkF m 95 #[.val (.int p0), .val (.int p1), .val (.int p2), .val (.int p3), .val (.long q4), .second, .val (.int p5), .val (.int k1), .val (.int k2), .val (.long (Int64.ofNat A)), .second, .val (.long (Int64.ofNat B)), .second, .val (.int (p5 &&& (3 : Int32))), .val (.long qq), .second, .val (.ref o), .unset, .unset, .unset] [(.int (-1 : Int32)), (.int (-1 : Int32))]))
    refine own_pre (fun _ kz_ => XS.icmpNo X3.here hx rfl (hb hby at_95) rfl (teq (by decide : (-1 : Int32) = (-1 : Int32))).2 kz_) ?_
    show OwnGoes p e below _ (T3.setTop (mkF m 98 #[.val (.int p0), .val (.int p1), .val (.int p2), .val (.int p3), .val (.long q4), .second, .val (.int p5), .val (.int k1), .val (.int k2), .val (.long (Int64.ofNat A)), .second, .val (.long (Int64.ofNat B)), .second, .val (.int (p5 &&& (3 : Int32))), .val (.long qq), .second, .val (.ref o), .unset, .unset, .unset] []))
    refine own_pre (fun _ kz_ => XS.iconst X3.here hx rfl (hb hby at_98) kz_) ?_
    show OwnGoes p e below _ (T3.setTop (mkF m 99 #[.val (.int p0), .val (.int p1), .val (.int p2), .val (.int p3), .val (.long q4), .second, .val (.int p5), .val (.int k1), .val (.int k2), .val (.long (Int64.ofNat A)), .second, .val (.long (Int64.ofNat B)), .second, .val (.int (p5 &&& (3 : Int32))), .val (.long qq), .second, .val (.ref o), .unset, .unset, .unset] [(.int (1 : Int32))]))
    refine own_pre (fun _ kz_ => XS.goto X3.here hx rfl (pc0 := 99) (pc' := 103) rfl (hb hby at_99) (by decide) (by decide) kz_) ?_
    show OwnGoes p e below _ (T3.setTop (mkF m 103 #[.val (.int p0), .val (.int p1), .val (.int p2), .val (.int p3), .val (.long q4), .second, .val (.int p5), .val (.int k1), .val (.int k2), .val (.long (Int64.ofNat A)), .second, .val (.long (Int64.ofNat B)), .second, .val (.int (p5 &&& (3 : Int32))), .val (.long qq), .second, .val (.ref o), .unset, .unset, .unset] [(.int (1 : Int32))]))
    refine own_pre (fun _ kz_ => XS.istore X3.here hx rfl (hb hby at_103) rfl (l' := #[.val (.int p0), .val (.int p1), .val (.int p2), .val (.int p3), .val (.long q4), .second, .val (.int p5), .val (.int k1), .val (.int k2), .val (.long (Int64.ofNat A)), .second, .val (.long (Int64.ofNat B)), .second, .val (.int (p5 &&& (3 : Int32))), .val (.long qq), .second, .val (.ref o), .val (.int (1 : Int32)), .unset, .unset]) rfl kz_) ?_
    show OwnGoes p e below _ (T3.setTop (mkF m 105 #[.val (.int p0), .val (.int p1), .val (.int p2), .val (.int p3), .val (.long q4), .second, .val (.int p5), .val (.int k1), .val (.int k2), .val (.long (Int64.ofNat A)), .second, .val (.long (Int64.ofNat B)), .second, .val (.int (p5 &&& (3 : Int32))), .val (.long qq), .second, .val (.ref o), .val (.int (1 : Int32)), .unset, .unset] []))
    refine own_pre (fun _ kz_ => XS.aload X3.here hx rfl (hb hby at_105) rfl rfl kz_) ?_
    show OwnGoes p e below _ (T3.setTop (mkF m 107 #[.val (.int p0), .val (.int p1), .val (.int p2), .val (.int p3), .val (.long q4), .second, .val (.int p5), .val (.int k1), .val (.int k2), .val (.long (Int64.ofNat A)), .second, .val (.long (Int64.ofNat B)), .second, .val (.int (p5 &&& (3 : Int32))), .val (.long qq), .second, .val (.ref o), .val (.int (1 : Int32)), .unset, .unset] [(.ref o)]))
    refine own_pre (fun _ kz_ => XS.lload X3.here hx rfl (hb hby at_107) rfl kz_) ?_
    show OwnGoes p e below _ (T3.setTop (mkF m 109 #[.val (.int p0), .val (.int p1), .val (.int p2), .val (.int p3), .val (.long q4), .second, .val (.int p5), .val (.int k1), .val (.int k2), .val (.long (Int64.ofNat A)), .second, .val (.long (Int64.ofNat B)), .second, .val (.int (p5 &&& (3 : Int32))), .val (.long qq), .second, .val (.ref o), .val (.int (1 : Int32)), .unset, .unset] [(.long (Int64.ofNat A)), (.ref o)]))
    refine own_pre (fun _ kz_ => XS.lconst X3.here hx rfl (hb hby at_109) kz_) ?_
    show OwnGoes p e below _ (T3.setTop (mkF m 110 #[.val (.int p0), .val (.int p1), .val (.int p2), .val (.int p3), .val (.long q4), .second, .val (.int p5), .val (.int k1), .val (.int k2), .val (.long (Int64.ofNat A)), .second, .val (.long (Int64.ofNat B)), .second, .val (.int (p5 &&& (3 : Int32))), .val (.long qq), .second, .val (.ref o), .val (.int (1 : Int32)), .unset, .unset] [(.long (0 : Int64)), (.long (Int64.ofNat A)), (.ref o)]))
    refine own_pre (fun _ kz_ => XS.iconst X3.here hx rfl (hb hby at_110) kz_) ?_
    show OwnGoes p e below _ (T3.setTop (mkF m 111 #[.val (.int p0), .val (.int p1), .val (.int p2), .val (.int p3), .val (.long q4), .second, .val (.int p5), .val (.int k1), .val (.int k2), .val (.long (Int64.ofNat A)), .second, .val (.long (Int64.ofNat B)), .second, .val (.int (p5 &&& (3 : Int32))), .val (.long qq), .second, .val (.ref o), .val (.int (1 : Int32)), .unset, .unset] [(.int (0 : Int32)), (.long (0 : Int64)), (.long (Int64.ofNat A)), (.ref o)]))
    refine own_pre (fun _ kz_ => XS.iload X3.here hx rfl (hb hby at_111) rfl kz_) ?_
    show OwnGoes p e below _ (T3.setTop (mkF m 113 #[.val (.int p0), .val (.int p1), .val (.int p2), .val (.int p3), .val (.long q4), .second, .val (.int p5), .val (.int k1), .val (.int k2), .val (.long (Int64.ofNat A)), .second, .val (.long (Int64.ofNat B)), .second, .val (.int (p5 &&& (3 : Int32))), .val (.long qq), .second, .val (.ref o), .val (.int (1 : Int32)), .unset, .unset] [(.int k1), (.int (0 : Int32)), (.long (0 : Int64)), (.long (Int64.ofNat A)), (.ref o)]))
    refine own_pre (fun _ kz_ => XS.lconst X3.here hx rfl (hb hby at_113) kz_) ?_
    show OwnGoes p e below _ (T3.setTop (mkF m 114 #[.val (.int p0), .val (.int p1), .val (.int p2), .val (.int p3), .val (.long q4), .second, .val (.int p5), .val (.int k1), .val (.int k2), .val (.long (Int64.ofNat A)), .second, .val (.long (Int64.ofNat B)), .second, .val (.int (p5 &&& (3 : Int32))), .val (.long qq), .second, .val (.ref o), .val (.int (1 : Int32)), .unset, .unset] [(.long (0 : Int64)), (.int k1), (.int (0 : Int32)), (.long (0 : Int64)), (.long (Int64.ofNat A)), (.ref o)]))
    obtain ⟨cq4, kq4, q4a, q4b, q4c⟩ := isOf hZ e3 E2x
    obtain ⟨_, _, ⟨T4, L4, k4, n4⟩, -, X4, ⟨Lc4, hQ4, l4, y4, z4⟩, st4⟩ := X3.virtualBack hx (y := (⟨"com/example/holdfast/holdfast/store/ObjectIndex", "put", "(JJIIJ)V"⟩ : MethodName)) (z := (⟨"com/example/holdfast/holdfast/store/ObjectIndex", "put", "(JJIIJ)V"⟩ : MethodName)) hown (mvT hZ (hw _ (List.mem_of_getElem? (i := 48) rfl))) (mvT hZ (hw _ (List.mem_of_getElem? (i := 49) rfl))) (notFace_of_selects (args := #[]) (mvT hZ (hw _ (List.mem_of_getElem? (i := 51) rfl)))) (mvT hZ (hw _ (List.mem_of_getElem? (i := 51) rfl))) (mvT hZ (hw _ (List.mem_of_getElem? (i := 50) rfl))) (by decide) (backOf (W := 0) (rmPut l Z a0 hw [] o (Int64.ofNat A) k1 (List.replicate 1024 (0 : Int32)) A T2.heap n0 Z2 I2q rfl hA1 hA2 (by rw [List.length_replicate]; decide) (by rw [List.length_replicate]; decide) hk1 T2s) hZ (hw _ (List.mem_of_getElem? (i := 52) rfl)) (hw _ (List.mem_of_getElem? (i := 3) rfl)) (by decide) (by decide)) q4a q4c (g := (mkF m 114 #[.val (.int p0), .val (.int p1), .val (.int p2), .val (.int p3), .val (.long q4), .second, .val (.int p5), .val (.int k1), .val (.int k2), .val (.long (Int64.ofNat A)), .second, .val (.long (Int64.ofNat B)), .second, .val (.int (p5 &&& (3 : Int32))), .val (.long qq), .second, .val (.ref o), .val (.int (1 : Int32)), .unset, .unset] [(.long (0 : Int64)), (.int k1), (.int (0 : Int32)), (.long (0 : Int64)), (.long (Int64.ofNat A)), (.ref o)])) rfl (by rw [hml]; rfl) (Steps.refl _) (argsL := [(.long (Int64.ofNat A)), (.long (0 : Int64)), (.int (0 : Int32)), (.int k1), (.long (0 : Int64))]) (rest := []) (lenOf (d := "(JJIIJ)V") (ps := [.long, .long, .int, .int, .long]) (r := none) (by decide +kernel) rfl) rfl (by show 2 * 0 + _ ≤ _; exact Nat.le_of_eq rfl) (hb hby at_114) (fun _ _ => ⟨rfl, e3, (by decide : 7 + 4 ≤ _), (by decide : 4105 + 16384 ≤ _)⟩)
    dsimp only [Pt.U, Pt.locs, Pt.cells, Pt.slots] at X4 l4 y4 z4 st4 hQ4
    subst l4 y4 z4
    obtain ⟨rfl, N4q, ⟨ws1, K4q, hws1⟩, cs1, I4q, lt1, len1, ub1, get1⟩ := hQ4
    have N4 := Fr.app N3 N4q
    refine own_tr st4 ?_
    have T4s := T2s.keep K4q hws1
    have Z4 := Nat.le_trans Z2 K4q.1
    obtain ⟨E4x, -⟩ : ∃ _ : Exa Z T4.heap o "com/example/holdfast/holdfast/store/ObjectIndex", True := by obtain ⟨_, _, _, _, _, _, _, _, q, -⟩ := I4q; exact ⟨q, trivial⟩
    show OwnGoes p e below _ (T4.setTop (mkF m 117 #[.val (.int p0), .val (.int p1), .val (.int p2), .val (.int p3), .val (.long q4), .second, .val (.int p5), .val (.int k1), .val (.int k2), .val (.long (Int64.ofNat A)), .second, .val (.long (Int64.ofNat B)), .second, .val (.int (p5 &&& (3 : Int32))), .val (.long qq), .second, .val (.ref o), .val (.int (1 : Int32)), .unset, .unset] []))
    refine own_pre (fun _ kz_ => XS.aload X4.here hx rfl (hb hby at_117) rfl rfl kz_) ?_
    show OwnGoes p e below _ (T4.setTop (mkF m 119 #[.val (.int p0), .val (.int p1), .val (.int p2), .val (.int p3), .val (.long q4), .second, .val (.int p5), .val (.int k1), .val (.int k2), .val (.long (Int64.ofNat A)), .second, .val (.long (Int64.ofNat B)), .second, .val (.int (p5 &&& (3 : Int32))), .val (.long qq), .second, .val (.ref o), .val (.int (1 : Int32)), .unset, .unset] [(.ref o)]))
    refine own_pre (fun _ kz_ => XS.lload X4.here hx rfl (hb hby at_119) rfl kz_) ?_
    show OwnGoes p e below _ (T4.setTop (mkF m 121 #[.val (.int p0), .val (.int p1), .val (.int p2), .val (.int p3), .val (.long q4), .second, .val (.int p5), .val (.int k1), .val (.int k2), .val (.long (Int64.ofNat A)), .second, .val (.long (Int64.ofNat B)), .second, .val (.int (p5 &&& (3 : Int32))), .val (.long qq), .second, .val (.ref o), .val (.int (1 : Int32)), .unset, .unset] [(.long (Int64.ofNat B)), (.ref o)]))
    refine own_pre (fun _ kz_ => XS.lconst X4.here hx rfl (hb hby at_121) kz_) ?_
    show OwnGoes p e below _ (T4.setTop (mkF m 122 #[.val (.int p0), .val (.int p1), .val (.int p2), .val (.int p3), .val (.long q4), .second, .val (.int p5), .val (.int k1), .val (.int k2), .val (.long (Int64.ofNat A)), .second, .val (.long (Int64.ofNat B)), .second, .val (.int (p5 &&& (3 : Int32))), .val (.long qq), .second, .val (.ref o), .val (.int (1 : Int32)), .unset, .unset] [(.long (0 : Int64)), (.long (Int64.ofNat B)), (.ref o)]))
    refine own_pre (fun _ kz_ => XS.iconst X4.here hx rfl (hb hby at_122) kz_) ?_
    show OwnGoes p e below _ (T4.setTop (mkF m 123 #[.val (.int p0), .val (.int p1), .val (.int p2), .val (.int p3), .val (.long q4), .second, .val (.int p5), .val (.int k1), .val (.int k2), .val (.long (Int64.ofNat A)), .second, .val (.long (Int64.ofNat B)), .second, .val (.int (p5 &&& (3 : Int32))), .val (.long qq), .second, .val (.ref o), .val (.int (1 : Int32)), .unset, .unset] [(.int (0 : Int32)), (.long (0 : Int64)), (.long (Int64.ofNat B)), (.ref o)]))
    refine own_pre (fun _ kz_ => XS.iload X4.here hx rfl (hb hby at_123) rfl kz_) ?_
    show OwnGoes p e below _ (T4.setTop (mkF m 125 #[.val (.int p0), .val (.int p1), .val (.int p2), .val (.int p3), .val (.long q4), .second, .val (.int p5), .val (.int k1), .val (.int k2), .val (.long (Int64.ofNat A)), .second, .val (.long (Int64.ofNat B)), .second, .val (.int (p5 &&& (3 : Int32))), .val (.long qq), .second, .val (.ref o), .val (.int (1 : Int32)), .unset, .unset] [(.int k2), (.int (0 : Int32)), (.long (0 : Int64)), (.long (Int64.ofNat B)), (.ref o)]))
    refine own_pre (fun _ kz_ => XS.lconst X4.here hx rfl (hb hby at_125) kz_) ?_
    show OwnGoes p e below _ (T4.setTop (mkF m 126 #[.val (.int p0), .val (.int p1), .val (.int p2), .val (.int p3), .val (.long q4), .second, .val (.int p5), .val (.int k1), .val (.int k2), .val (.long (Int64.ofNat A)), .second, .val (.long (Int64.ofNat B)), .second, .val (.int (p5 &&& (3 : Int32))), .val (.long qq), .second, .val (.ref o), .val (.int (1 : Int32)), .unset, .unset] [(.long (0 : Int64)), (.int k2), (.int (0 : Int32)), (.long (0 : Int64)), (.long (Int64.ofNat B)), (.ref o)]))
    obtain ⟨cq5, kq5, q5a, q5b, q5c⟩ := isOf hZ rfl E4x
    obtain ⟨_, _, ⟨T5, L5, k5, n5⟩, -, X5, ⟨Lc5, hQ5, l5, y5, z5⟩, st5⟩ := X4.virtualBack hx (y := (⟨"com/example/holdfast/holdfast/store/ObjectIndex", "put", "(JJIIJ)V"⟩ : MethodName)) (z := (⟨"com/example/holdfast/holdfast/store/ObjectIndex", "put", "(JJIIJ)V"⟩ : MethodName)) hown (mvT hZ (hw _ (List.mem_of_getElem? (i := 48) rfl))) (mvT hZ (hw _ (List.mem_of_getElem? (i := 49) rfl))) (notFace_of_selects (args := #[]) (mvT hZ (hw _ (List.mem_of_getElem? (i := 51) rfl)))) (mvT hZ (hw _ (List.mem_of_getElem? (i := 51) rfl))) (mvT hZ (hw _ (List.mem_of_getElem? (i := 50) rfl))) (by decide) (backOf (W := 0) (rmPut l Z a0 hw [] o (Int64.ofNat B) k2 cs1 B T4.heap n0 Z4 I4q rfl hB1 hB2 (by rw [List.length_replicate] at len1; omega) ub1 hk2 T4s) hZ (hw _ (List.mem_of_getElem? (i := 52) rfl)) (hw _ (List.mem_of_getElem? (i := 3) rfl)) (by decide) (by decide)) q5a q5c (g := (mkF m 126 #[.val (.int p0), .val (.int p1), .val (.int p2), .val (.int p3), .val (.long q4), .second, .val (.int p5), .val (.int k1), .val (.int k2), .val (.long (Int64.ofNat A)), .second, .val (.long (Int64.ofNat B)), .second, .val (.int (p5 &&& (3 : Int32))), .val (.long qq), .second, .val (.ref o), .val (.int (1 : Int32)), .unset, .unset] [(.long (0 : Int64)), (.int k2), (.int (0 : Int32)), (.long (0 : Int64)), (.long (Int64.ofNat B)), (.ref o)])) rfl (by rw [hml]; rfl) (Steps.refl _) (argsL := [(.long (Int64.ofNat B)), (.long (0 : Int64)), (.int (0 : Int32)), (.int k2), (.long (0 : Int64))]) (rest := []) (lenOf (d := "(JJIIJ)V") (ps := [.long, .long, .int, .int, .long]) (r := none) (by decide +kernel) rfl) rfl (by show 2 * 0 + _ ≤ _; exact Nat.le_of_eq rfl) (hb hby at_126) (fun _ _ => ⟨rfl, rfl, (by decide : 11 + 4 ≤ _), (by decide : 20489 + 16384 ≤ _)⟩)
    dsimp only [Pt.U, Pt.locs, Pt.cells, Pt.slots] at X5 l5 y5 z5 st5 hQ5
    subst l5 y5 z5
    obtain ⟨rfl, N5q, ⟨ws2, K5q, hws2⟩, cs2, I5q, lt2, len2, ub2, get2⟩ := hQ5
    have N5 := Fr.app N4 N5q
    refine own_tr st5 ?_
    have T5s := T4s.keep K5q hws2
    have Z5 := Nat.le_trans Z4 K5q.1
    obtain ⟨E5x, -⟩ : ∃ _ : Exa Z T5.heap o "com/example/holdfast/holdfast/store/ObjectIndex", True := by obtain ⟨_, _, _, _, _, _, _, _, q, -⟩ := I5q; exact ⟨q, trivial⟩
    show OwnGoes p e below _ (T5.setTop (mkF m 129 #[.val (.int p0), .val (.int p1), .val (.int p2), .val (.int p3), .val (.long q4), .second, .val (.int p5), .val (.int k1), .val (.int k2), .val (.long (Int64.ofNat A)), .second, .val (.long (Int64.ofNat B)), .second, .val (.int (p5 &&& (3 : Int32))), .val (.long qq), .second, .val (.ref o), .val (.int (1 : Int32)), .unset, .unset] []))
    refine own_pre (fun _ kz_ => XS.lload X5.here hx rfl (hb hby at_129) rfl kz_) ?_
    show OwnGoes p e below _ (T5.setTop (mkF m 131 #[.val (.int p0), .val (.int p1), .val (.int p2), .val (.int p3), .val (.long q4), .second, .val (.int p5), .val (.int k1), .val (.int k2), .val (.long (Int64.ofNat A)), .second, .val (.long (Int64.ofNat B)), .second, .val (.int (p5 &&& (3 : Int32))), .val (.long qq), .second, .val (.ref o), .val (.int (1 : Int32)), .unset, .unset] [(.long qq)]))
    refine own_pre (fun _ kz_ => XS.lload X5.here hx rfl (hb hby at_131) rfl kz_) ?_
    show OwnGoes p e below _ (T5.setTop (mkF m 133 #[.val (.int p0), .val (.int p1), .val (.int p2), .val (.int p3), .val (.long q4), .second, .val (.int p5), .val (.int k1), .val (.int k2), .val (.long (Int64.ofNat A)), .second, .val (.long (Int64.ofNat B)), .second, .val (.int (p5 &&& (3 : Int32))), .val (.long qq), .second, .val (.ref o), .val (.int (1 : Int32)), .unset, .unset] [(.long (Int64.ofNat B)), (.long qq)]))
    refine own_pre (fun _ kz_ => XS.lcmp X5.here hx rfl (hb hby at_133) rfl kz_) ?_
    show OwnGoes p e below _ (T5.setTop (mkF m 134 #[.val (.int p0), .val (.int p1), .val (.int p2), .val (.int p3), .val (.long q4), .second, .val (.int p5), .val (.int k1), .val (.int k2), .val (.long (Int64.ofNat A)), .second, .val (.long (Int64.ofNat B)), .second, .val (.int (p5 &&& (3 : Int32))), .val (.long qq), .second, .val (.ref o), .val (.int (1 : Int32)), .unset, .unset] [(.int (lcmpW qq (Int64.ofNat B)))]))
    by_cases h134 : qq = (Int64.ofNat B)
    · refine own_pre (fun _ kz_ => XS.ifNo X5.here hx rfl (hb hby at_134) rfl ((if0 _ _).trans (teq ((lw_eq qq (Int64.ofNat B)).mpr h134)).2) kz_) ?_
      show OwnGoes p e below _ (T5.setTop (mkF m 137 #[.val (.int p0), .val (.int p1), .val (.int p2), .val (.int p3), .val (.long q4), .second, .val (.int p5), .val (.int k1), .val (.int k2), .val (.long (Int64.ofNat A)), .second, .val (.long (Int64.ofNat B)), .second, .val (.int (p5 &&& (3 : Int32))), .val (.long qq), .second, .val (.ref o), .val (.int (1 : Int32)), .unset, .unset] []))
      refine own_pre (fun _ kz_ => XS.iload X5.here hx rfl (hb hby at_137) rfl kz_) ?_
      show OwnGoes p e below _ (T5.setTop (mkF m 139 #[.val (.int p0), .val (.int p1), .val (.int p2), .val (.int p3), .val (.long q4), .second, .val (.int p5), .val (.int k1), .val (.int k2), .val (.long (Int64.ofNat A)), .second, .val (.long (Int64.ofNat B)), .second, .val (.int (p5 &&& (3 : Int32))), .val (.long qq), .second, .val (.ref o), .val (.int (1 : Int32)), .unset, .unset] [(.int k2)]))
      refine own_pre (fun _ kz_ => XS.goto X5.here hx rfl (pc0 := 139) (pc' := 156) rfl (hb hby at_139) (by decide) (by decide) kz_) ?_
      show OwnGoes p e below _ (T5.setTop (mkF m 156 #[.val (.int p0), .val (.int p1), .val (.int p2), .val (.int p3), .val (.long q4), .second, .val (.int p5), .val (.int k1), .val (.int k2), .val (.long (Int64.ofNat A)), .second, .val (.long (Int64.ofNat B)), .second, .val (.int (p5 &&& (3 : Int32))), .val (.long qq), .second, .val (.ref o), .val (.int (1 : Int32)), .unset, .unset] [(.int k2)]))
      refine own_pre (fun _ kz_ => XS.istore X5.here hx rfl (hb hby at_156) rfl (l' := #[.val (.int p0), .val (.int p1), .val (.int p2), .val (.int p3), .val (.long q4), .second, .val (.int p5), .val (.int k1), .val (.int k2), .val (.long (Int64.ofNat A)), .second, .val (.long (Int64.ofNat B)), .second, .val (.int (p5 &&& (3 : Int32))), .val (.long qq), .second, .val (.ref o), .val (.int (1 : Int32)), .val (.int k2), .unset]) rfl kz_) ?_
      show OwnGoes p e below _ (T5.setTop (mkF m 158 #[.val (.int p0), .val (.int p1), .val (.int p2), .val (.int p3), .val (.long q4), .second, .val (.int p5), .val (.int k1), .val (.int k2), .val (.long (Int64.ofNat A)), .second, .val (.long (Int64.ofNat B)), .second, .val (.int (p5 &&& (3 : Int32))), .val (.long qq), .second, .val (.ref o), .val (.int (1 : Int32)), .val (.int k2), .unset] []))
      refine own_pre (fun _ kz_ => XS.lload X5.here hx rfl (hb hby at_158) rfl kz_) ?_
      show OwnGoes p e below _ (T5.setTop (mkF m 160 #[.val (.int p0), .val (.int p1), .val (.int p2), .val (.int p3), .val (.long q4), .second, .val (.int p5), .val (.int k1), .val (.int k2), .val (.long (Int64.ofNat A)), .second, .val (.long (Int64.ofNat B)), .second, .val (.int (p5 &&& (3 : Int32))), .val (.long qq), .second, .val (.ref o), .val (.int (1 : Int32)), .val (.int k2), .unset] [(.long (Int64.ofNat A))]))
      refine own_pre (fun _ kz_ => XS.lload X5.here hx rfl (hb hby at_160) rfl kz_) ?_
      show OwnGoes p e below _ (T5.setTop (mkF m 162 #[.val (.int p0), .val (.int p1), .val (.int p2), .val (.int p3), .val (.long q4), .second, .val (.int p5), .val (.int k1), .val (.int k2), .val (.long (Int64.ofNat A)), .second, .val (.long (Int64.ofNat B)), .second, .val (.int (p5 &&& (3 : Int32))), .val (.long qq), .second, .val (.ref o), .val (.int (1 : Int32)), .val (.int k2), .unset] [(.long (Int64.ofNat B)), (.long (Int64.ofNat A))]))
      refine own_pre (fun _ kz_ => XS.lcmp X5.here hx rfl (hb hby at_162) rfl kz_) ?_
      show OwnGoes p e below _ (T5.setTop (mkF m 163 #[.val (.int p0), .val (.int p1), .val (.int p2), .val (.int p3), .val (.long q4), .second, .val (.int p5), .val (.int k1), .val (.int k2), .val (.long (Int64.ofNat A)), .second, .val (.long (Int64.ofNat B)), .second, .val (.int (p5 &&& (3 : Int32))), .val (.long qq), .second, .val (.ref o), .val (.int (1 : Int32)), .val (.int k2), .unset] [(.int (lcmpW (Int64.ofNat A) (Int64.ofNat B)))]))
      by_cases h163 : (Int64.ofNat A) = (Int64.ofNat B)
      · refine own_pre (fun _ kz_ => XS.ifNo X5.here hx rfl (hb hby at_163) rfl ((if0 _ _).trans (teq ((lw_eq (Int64.ofNat A) (Int64.ofNat B)).mpr h163)).2) kz_) ?_
        show OwnGoes p e below _ (T5.setTop (mkF m 166 #[.val (.int p0), .val (.int p1), .val (.int p2), .val (.int p3), .val (.long q4), .second, .val (.int p5), .val (.int k1), .val (.int k2), .val (.long (Int64.ofNat A)), .second, .val (.long (Int64.ofNat B)), .second, .val (.int (p5 &&& (3 : Int32))), .val (.long qq), .second, .val (.ref o), .val (.int (1 : Int32)), .val (.int k2), .unset] []))
        refine own_pre (fun _ kz_ => XS.iload X5.here hx rfl (hb hby at_166) rfl kz_) ?_
        show OwnGoes p e below _ (T5.setTop (mkF m 168 #[.val (.int p0), .val (.int p1), .val (.int p2), .val (.int p3), .val (.long q4), .second, .val (.int p5), .val (.int k1), .val (.int k2), .val (.long (Int64.ofNat A)), .second, .val (.long (Int64.ofNat B)), .second, .val (.int (p5 &&& (3 : Int32))), .val (.long qq), .second, .val (.ref o), .val (.int (1 : Int32)), .val (.int k2), .unset] [(.int k2)]))
        refine own_pre (fun _ kz_ => XS.goto X5.here hx rfl (pc0 := 168) (pc' := 173) rfl (hb hby at_168) (by decide) (by decide) kz_) ?_
        show OwnGoes p e below _ (T5.setTop (mkF m 173 #[.val (.int p0), .val (.int p1), .val (.int p2), .val (.int p3), .val (.long q4), .second, .val (.int p5), .val (.int k1), .val (.int k2), .val (.long (Int64.ofNat A)), .second, .val (.long (Int64.ofNat B)), .second, .val (.int (p5 &&& (3 : Int32))), .val (.long qq), .second, .val (.ref o), .val (.int (1 : Int32)), .val (.int k2), .unset] [(.int k2)]))
        refine own_pre (fun _ kz_ => XS.istore X5.here hx rfl (hb hby at_173) rfl (l' := #[.val (.int p0), .val (.int p1), .val (.int p2), .val (.int p3), .val (.long q4), .second, .val (.int p5), .val (.int k1), .val (.int k2), .val (.long (Int64.ofNat A)), .second, .val (.long (Int64.ofNat B)), .second, .val (.int (p5 &&& (3 : Int32))), .val (.long qq), .second, .val (.ref o), .val (.int (1 : Int32)), .val (.int k2), .val (.int k2)]) rfl kz_) ?_
        show OwnGoes p e below _ (T5.setTop (mkF m 175 #[.val (.int p0), .val (.int p1), .val (.int p2), .val (.int p3), .val (.long q4), .second, .val (.int p5), .val (.int k1), .val (.int k2), .val (.long (Int64.ofNat A)), .second, .val (.long (Int64.ofNat B)), .second, .val (.int (p5 &&& (3 : Int32))), .val (.long qq), .second, .val (.ref o), .val (.int (1 : Int32)), .val (.int k2), .val (.int k2)] []))
        refine own_pre (fun _ kz_ => XS.iload X5.here hx rfl (hb hby at_175) rfl kz_) ?_
        show OwnGoes p e below _ (T5.setTop (mkF m 177 #[.val (.int p0), .val (.int p1), .val (.int p2), .val (.int p3), .val (.long q4), .second, .val (.int p5), .val (.int k1), .val (.int k2), .val (.long (Int64.ofNat A)), .second, .val (.long (Int64.ofNat B)), .second, .val (.int (p5 &&& (3 : Int32))), .val (.long qq), .second, .val (.ref o), .val (.int (1 : Int32)), .val (.int k2), .val (.int k2)] [(.int (1 : Int32))]))
        refine own_pre (fun _ kz_ => XS.ifNo X5.here hx rfl (hb hby at_177) rfl ((if0 _ _).trans (feq (by decide : ¬ ((1 : Int32) = (0 : Int32)))).1) kz_) ?_
        show OwnGoes p e below _ (T5.setTop (mkF m 180 #[.val (.int p0), .val (.int p1), .val (.int p2), .val (.int p3), .val (.long q4), .second, .val (.int p5), .val (.int k1), .val (.int k2), .val (.long (Int64.ofNat A)), .second, .val (.long (Int64.ofNat B)), .second, .val (.int (p5 &&& (3 : Int32))), .val (.long qq), .second, .val (.ref o), .val (.int (1 : Int32)), .val (.int k2), .val (.int k2)] []))
        refine own_pre (fun _ kz_ => XS.aload X5.here hx rfl (hb hby at_180) rfl rfl kz_) ?_
        show OwnGoes p e below _ (T5.setTop (mkF m 182 #[.val (.int p0), .val (.int p1), .val (.int p2), .val (.int p3), .val (.long q4), .second, .val (.int p5), .val (.int k1), .val (.int k2), .val (.long (Int64.ofNat A)), .second, .val (.long (Int64.ofNat B)), .second, .val (.int (p5 &&& (3 : Int32))), .val (.long qq), .second, .val (.ref o), .val (.int (1 : Int32)), .val (.int k2), .val (.int k2)] [(.ref o)]))
        refine own_pre (fun _ kz_ => XS.lload X5.here hx rfl (hb hby at_182) rfl kz_) ?_
        show OwnGoes p e below _ (T5.setTop (mkF m 184 #[.val (.int p0), .val (.int p1), .val (.int p2), .val (.int p3), .val (.long q4), .second, .val (.int p5), .val (.int k1), .val (.int k2), .val (.long (Int64.ofNat A)), .second, .val (.long (Int64.ofNat B)), .second, .val (.int (p5 &&& (3 : Int32))), .val (.long qq), .second, .val (.ref o), .val (.int (1 : Int32)), .val (.int k2), .val (.int k2)] [(.long qq), (.ref o)]))
        obtain ⟨cq6, kq6, q6a, q6b, q6c⟩ := isOf hZ rfl E5x
        obtain ⟨_, _, ⟨T6, L6, k6, n6⟩, -, X6, ⟨Lc6, hQ6, l6, y6, z6⟩, st6⟩ := X5.virtualBack hx (y := (⟨"com/example/holdfast/holdfast/store/ObjectIndex", "classId", "(J)I"⟩ : MethodName)) (z := (⟨"com/example/holdfast/holdfast/store/ObjectIndex", "classId", "(J)I"⟩ : MethodName)) hown (mvT hZ (hw _ (List.mem_of_getElem? (i := 43) rfl))) (mvT hZ (hw _ (List.mem_of_getElem? (i := 44) rfl))) (notFace_of_selects (args := #[]) (mvT hZ (hw _ (List.mem_of_getElem? (i := 46) rfl)))) (mvT hZ (hw _ (List.mem_of_getElem? (i := 46) rfl))) (mvT hZ (hw _ (List.mem_of_getElem? (i := 45) rfl))) (by decide) (backOf (W := 0) (rmCl l Z a0 hw [] o qq cs2 k2 T5.heap n0 Z5 I5q (by omega) (own_x1 hB1 hB2 get2 h134)) hZ (hw _ (List.mem_of_getElem? (i := 47) rfl)) (hw _ (List.mem_of_getElem? (i := 3) rfl)) (by decide) (by decide)) q6a q6c (g := (mkF m 184 #[.val (.int p0), .val (.int p1), .val (.int p2), .val (.int p3), .val (.long q4), .second, .val (.int p5), .val (.int k1), .val (.int k2), .val (.long (Int64.ofNat A)), .second, .val (.long (Int64.ofNat B)), .second, .val (.int (p5 &&& (3 : Int32))), .val (.long qq), .second, .val (.ref o), .val (.int (1 : Int32)), .val (.int k2), .val (.int k2)] [(.long qq), (.ref o)])) rfl (by rw [hml]; rfl) (Steps.refl _) (argsL := [(.long qq)]) (rest := []) (lenOf (d := "(J)I") (ps := [.long]) (r := some .int) (by decide +kernel) rfl) rfl (by show 2 * 0 + _ ≤ _; exact Nat.le_of_eq rfl) (hb hby at_184) (fun _ _ => ⟨rfl, rfl, (by decide : 15 + 0 ≤ _), (by decide : 36873 + 0 ≤ _)⟩)
        dsimp only [Pt.U, Pt.locs, Pt.cells, Pt.slots] at X6 l6 y6 z6 st6 hQ6
        subst l6 y6 z6
        obtain ⟨rfl, N6q, e6⟩ := hQ6
        have N6 := Fr.app N5 N6q
        refine own_tr st6 ?_
        show OwnGoes p e below _ (T6.setTop (mkF m 187 #[.val (.int p0), .val (.int p1), .val (.int p2), .val (.int p3), .val (.long q4), .second, .val (.int p5), .val (.int k1), .val (.int k2), .val (.long (Int64.ofNat A)), .second, .val (.long (Int64.ofNat B)), .second, .val (.int (p5 &&& (3 : Int32))), .val (.long qq), .second, .val (.ref o), .val (.int (1 : Int32)), .val (.int k2), .val (.int k2)] [(.int k2)]))
        refine own_pre (fun _ kz_ => XS.iload X6.here hx rfl (hb hby at_187) rfl kz_) ?_
        show OwnGoes p e below _ (T6.setTop (mkF m 189 #[.val (.int p0), .val (.int p1), .val (.int p2), .val (.int p3), .val (.long q4), .second, .val (.int p5), .val (.int k1), .val (.int k2), .val (.long (Int64.ofNat A)), .second, .val (.long (Int64.ofNat B)), .second, .val (.int (p5 &&& (3 : Int32))), .val (.long qq), .second, .val (.ref o), .val (.int (1 : Int32)), .val (.int k2), .val (.int k2)] [(.int k2), (.int k2)]))
        refine own_pre (fun _ kz_ => XS.icmpNo X6.here hx rfl (hb hby at_189) rfl (teq (rfl : k2 = k2)).2 kz_) ?_
        show OwnGoes p e below _ (T6.setTop (mkF m 192 #[.val (.int p0), .val (.int p1), .val (.int p2), .val (.int p3), .val (.long q4), .second, .val (.int p5), .val (.int k1), .val (.int k2), .val (.long (Int64.ofNat A)), .second, .val (.long (Int64.ofNat B)), .second, .val (.int (p5 &&& (3 : Int32))), .val (.long qq), .second, .val (.ref o), .val (.int (1 : Int32)), .val (.int k2), .val (.int k2)] []))
        refine own_pre (fun _ kz_ => XS.aload X6.here hx rfl (hb hby at_192) rfl rfl kz_) ?_
        show OwnGoes p e below _ (T6.setTop (mkF m 194 #[.val (.int p0), .val (.int p1), .val (.int p2), .val (.int p3), .val (.long q4), .second, .val (.int p5), .val (.int k1), .val (.int k2), .val (.long (Int64.ofNat A)), .second, .val (.long (Int64.ofNat B)), .second, .val (.int (p5 &&& (3 : Int32))), .val (.long qq), .second, .val (.ref o), .val (.int (1 : Int32)), .val (.int k2), .val (.int k2)] [(.ref o)]))
        refine own_pre (fun _ kz_ => XS.lload X6.here hx rfl (hb hby at_194) rfl kz_) ?_
        show OwnGoes p e below _ (T6.setTop (mkF m 196 #[.val (.int p0), .val (.int p1), .val (.int p2), .val (.int p3), .val (.long q4), .second, .val (.int p5), .val (.int k1), .val (.int k2), .val (.long (Int64.ofNat A)), .second, .val (.long (Int64.ofNat B)), .second, .val (.int (p5 &&& (3 : Int32))), .val (.long qq), .second, .val (.ref o), .val (.int (1 : Int32)), .val (.int k2), .val (.int k2)] [(.long (Int64.ofNat A)), (.ref o)]))
        obtain ⟨cq7, kq7, q7a, q7b, q7c⟩ := isOf hZ e6 E5x
        obtain ⟨_, _, ⟨T7, L7, k7, n7⟩, -, X7, ⟨Lc7, hQ7, l7, y7, z7⟩, st7⟩ := X6.virtualBack hx (y := (⟨"com/example/holdfast/holdfast/store/ObjectIndex", "classId", "(J)I"⟩ : MethodName)) (z := (⟨"com/example/holdfast/holdfast/store/ObjectIndex", "classId", "(J)I"⟩ : MethodName)) hown (mvT hZ (hw _ (List.mem_of_getElem? (i := 43) rfl))) (mvT hZ (hw _ (List.mem_of_getElem? (i := 44) rfl))) (notFace_of_selects (args := #[]) (mvT hZ (hw _ (List.mem_of_getElem? (i := 46) rfl)))) (mvT hZ (hw _ (List.mem_of_getElem? (i := 46) rfl))) (mvT hZ (hw _ (List.mem_of_getElem? (i := 45) rfl))) (by decide) (backOf (W := 0) (rmCl l Z a0 hw [] o (Int64.ofNat A) cs2 k2 T5.heap n0 Z5 I5q (by omega) (own_x1 hB1 hB2 get2 h163)) hZ (hw _ (List.mem_of_getElem? (i := 47) rfl)) (hw _ (List.mem_of_getElem? (i := 3) rfl)) (by decide) (by decide)) q7a q7c (g := (mkF m 196 #[.val (.int p0), .val (.int p1), .val (.int p2), .val (.int p3), .val (.long q4), .second, .val (.int p5), .val (.int k1), .val (.int k2), .val (.long (Int64.ofNat A)), .second, .val (.long (Int64.ofNat B)), .second, .val (.int (p5 &&& (3 : Int32))), .val (.long qq), .second, .val (.ref o), .val (.int (1 : Int32)), .val (.int k2), .val (.int k2)] [(.long (Int64.ofNat A)), (.ref o)])) rfl (by rw [hml]; rfl) (Steps.refl _) (argsL := [(.long (Int64.ofNat A))]) (rest := []) (lenOf (d := "(J)I") (ps := [.long]) (r := some .int) (by decide +kernel) rfl) rfl (by show 2 * 0 + _ ≤ _; exact Nat.le_of_eq rfl) (hb hby at_196) (fun _ _ => ⟨rfl, e6, (by decide : 15 + 0 ≤ _), (by decide : 36873 + 0 ≤ _)⟩)
        dsimp only [Pt.U, Pt.locs, Pt.cells, Pt.slots] at X7 l7 y7 z7 st7 hQ7
        subst l7 y7 z7
        obtain ⟨rfl, N7q, e7⟩ := hQ7
        have N7 := Fr.app N6 N7q
        refine own_tr st7 ?_
        show OwnGoes p e below _ (T7.setTop (mkF m 199 #[.val (.int p0), .val (.int p1), .val (.int p2), .val (.int p3), .val (.long q4), .second, .val (.int p5), .val (.int k1), .val (.int k2), .val (.long (Int64.ofNat A)), .second, .val (.long (Int64.ofNat B)), .second, .val (.int (p5 &&& (3 : Int32))), .val (.long qq), .second, .val (.ref o), .val (.int (1 : Int32)), .val (.int k2), .val (.int k2)] [(.int k2)]))
        refine own_pre (fun _ kz_ => XS.iload X7.here hx rfl (hb hby at_199) rfl kz_) ?_
        show OwnGoes p e below _ (T7.setTop (mkF m 201 #[.val (.int p0), .val (.int p1), .val (.int p2), .val (.int p3), .val (.long q4), .second, .val (.int p5), .val (.int k1), .val (.int k2), .val (.long (Int64.ofNat A)), .second, .val (.long (Int64.ofNat B)), .second, .val (.int (p5 &&& (3 : Int32))), .val (.long qq), .second, .val (.ref o), .val (.int (1 : Int32)), .val (.int k2), .val (.int k2)] [(.int k2), (.int k2)]))
        refine own_pre (fun _ kz_ => XS.icmpNo X7.here hx rfl (hb hby at_201) rfl (teq (rfl : k2 = k2)).2 kz_) ?_
        show OwnGoes p e below _ (T7.setTop (mkF m 204 #[.val (.int p0), .val (.int p1), .val (.int p2), .val (.int p3), .val (.long q4), .second, .val (.int p5), .val (.int k1), .val (.int k2), .val (.long (Int64.ofNat A)), .second, .val (.long (Int64.ofNat B)), .second, .val (.int (p5 &&& (3 : Int32))), .val (.long qq), .second, .val (.ref o), .val (.int (1 : Int32)), .val (.int k2), .val (.int k2)] []))
        refine own_pre (fun _ kz_ => XS.iconst X7.here hx rfl (hb hby at_204) kz_) ?_
        show OwnGoes p e below _ (T7.setTop (mkF m 205 #[.val (.int p0), .val (.int p1), .val (.int p2), .val (.int p3), .val (.long q4), .second, .val (.int p5), .val (.int k1), .val (.int k2), .val (.long (Int64.ofNat A)), .second, .val (.long (Int64.ofNat B)), .second, .val (.int (p5 &&& (3 : Int32))), .val (.long qq), .second, .val (.ref o), .val (.int (1 : Int32)), .val (.int k2), .val (.int k2)] [(.int (1 : Int32))]))
        refine own_pre (fun _ kz_ => XS.goto X7.here hx rfl (pc0 := 205) (pc' := 209) rfl (hb hby at_205) (by decide) (by decide) kz_) ?_
        show OwnGoes p e below _ (T7.setTop (mkF m 209 #[.val (.int p0), .val (.int p1), .val (.int p2), .val (.int p3), .val (.long q4), .second, .val (.int p5), .val (.int k1), .val (.int k2), .val (.long (Int64.ofNat A)), .second, .val (.long (Int64.ofNat B)), .second, .val (.int (p5 &&& (3 : Int32))), .val (.long qq), .second, .val (.ref o), .val (.int (1 : Int32)), .val (.int k2), .val (.int k2)] [(.int (1 : Int32))]))
        exact own_ret X7 hx Bd.returns (rfl) (Or.inl ⟨rfl, by simp, _, rfl⟩) Bd.notSynchronized (hb hby at_209) ⟨rfl, N7⟩ (by decide) (by decide)
      · refine own_pre (fun _ kz_ => XS.ifYes X5.here hx rfl (pc0 := 163) (pc' := 171) rfl (hb hby at_163) rfl ((if0 _ _).trans (feq (fun qz_ => h163 ((lw_eq (Int64.ofNat A) (Int64.ofNat B)).mp qz_))).2) (by decide) (by decide) kz_) ?_
        show OwnGoes p e below _ (T5.setTop (mkF m 171 #[.val (.int p0), .val (.int p1), .val (.int p2), .val (.int p3), .val (.long q4), .second, .val (.int p5), .val (.int k1), .val (.int k2), .val (.long (Int64.ofNat A)), .second, .val (.long (Int64.ofNat B)), .second, .val (.int (p5 &&& (3 : Int32))), .val (.long qq), .second, .val (.ref o), .val (.int (1 : Int32)), .val (.int k2), .unset] []))
        refine own_pre (fun _ kz_ => XS.iload X5.here hx rfl (hb hby at_171) rfl kz_) ?_
        show OwnGoes p e below _ (T5.setTop (mkF m 173 #[.val (.int p0), .val (.int p1), .val (.int p2), .val (.int p3), .val (.long q4), .second, .val (.int p5), .val (.int k1), .val (.int k2), .val (.long (Int64.ofNat A)), .second, .val (.long (Int64.ofNat B)), .second, .val (.int (p5 &&& (3 : Int32))), .val (.long qq), .second, .val (.ref o), .val (.int (1 : Int32)), .val (.int k2), .unset] [(.int k1)]))
        refine own_pre (fun _ kz_ => XS.istore X5.here hx rfl (hb hby at_173) rfl (l' := #[.val (.int p0), .val (.int p1), .val (.int p2), .val (.int p3), .val (.long q4), .second, .val (.int p5), .val (.int k1), .val (.int k2), .val (.long (Int64.ofNat A)), .second, .val (.long (Int64.ofNat B)), .second, .val (.int (p5 &&& (3 : Int32))), .val (.long qq), .second, .val (.ref o), .val (.int (1 : Int32)), .val (.int k2), .val (.int k1)]) rfl kz_) ?_
        show OwnGoes p e below _ (T5.setTop (mkF m 175 #[.val (.int p0), .val (.int p1), .val (.int p2), .val (.int p3), .val (.long q4), .second, .val (.int p5), .val (.int k1), .val (.int k2), .val (.long (Int64.ofNat A)), .second, .val (.long (Int64.ofNat B)), .second, .val (.int (p5 &&& (3 : Int32))), .val (.long qq), .second, .val (.ref o), .val (.int (1 : Int32)), .val (.int k2), .val (.int k1)] []))
        refine own_pre (fun _ kz_ => XS.iload X5.here hx rfl (hb hby at_175) rfl kz_) ?_
        show OwnGoes p e below _ (T5.setTop (mkF m 177 #[.val (.int p0), .val (.int p1), .val (.int p2), .val (.int p3), .val (.long q4), .second, .val (.int p5), .val (.int k1), .val (.int k2), .val (.long (Int64.ofNat A)), .second, .val (.long (Int64.ofNat B)), .second, .val (.int (p5 &&& (3 : Int32))), .val (.long qq), .second, .val (.ref o), .val (.int (1 : Int32)), .val (.int k2), .val (.int k1)] [(.int (1 : Int32))]))
        refine own_pre (fun _ kz_ => XS.ifNo X5.here hx rfl (hb hby at_177) rfl ((if0 _ _).trans (feq (by decide : ¬ ((1 : Int32) = (0 : Int32)))).1) kz_) ?_
        show OwnGoes p e below _ (T5.setTop (mkF m 180 #[.val (.int p0), .val (.int p1), .val (.int p2), .val (.int p3), .val (.long q4), .second, .val (.int p5), .val (.int k1), .val (.int k2), .val (.long (Int64.ofNat A)), .second, .val (.long (Int64.ofNat B)), .second, .val (.int (p5 &&& (3 : Int32))), .val (.long qq), .second, .val (.ref o), .val (.int (1 : Int32)), .val (.int k2), .val (.int k1)] []))
        refine own_pre (fun _ kz_ => XS.aload X5.here hx rfl (hb hby at_180) rfl rfl kz_) ?_
        show OwnGoes p e below _ (T5.setTop (mkF m 182 #[.val (.int p0), .val (.int p1), .val (.int p2), .val (.int p3), .val (.long q4), .second, .val (.int p5), .val (.int k1), .val (.int k2), .val (.long (Int64.ofNat A)), .second, .val (.long (Int64.ofNat B)), .second, .val (.int (p5 &&& (3 : Int32))), .val (.long qq), .second, .val (.ref o), .val (.int (1 : Int32)), .val (.int k2), .val (.int k1)] [(.ref o)]))
        refine own_pre (fun _ kz_ => XS.lload X5.here hx rfl (hb hby at_182) rfl kz_) ?_
        show OwnGoes p e below _ (T5.setTop (mkF m 184 #[.val (.int p0), .val (.int p1), .val (.int p2), .val (.int p3), .val (.long q4), .second, .val (.int p5), .val (.int k1), .val (.int k2), .val (.long (Int64.ofNat A)), .second, .val (.long (Int64.ofNat B)), .second, .val (.int (p5 &&& (3 : Int32))), .val (.long qq), .second, .val (.ref o), .val (.int (1 : Int32)), .val (.int k2), .val (.int k1)] [(.long qq), (.ref o)]))
        obtain ⟨cq8, kq8, q8a, q8b, q8c⟩ := isOf hZ rfl E5x
        obtain ⟨_, _, ⟨T8, L8, k8, n8⟩, -, X8, ⟨Lc8, hQ8, l8, y8, z8⟩, st8⟩ := X5.virtualBack hx (y := (⟨"com/example/holdfast/holdfast/store/ObjectIndex", "classId", "(J)I"⟩ : MethodName)) (z := (⟨"com/example/holdfast/holdfast/store/ObjectIndex", "classId", "(J)I"⟩ : MethodName)) hown (mvT hZ (hw _ (List.mem_of_getElem? (i := 43) rfl))) (mvT hZ (hw _ (List.mem_of_getElem? (i := 44) rfl))) (notFace_of_selects (args := #[]) (mvT hZ (hw _ (List.mem_of_getElem? (i := 46) rfl)))) (mvT hZ (hw _ (List.mem_of_getElem? (i := 46) rfl))) (mvT hZ (hw _ (List.mem_of_getElem? (i := 45) rfl))) (by decide) (backOf (W := 0) (rmCl l Z a0 hw [] o qq cs2 k2 T5.heap n0 Z5 I5q (by omega) (own_x1 hB1 hB2 get2 h134)) hZ (hw _ (List.mem_of_getElem? (i := 47) rfl)) (hw _ (List.mem_of_getElem? (i := 3) rfl)) (by decide) (by decide)) q8a q8c (g := (mkF m 184 #[.val (.int p0), .val (.int p1), .val (.int p2), .val (.int p3), .val (.long q4), .second, .val (.int p5), .val (.int k1), .val (.int k2), .val (.long (Int64.ofNat A)), .second, .val (.long (Int64.ofNat B)), .second, .val (.int (p5 &&& (3 : Int32))), .val (.long qq), .second, .val (.ref o), .val (.int (1 : Int32)), .val (.int k2), .val (.int k1)] [(.long qq), (.ref o)])) rfl (by rw [hml]; rfl) (Steps.refl _) (argsL := [(.long qq)]) (rest := []) (lenOf (d := "(J)I") (ps := [.long]) (r := some .int) (by decide +kernel) rfl) rfl (by show 2 * 0 + _ ≤ _; exact Nat.le_of_eq rfl) (hb hby at_184) (fun _ _ => ⟨rfl, rfl, (by decide : 15 + 0 ≤ _), (by decide : 36873 + 0 ≤ _)⟩)
        dsimp only [Pt.U, Pt.locs, Pt.cells, Pt.slots] at X8 l8 y8 z8 st8 hQ8
        subst l8 y8 z8
        obtain ⟨rfl, N8q, e8⟩ := hQ8
        have N8 := Fr.app N5 N8q
        refine own_tr st8 ?_
        show OwnGoes p e below _ (T8.setTop (mkF m 187 #[.val (.int p0), .val (.int p1), .val (.int p2), .val (.int p3), .val (.long q4), .second, .val (.int p5), .val (.int k1), .val (.int k2), .val (.long (Int64.ofNat A)), .second, .val (.long (Int64.ofNat B)), .second, .val (.int (p5 &&& (3 : Int32))), .val (.long qq), .second, .val (.ref o), .val (.int (1 : Int32)), .val (.int k2), .val (.int k1)] [(.int k2)]))
        refine own_pre (fun _ kz_ => XS.iload X8.here hx rfl (hb hby at_187) rfl kz_) ?_
        show OwnGoes p e below _ (T8.setTop (mkF m 189 #[.val (.int p0), .val (.int p1), .val (.int p2), .val (.int p3), .val (.long q4), .second, .val (.int p5), .val (.int k1), .val (.int k2), .val (.long (Int64.ofNat A)), .second, .val (.long (Int64.ofNat B)), .second, .val (.int (p5 &&& (3 : Int32))), .val (.long qq), .second, .val (.ref o), .val (.int (1 : Int32)), .val (.int k2), .val (.int k1)] [(.int k2), (.int k2)]))
        refine own_pre (fun _ kz_ => XS.icmpNo X8.here hx rfl (hb hby at_189) rfl (teq (rfl : k2 = k2)).2 kz_) ?_
        show OwnGoes p e below _ (T8.setTop (mkF m 192 #[.val (.int p0), .val (.int p1), .val (.int p2), .val (.int p3), .val (.long q4), .second, .val (.int p5), .val (.int k1), .val (.int k2), .val (.long (Int64.ofNat A)), .second, .val (.long (Int64.ofNat B)), .second, .val (.int (p5 &&& (3 : Int32))), .val (.long qq), .second, .val (.ref o), .val (.int (1 : Int32)), .val (.int k2), .val (.int k1)] []))
        refine own_pre (fun _ kz_ => XS.aload X8.here hx rfl (hb hby at_192) rfl rfl kz_) ?_
        show OwnGoes p e below _ (T8.setTop (mkF m 194 #[.val (.int p0), .val (.int p1), .val (.int p2), .val (.int p3), .val (.long q4), .second, .val (.int p5), .val (.int k1), .val (.int k2), .val (.long (Int64.ofNat A)), .second, .val (.long (Int64.ofNat B)), .second, .val (.int (p5 &&& (3 : Int32))), .val (.long qq), .second, .val (.ref o), .val (.int (1 : Int32)), .val (.int k2), .val (.int k1)] [(.ref o)]))
        refine own_pre (fun _ kz_ => XS.lload X8.here hx rfl (hb hby at_194) rfl kz_) ?_
        show OwnGoes p e below _ (T8.setTop (mkF m 196 #[.val (.int p0), .val (.int p1), .val (.int p2), .val (.int p3), .val (.long q4), .second, .val (.int p5), .val (.int k1), .val (.int k2), .val (.long (Int64.ofNat A)), .second, .val (.long (Int64.ofNat B)), .second, .val (.int (p5 &&& (3 : Int32))), .val (.long qq), .second, .val (.ref o), .val (.int (1 : Int32)), .val (.int k2), .val (.int k1)] [(.long (Int64.ofNat A)), (.ref o)]))
        obtain ⟨cq9, kq9, q9a, q9b, q9c⟩ := isOf hZ e8 E5x
        obtain ⟨_, _, ⟨T9, L9, k9, n9⟩, -, X9, ⟨Lc9, hQ9, l9, y9, z9⟩, st9⟩ := X8.virtualBack hx (y := (⟨"com/example/holdfast/holdfast/store/ObjectIndex", "classId", "(J)I"⟩ : MethodName)) (z := (⟨"com/example/holdfast/holdfast/store/ObjectIndex", "classId", "(J)I"⟩ : MethodName)) hown (mvT hZ (hw _ (List.mem_of_getElem? (i := 43) rfl))) (mvT hZ (hw _ (List.mem_of_getElem? (i := 44) rfl))) (notFace_of_selects (args := #[]) (mvT hZ (hw _ (List.mem_of_getElem? (i := 46) rfl)))) (mvT hZ (hw _ (List.mem_of_getElem? (i := 46) rfl))) (mvT hZ (hw _ (List.mem_of_getElem? (i := 45) rfl))) (by decide) (backOf (W := 0) (rmCl l Z a0 hw [] o (Int64.ofNat A) cs2 k1 T5.heap n0 Z5 I5q (by omega) (own_x2 hA1 hA2 get1 get2 h163 rfl)) hZ (hw _ (List.mem_of_getElem? (i := 47) rfl)) (hw _ (List.mem_of_getElem? (i := 3) rfl)) (by decide) (by decide)) q9a q9c (g := (mkF m 196 #[.val (.int p0), .val (.int p1), .val (.int p2), .val (.int p3), .val (.long q4), .second, .val (.int p5), .val (.int k1), .val (.int k2), .val (.long (Int64.ofNat A)), .second, .val (.long (Int64.ofNat B)), .second, .val (.int (p5 &&& (3 : Int32))), .val (.long qq), .second, .val (.ref o), .val (.int (1 : Int32)), .val (.int k2), .val (.int k1)] [(.long (Int64.ofNat A)), (.ref o)])) rfl (by rw [hml]; rfl) (Steps.refl _) (argsL := [(.long (Int64.ofNat A))]) (rest := []) (lenOf (d := "(J)I") (ps := [.long]) (r := some .int) (by decide +kernel) rfl) rfl (by show 2 * 0 + _ ≤ _; exact Nat.le_of_eq rfl) (hb hby at_196) (fun _ _ => ⟨rfl, e8, (by decide : 15 + 0 ≤ _), (by decide : 36873 + 0 ≤ _)⟩)
        dsimp only [Pt.U, Pt.locs, Pt.cells, Pt.slots] at X9 l9 y9 z9 st9 hQ9
        subst l9 y9 z9
        obtain ⟨rfl, N9q, e9⟩ := hQ9
        have N9 := Fr.app N8 N9q
        refine own_tr st9 ?_
        show OwnGoes p e below _ (T9.setTop (mkF m 199 #[.val (.int p0), .val (.int p1), .val (.int p2), .val (.int p3), .val (.long q4), .second, .val (.int p5), .val (.int k1), .val (.int k2), .val (.long (Int64.ofNat A)), .second, .val (.long (Int64.ofNat B)), .second, .val (.int (p5 &&& (3 : Int32))), .val (.long qq), .second, .val (.ref o), .val (.int (1 : Int32)), .val (.int k2), .val (.int k1)] [(.int k1)]))
        refine own_pre (fun _ kz_ => XS.iload X9.here hx rfl (hb hby at_199) rfl kz_) ?_
        show OwnGoes p e below _ (T9.setTop (mkF m 201 #[.val (.int p0), .val (.int p1), .val (.int p2), .val (.int p3), .val (.long q4), .second, .val (.int p5), .val (.int k1), .val (.int k2), .val (.long (Int64.ofNat A)), .second, .val (.long (Int64.ofNat B)), .second, .val (.int (p5 &&& (3 : Int32))), .val (.long qq), .second, .val (.ref o), .val (.int (1 : Int32)), .val (.int k2), .val (.int k1)] [(.int k1), (.int k1)]))
        refine own_pre (fun _ kz_ => XS.icmpNo X9.here hx rfl (hb hby at_201) rfl (teq (rfl : k1 = k1)).2 kz_) ?_
        show OwnGoes p e below _ (T9.setTop (mkF m 204 #[.val (.int p0), .val (.int p1), .val (.int p2), .val (.int p3), .val (.long q4), .second, .val (.int p5), .val (.int k1), .val (.int k2), .val (.long (Int64.ofNat A)), .second, .val (.long (Int64.ofNat B)), .second, .val (.int (p5 &&& (3 : Int32))), .val (.long qq), .second, .val (.ref o), .val (.int (1 : Int32)), .val (.int k2), .val (.int k1)] []))
        refine own_pre (fun _ kz_ => XS.iconst X9.here hx rfl (hb hby at_204) kz_) ?_
        show OwnGoes p e below _ (T9.setTop (mkF m 205 #[.val (.int p0), .val (.int p1), .val (.int p2), .val (.int p3), .val (.long q4), .second, .val (.int p5), .val (.int k1), .val (.int k2), .val (.long (Int64.ofNat A)), .second, .val (.long (Int64.ofNat B)), .second, .val (.int (p5 &&& (3 : Int32))), .val (.long qq), .second, .val (.ref o), .val (.int (1 : Int32)), .val (.int k2), .val (.int k1)] [(.int (1 : Int32))]))
        refine own_pre (fun _ kz_ => XS.goto X9.here hx rfl (pc0 := 205) (pc' := 209) rfl (hb hby at_205) (by decide) (by decide) kz_) ?_
        show OwnGoes p e below _ (T9.setTop (mkF m 209 #[.val (.int p0), .val (.int p1), .val (.int p2), .val (.int p3), .val (.long q4), .second, .val (.int p5), .val (.int k1), .val (.int k2), .val (.long (Int64.ofNat A)), .second, .val (.long (Int64.ofNat B)), .second, .val (.int (p5 &&& (3 : Int32))), .val (.long qq), .second, .val (.ref o), .val (.int (1 : Int32)), .val (.int k2), .val (.int k1)] [(.int (1 : Int32))]))
        exact own_ret X9 hx Bd.returns (rfl) (Or.inl ⟨rfl, by simp, _, rfl⟩) Bd.notSynchronized (hb hby at_209) ⟨rfl, N9⟩ (by decide) (by decide)
    · refine own_pre (fun _ kz_ => XS.ifYes X5.here hx rfl (pc0 := 134) (pc' := 142) rfl (hb hby at_134) rfl ((if0 _ _).trans (feq (fun qz_ => h134 ((lw_eq qq (Int64.ofNat B)).mp qz_))).2) (by decide) (by decide) kz_) ?_
      show OwnGoes p e below _ (T5.setTop (mkF m 142 #[.val (.int p0), .val (.int p1), .val (.int p2), .val (.int p3), .val (.long q4), .second, .val (.int p5), .val (.int k1), .val (.int k2), .val (.long (Int64.ofNat A)), .second, .val (.long (Int64.ofNat B)), .second, .val (.int (p5 &&& (3 : Int32))), .val (.long qq), .second, .val (.ref o), .val (.int (1 : Int32)), .unset, .unset] []))
      refine own_pre (fun _ kz_ => XS.lload X5.here hx rfl (hb hby at_142) rfl kz_) ?_
      show OwnGoes p e below _ (T5.setTop (mkF m 144 #[.val (.int p0), .val (.int p1), .val (.int p2), .val (.int p3), .val (.long q4), .second, .val (.int p5), .val (.int k1), .val (.int k2), .val (.long (Int64.ofNat A)), .second, .val (.long (Int64.ofNat B)), .second, .val (.int (p5 &&& (3 : Int32))), .val (.long qq), .second, .val (.ref o), .val (.int (1 : Int32)), .unset, .unset] [(.long qq)]))
      refine own_pre (fun _ kz_ => XS.lload X5.here hx rfl (hb hby at_144) rfl kz_) ?_
      show OwnGoes p e below _ (T5.setTop (mkF m 146 #[.val (.int p0), .val (.int p1), .val (.int p2), .val (.int p3), .val (.long q4), .second, .val (.int p5), .val (.int k1), .val (.int k2), .val (.long (Int64.ofNat A)), .second, .val (.long (Int64.ofNat B)), .second, .val (.int (p5 &&& (3 : Int32))), .val (.long qq), .second, .val (.ref o), .val (.int (1 : Int32)), .unset, .unset] [(.long (Int64.ofNat A)), (.long qq)]))
      refine own_pre (fun _ kz_ => XS.lcmp X5.here hx rfl (hb hby at_146) rfl kz_) ?_
      show OwnGoes p e below _ (T5.setTop (mkF m 147 #[.val (.int p0), .val (.int p1), .val (.int p2), .val (.int p3), .val (.long q4), .second, .val (.int p5), .val (.int k1), .val (.int k2), .val (.long (Int64.ofNat A)), .second, .val (.long (Int64.ofNat B)), .second, .val (.int (p5 &&& (3 : Int32))), .val (.long qq), .second, .val (.ref o), .val (.int (1 : Int32)), .unset, .unset] [(.int (lcmpW qq (Int64.ofNat A)))]))
      by_cases h147 : qq = (Int64.ofNat A)
      · refine own_pre (fun _ kz_ => XS.ifNo X5.here hx rfl (hb hby at_147) rfl ((if0 _ _).trans (teq ((lw_eq qq (Int64.ofNat A)).mpr h147)).2) kz_) ?_
        show OwnGoes p e below _ (T5.setTop (mkF m 150 #[.val (.int p0), .val (.int p1), .val (.int p2), .val (.int p3), .val (.long q4), .second, .val (.int p5), .val (.int k1), .val (.int k2), .val (.long (Int64.ofNat A)), .second, .val (.long (Int64.ofNat B)), .second, .val (.int (p5 &&& (3 : Int32))), .val (.long qq), .second, .val (.ref o), .val (.int (1 : Int32)), .unset, .unset] []))
        refine own_pre (fun _ kz_ => XS.iload X5.here hx rfl (hb hby at_150) rfl kz_) ?_
        show OwnGoes p e below _ (T5.setTop (mkF m 152 #[.val (.int p0), .val (.int p1), .val (.int p2), .val (.int p3), .val (.long q4), .second, .val (.int p5), .val (.int k1), .val (.int k2), .val (.long (Int64.ofNat A)), .second, .val (.long (Int64.ofNat B)), .second, .val (.int (p5 &&& (3 : Int32))), .val (.long qq), .second, .val (.ref o), .val (.int (1 : Int32)), .unset, .unset] [(.int k1)]))
        refine own_pre (fun _ kz_ => XS.goto X5.here hx rfl (pc0 := 152) (pc' := 156) rfl (hb hby at_152) (by decide) (by decide) kz_) ?_
        show OwnGoes p e below _ (T5.setTop (mkF m 156 #[.val (.int p0), .val (.int p1), .val (.int p2), .val (.int p3), .val (.long q4), .second, .val (.int p5), .val (.int k1), .val (.int k2), .val (.long (Int64.ofNat A)), .second, .val (.long (Int64.ofNat B)), .second, .val (.int (p5 &&& (3 : Int32))), .val (.long qq), .second, .val (.ref o), .val (.int (1 : Int32)), .unset, .unset] [(.int k1)]))
        refine own_pre (fun _ kz_ => XS.istore X5.here hx rfl (hb hby at_156) rfl (l' := #[.val (.int p0), .val (.int p1), .val (.int p2), .val (.int p3), .val (.long q4), .second, .val (.int p5), .val (.int k1), .val (.int k2), .val (.long (Int64.ofNat A)), .second, .val (.long (Int64.ofNat B)), .second, .val (.int (p5 &&& (3 : Int32))), .val (.long qq), .second, .val (.ref o), .val (.int (1 : Int32)), .val (.int k1), .unset]) rfl kz_) ?_
        show OwnGoes p e below _ (T5.setTop (mkF m 158 #[.val (.int p0), .val (.int p1), .val (.int p2), .val (.int p3), .val (.long q4), .second, .val (.int p5), .val (.int k1), .val (.int k2), .val (.long (Int64.ofNat A)), .second, .val (.long (Int64.ofNat B)), .second, .val (.int (p5 &&& (3 : Int32))), .val (.long qq), .second, .val (.ref o), .val (.int (1 : Int32)), .val (.int k1), .unset] []))
        refine own_pre (fun _ kz_ => XS.lload X5.here hx rfl (hb hby at_158) rfl kz_) ?_
        show OwnGoes p e below _ (T5.setTop (mkF m 160 #[.val (.int p0), .val (.int p1), .val (.int p2), .val (.int p3), .val (.long q4), .second, .val (.int p5), .val (.int k1), .val (.int k2), .val (.long (Int64.ofNat A)), .second, .val (.long (Int64.ofNat B)), .second, .val (.int (p5 &&& (3 : Int32))), .val (.long qq), .second, .val (.ref o), .val (.int (1 : Int32)), .val (.int k1), .unset] [(.long (Int64.ofNat A))]))
        refine own_pre (fun _ kz_ => XS.lload X5.here hx rfl (hb hby at_160) rfl kz_) ?_
        show OwnGoes p e below _ (T5.setTop (mkF m 162 #[.val (.int p0), .val (.int p1), .val (.int p2), .val (.int p3), .val (.long q4), .second, .val (.int p5), .val (.int k1), .val (.int k2), .val (.long (Int64.ofNat A)), .second, .val (.long (Int64.ofNat B)), .second, .val (.int (p5 &&& (3 : Int32))), .val (.long qq), .second, .val (.ref o), .val (.int (1 : Int32)), .val (.int k1), .unset] [(.long (Int64.ofNat B)), (.long (Int64.ofNat A))]))
        refine own_pre (fun _ kz_ => XS.lcmp X5.here hx rfl (hb hby at_162) rfl kz_) ?_
        show OwnGoes p e below _ (T5.setTop (mkF m 163 #[.val (.int p0), .val (.int p1), .val (.int p2), .val (.int p3), .val (.long q4), .second, .val (.int p5), .val (.int k1), .val (.int k2), .val (.long (Int64.ofNat A)), .second, .val (.long (Int64.ofNat B)), .second, .val (.int (p5 &&& (3 : Int32))), .val (.long qq), .second, .val (.ref o), .val (.int (1 : Int32)), .val (.int k1), .unset] [(.int (lcmpW (Int64.ofNat A) (Int64.ofNat B)))]))
        by_cases h163 : (Int64.ofNat A) = (Int64.ofNat B)
        · refine own_pre (fun _ kz_ => XS.ifNo X5.here hx rfl (hb hby at_163) rfl ((if0 _ _).trans (teq ((lw_eq (Int64.ofNat A) (Int64.ofNat B)).mpr h163)).2) kz_) ?_
          show OwnGoes p e below _ (T5.setTop (mkF m 166 #[.val (.int p0), .val (.int p1), .val (.int p2), .val (.int p3), .val (.long q4), .second, .val (.int p5), .val (.int k1), .val (.int k2), .val (.long (Int64.ofNat A)), .second, .val (.long (Int64.ofNat B)), .second, .val (.int (p5 &&& (3 : Int32))), .val (.long qq), .second, .val (.ref o), .val (.int (1 : Int32)), .val (.int k1), .unset] []))
          refine own_pre (fun _ kz_ => XS.iload X5.here hx rfl (hb hby at_166) rfl kz_) ?_
          show OwnGoes p e below _ (T5.setTop (mkF m 168 #[.val (.int p0), .val (.int p1), .val (.int p2), .val (.int p3), .val (.long q4), .second, .val (.int p5), .val (.int k1), .val (.int k2), .val (.long (Int64.ofNat A)), .second, .val (.long (Int64.ofNat B)), .second, .val (.int (p5 &&& (3 : Int32))), .val (.long qq), .second, .val (.ref o), .val (.int (1 : Int32)), .val (.int k1), .unset] [(.int k2)]))
          refine own_pre (fun _ kz_ => XS.goto X5.here hx rfl (pc0 := 168) (pc' := 173) rfl (hb hby at_168) (by decide) (by decide) kz_) ?_
          show OwnGoes p e below _ (T5.setTop (mkF m 173 #[.val (.int p0), .val (.int p1), .val (.int p2), .val (.int p3), .val (.long q4), .second, .val (.int p5), .val (.int k1), .val (.int k2), .val (.long (Int64.ofNat A)), .second, .val (.long (Int64.ofNat B)), .second, .val (.int (p5 &&& (3 : Int32))), .val (.long qq), .second, .val (.ref o), .val (.int (1 : Int32)), .val (.int k1), .unset] [(.int k2)]))
          refine own_pre (fun _ kz_ => XS.istore X5.here hx rfl (hb hby at_173) rfl (l' := #[.val (.int p0), .val (.int p1), .val (.int p2), .val (.int p3), .val (.long q4), .second, .val (.int p5), .val (.int k1), .val (.int k2), .val (.long (Int64.ofNat A)), .second, .val (.long (Int64.ofNat B)), .second, .val (.int (p5 &&& (3 : Int32))), .val (.long qq), .second, .val (.ref o), .val (.int (1 : Int32)), .val (.int k1), .val (.int k2)]) rfl kz_) ?_
          show OwnGoes p e below _ (T5.setTop (mkF m 175 #[.val (.int p0), .val (.int p1), .val (.int p2), .val (.int p3), .val (.long q4), .second, .val (.int p5), .val (.int k1), .val (.int k2), .val (.long (Int64.ofNat A)), .second, .val (.long (Int64.ofNat B)), .second, .val (.int (p5 &&& (3 : Int32))), .val (.long qq), .second, .val (.ref o), .val (.int (1 : Int32)), .val (.int k1), .val (.int k2)] []))
          refine own_pre (fun _ kz_ => XS.iload X5.here hx rfl (hb hby at_175) rfl kz_) ?_
          show OwnGoes p e below _ (T5.setTop (mkF m 177 #[.val (.int p0), .val (.int p1), .val (.int p2), .val (.int p3), .val (.long q4), .second, .val (.int p5), .val (.int k1), .val (.int k2), .val (.long (Int64.ofNat A)), .second, .val (.long (Int64.ofNat B)), .second, .val (.int (p5 &&& (3 : Int32))), .val (.long qq), .second, .val (.ref o), .val (.int (1 : Int32)), .val (.int k1), .val (.int k2)] [(.int (1 : Int32))]))
          refine own_pre (fun _ kz_ => XS.ifNo X5.here hx rfl (hb hby at_177) rfl ((if0 _ _).trans (feq (by decide : ¬ ((1 : Int32) = (0 : Int32)))).1) kz_) ?_
          show OwnGoes p e below _ (T5.setTop (mkF m 180 #[.val (.int p0), .val (.int p1), .val (.int p2), .val (.int p3), .val (.long q4), .second, .val (.int p5), .val (.int k1), .val (.int k2), .val (.long (Int64.ofNat A)), .second, .val (.long (Int64.ofNat B)), .second, .val (.int (p5 &&& (3 : Int32))), .val (.long qq), .second, .val (.ref o), .val (.int (1 : Int32)), .val (.int k1), .val (.int k2)] []))
          refine own_pre (fun _ kz_ => XS.aload X5.here hx rfl (hb hby at_180) rfl rfl kz_) ?_
          show OwnGoes p e below _ (T5.setTop (mkF m 182 #[.val (.int p0), .val (.int p1), .val (.int p2), .val (.int p3), .val (.long q4), .second, .val (.int p5), .val (.int k1), .val (.int k2), .val (.long (Int64.ofNat A)), .second, .val (.long (Int64.ofNat B)), .second, .val (.int (p5 &&& (3 : Int32))), .val (.long qq), .second, .val (.ref o), .val (.int (1 : Int32)), .val (.int k1), .val (.int k2)] [(.ref o)]))
          refine own_pre (fun _ kz_ => XS.lload X5.here hx rfl (hb hby at_182) rfl kz_) ?_
          show OwnGoes p e below _ (T5.setTop (mkF m 184 #[.val (.int p0), .val (.int p1), .val (.int p2), .val (.int p3), .val (.long q4), .second, .val (.int p5), .val (.int k1), .val (.int k2), .val (.long (Int64.ofNat A)), .second, .val (.long (Int64.ofNat B)), .second, .val (.int (p5 &&& (3 : Int32))), .val (.long qq), .second, .val (.ref o), .val (.int (1 : Int32)), .val (.int k1), .val (.int k2)] [(.long qq), (.ref o)]))
          obtain ⟨cq10, kq10, q10a, q10b, q10c⟩ := isOf hZ rfl E5x
          obtain ⟨_, _, ⟨T10, L10, k10, n10⟩, -, X10, ⟨Lc10, hQ10, l10, y10, z10⟩, st10⟩ := X5.virtualBack hx (y := (⟨"com/example/holdfast/holdfast/store/ObjectIndex", "classId", "(J)I"⟩ : MethodName)) (z := (⟨"com/example/holdfast/holdfast/store/ObjectIndex", "classId", "(J)I"⟩ : MethodName)) hown (mvT hZ (hw _ (List.mem_of_getElem? (i := 43) rfl))) (mvT hZ (hw _ (List.mem_of_getElem? (i := 44) rfl))) (notFace_of_selects (args := #[]) (mvT hZ (hw _ (List.mem_of_getElem? (i := 46) rfl)))) (mvT hZ (hw _ (List.mem_of_getElem? (i := 46) rfl))) (mvT hZ (hw _ (List.mem_of_getElem? (i := 45) rfl))) (by decide) (backOf (W := 0) (rmCl l Z a0 hw [] o qq cs2 k1 T5.heap n0 Z5 I5q (by omega) (own_x2 hA1 hA2 get1 get2 h134 h147)) hZ (hw _ (List.mem_of_getElem? (i := 47) rfl)) (hw _ (List.mem_of_getElem? (i := 3) rfl)) (by decide) (by decide)) q10a q10c (g := (mkF m 184 #[.val (.int p0), .val (.int p1), .val (.int p2), .val (.int p3), .val (.long q4), .second, .val (.int p5), .val (.int k1), .val (.int k2), .val (.long (Int64.ofNat A)), .second, .val (.long (Int64.ofNat B)), .second, .val (.int (p5 &&& (3 : Int32))), .val (.long qq), .second, .val (.ref o), .val (.int (1 : Int32)), .val (.int k1), .val (.int k2)] [(.long qq), (.ref o)])) rfl (by rw [hml]; rfl) (Steps.refl _) (argsL := [(.long qq)]) (rest := []) (lenOf (d := "(J)I") (ps := [.long]) (r := some .int) (by decide +kernel) rfl) rfl (by show 2 * 0 + _ ≤ _; exact Nat.le_of_eq rfl) (hb hby at_184) (fun _ _ => ⟨rfl, rfl, (by decide : 15 + 0 ≤ _), (by decide : 36873 + 0 ≤ _)⟩)
          dsimp only [Pt.U, Pt.locs, Pt.cells, Pt.slots] at X10 l10 y10 z10 st10 hQ10
          subst l10 y10 z10
          obtain ⟨rfl, N10q, e10⟩ := hQ10
          have N10 := Fr.app N5 N10q
          refine own_tr st10 ?_
          show OwnGoes p e below _ (T10.setTop (mkF m 187 #[.val (.int p0), .val (.int p1), .val (.int p2), .val (.int p3), .val (.long q4), .second, .val (.int p5), .val (.int k1), .val (.int k2), .val (.long (Int64.ofNat A)), .second, .val (.long (Int64.ofNat B)), .second, .val (.int (p5 &&& (3 : Int32))), .val (.long qq), .second, .val (.ref o), .val (.int (1 : Int32)), .val (.int k1), .val (.int k2)] [(.int k1)]))
          refine own_pre (fun _ kz_ => XS.iload X10.here hx rfl (hb hby at_187) rfl kz_) ?_
          show OwnGoes p e below _ (T10.setTop (mkF m 189 #[.val (.int p0), .val (.int p1), .val (.int p2), .val (.int p3), .val (.long q4), .second, .val (.int p5), .val (.int k1), .val (.int k2), .val (.long (Int64.ofNat A)), .second, .val (.long (Int64.ofNat B)), .second, .val (.int (p5 &&& (3 : Int32))), .val (.long qq), .second, .val (.ref o), .val (.int (1 : Int32)), .val (.int k1), .val (.int k2)] [(.int k1), (.int k1)]))
          refine own_pre (fun _ kz_ => XS.icmpNo X10.here hx rfl (hb hby at_189) rfl (teq (rfl : k1 = k1)).2 kz_) ?_
          show OwnGoes p e below _ (T10.setTop (mkF m 192 #[.val (.int p0), .val (.int p1), .val (.int p2), .val (.int p3), .val (.long q4), .second, .val (.int p5), .val (.int k1), .val (.int k2), .val (.long (Int64.ofNat A)), .second, .val (.long (Int64.ofNat B)), .second, .val (.int (p5 &&& (3 : Int32))), .val (.long qq), .second, .val (.ref o), .val (.int (1 : Int32)), .val (.int k1), .val (.int k2)] []))
          refine own_pre (fun _ kz_ => XS.aload X10.here hx rfl (hb hby at_192) rfl rfl kz_) ?_
          show OwnGoes p e below _ (T10.setTop (mkF m 194 #[.val (.int p0), .val (.int p1), .val (.int p2), .val (.int p3), .val (.long q4), .second, .val (.int p5), .val (.int k1), .val (.int k2), .val (.long (Int64.ofNat A)), .second, .val (.long (Int64.ofNat B)), .second, .val (.int (p5 &&& (3 : Int32))), .val (.long qq), .second, .val (.ref o), .val (.int (1 : Int32)), .val (.int k1), .val (.int k2)] [(.ref o)]))
          refine own_pre (fun _ kz_ => XS.lload X10.here hx rfl (hb hby at_194) rfl kz_) ?_
          show OwnGoes p e below _ (T10.setTop (mkF m 196 #[.val (.int p0), .val (.int p1), .val (.int p2), .val (.int p3), .val (.long q4), .second, .val (.int p5), .val (.int k1), .val (.int k2), .val (.long (Int64.ofNat A)), .second, .val (.long (Int64.ofNat B)), .second, .val (.int (p5 &&& (3 : Int32))), .val (.long qq), .second, .val (.ref o), .val (.int (1 : Int32)), .val (.int k1), .val (.int k2)] [(.long (Int64.ofNat A)), (.ref o)]))
          obtain ⟨cq11, kq11, q11a, q11b, q11c⟩ := isOf hZ e10 E5x
          obtain ⟨_, _, ⟨T11, L11, k11, n11⟩, -, X11, ⟨Lc11, hQ11, l11, y11, z11⟩, st11⟩ := X10.virtualBack hx (y := (⟨"com/example/holdfast/holdfast/store/ObjectIndex", "classId", "(J)I"⟩ : MethodName)) (z := (⟨"com/example/holdfast/holdfast/store/ObjectIndex", "classId", "(J)I"⟩ : MethodName)) hown (mvT hZ (hw _ (List.mem_of_getElem? (i := 43) rfl))) (mvT hZ (hw _ (List.mem_of_getElem? (i := 44) rfl))) (notFace_of_selects (args := #[]) (mvT hZ (hw _ (List.mem_of_getElem? (i := 46) rfl)))) (mvT hZ (hw _ (List.mem_of_getElem? (i := 46) rfl))) (mvT hZ (hw _ (List.mem_of_getElem? (i := 45) rfl))) (by decide) (backOf (W := 0) (rmCl l Z a0 hw [] o (Int64.ofNat A) cs2 k2 T5.heap n0 Z5 I5q (by omega) (own_x1 hB1 hB2 get2 h163)) hZ (hw _ (List.mem_of_getElem? (i := 47) rfl)) (hw _ (List.mem_of_getElem? (i := 3) rfl)) (by decide) (by decide)) q11a q11c (g := (mkF m 196 #[.val (.int p0), .val (.int p1), .val (.int p2), .val (.int p3), .val (.long q4), .second, .val (.int p5), .val (.int k1), .val (.int k2), .val (.long (Int64.ofNat A)), .second, .val (.long (Int64.ofNat B)), .second, .val (.int (p5 &&& (3 : Int32))), .val (.long qq), .second, .val (.ref o), .val (.int (1 : Int32)), .val (.int k1), .val (.int k2)] [(.long (Int64.ofNat A)), (.ref o)])) rfl (by rw [hml]; rfl) (Steps.refl _) (argsL := [(.long (Int64.ofNat A))]) (rest := []) (lenOf (d := "(J)I") (ps := [.long]) (r := some .int) (by decide +kernel) rfl) rfl (by show 2 * 0 + _ ≤ _; exact Nat.le_of_eq rfl) (hb hby at_196) (fun _ _ => ⟨rfl, e10, (by decide : 15 + 0 ≤ _), (by decide : 36873 + 0 ≤ _)⟩)
          dsimp only [Pt.U, Pt.locs, Pt.cells, Pt.slots] at X11 l11 y11 z11 st11 hQ11
          subst l11 y11 z11
          obtain ⟨rfl, N11q, e11⟩ := hQ11
          have N11 := Fr.app N10 N11q
          refine own_tr st11 ?_
          show OwnGoes p e below _ (T11.setTop (mkF m 199 #[.val (.int p0), .val (.int p1), .val (.int p2), .val (.int p3), .val (.long q4), .second, .val (.int p5), .val (.int k1), .val (.int k2), .val (.long (Int64.ofNat A)), .second, .val (.long (Int64.ofNat B)), .second, .val (.int (p5 &&& (3 : Int32))), .val (.long qq), .second, .val (.ref o), .val (.int (1 : Int32)), .val (.int k1), .val (.int k2)] [(.int k2)]))
          refine own_pre (fun _ kz_ => XS.iload X11.here hx rfl (hb hby at_199) rfl kz_) ?_
          show OwnGoes p e below _ (T11.setTop (mkF m 201 #[.val (.int p0), .val (.int p1), .val (.int p2), .val (.int p3), .val (.long q4), .second, .val (.int p5), .val (.int k1), .val (.int k2), .val (.long (Int64.ofNat A)), .second, .val (.long (Int64.ofNat B)), .second, .val (.int (p5 &&& (3 : Int32))), .val (.long qq), .second, .val (.ref o), .val (.int (1 : Int32)), .val (.int k1), .val (.int k2)] [(.int k2), (.int k2)]))
          refine own_pre (fun _ kz_ => XS.icmpNo X11.here hx rfl (hb hby at_201) rfl (teq (rfl : k2 = k2)).2 kz_) ?_
          show OwnGoes p e below _ (T11.setTop (mkF m 204 #[.val (.int p0), .val (.int p1), .val (.int p2), .val (.int p3), .val (.long q4), .second, .val (.int p5), .val (.int k1), .val (.int k2), .val (.long (Int64.ofNat A)), .second, .val (.long (Int64.ofNat B)), .second, .val (.int (p5 &&& (3 : Int32))), .val (.long qq), .second, .val (.ref o), .val (.int (1 : Int32)), .val (.int k1), .val (.int k2)] []))
          refine own_pre (fun _ kz_ => XS.iconst X11.here hx rfl (hb hby at_204) kz_) ?_
          show OwnGoes p e below _ (T11.setTop (mkF m 205 #[.val (.int p0), .val (.int p1), .val (.int p2), .val (.int p3), .val (.long q4), .second, .val (.int p5), .val (.int k1), .val (.int k2), .val (.long (Int64.ofNat A)), .second, .val (.long (Int64.ofNat B)), .second, .val (.int (p5 &&& (3 : Int32))), .val (.long qq), .second, .val (.ref o), .val (.int (1 : Int32)), .val (.int k1), .val (.int k2)] [(.int (1 : Int32))]))
          refine own_pre (fun _ kz_ => XS.goto X11.here hx rfl (pc0 := 205) (pc' := 209) rfl (hb hby at_205) (by decide) (by decide) kz_) ?_
          show OwnGoes p e below _ (T11.setTop (mkF m 209 #[.val (.int p0), .val (.int p1), .val (.int p2), .val (.int p3), .val (.long q4), .second, .val (.int p5), .val (.int k1), .val (.int k2), .val (.long (Int64.ofNat A)), .second, .val (.long (Int64.ofNat B)), .second, .val (.int (p5 &&& (3 : Int32))), .val (.long qq), .second, .val (.ref o), .val (.int (1 : Int32)), .val (.int k1), .val (.int k2)] [(.int (1 : Int32))]))
          exact own_ret X11 hx Bd.returns (rfl) (Or.inl ⟨rfl, by simp, _, rfl⟩) Bd.notSynchronized (hb hby at_209) ⟨rfl, N11⟩ (by decide) (by decide)
        · refine own_pre (fun _ kz_ => XS.ifYes X5.here hx rfl (pc0 := 163) (pc' := 171) rfl (hb hby at_163) rfl ((if0 _ _).trans (feq (fun qz_ => h163 ((lw_eq (Int64.ofNat A) (Int64.ofNat B)).mp qz_))).2) (by decide) (by decide) kz_) ?_
          show OwnGoes p e below _ (T5.setTop (mkF m 171 #[.val (.int p0), .val (.int p1), .val (.int p2), .val (.int p3), .val (.long q4), .second, .val (.int p5), .val (.int k1), .val (.int k2), .val (.long (Int64.ofNat A)), .second, .val (.long (Int64.ofNat B)), .second, .val (.int (p5 &&& (3 : Int32))), .val (.long qq), .second, .val (.ref o), .val (.int (1 : Int32)), .val (.int k1), .unset] []))
          refine own_pre (fun _ kz_ => XS.iload X5.here hx rfl (hb hby at_171) rfl kz_) ?_
          show OwnGoes p e below _ (T5.setTop (mkF m 173 #[.val (.int p0), .val (.int p1), .val (.int p2), .val (.int p3), .val (.long q4), .second, .val (.int p5), .val (.int k1), .val (.int k2), .val (.long (Int64.ofNat A)), .second, .val (.long (Int64.ofNat B)), .second, .val (.int (p5 &&& (3 : Int32))), .val (.long qq), .second, .val (.ref o), .val (.int (1 : Int32)), .val (.int k1), .unset] [(.int k1)]))
          refine own_pre (fun _ kz_ => XS.istore X5.here hx rfl (hb hby at_173) rfl (l' := #[.val (.int p0), .val (.int p1), .val (.int p2), .val (.int p3), .val (.long q4), .second, .val (.int p5), .val (.int k1), .val (.int k2), .val (.long (Int64.ofNat A)), .second, .val (.long (Int64.ofNat B)), .second, .val (.int (p5 &&& (3 : Int32))), .val (.long qq), .second, .val (.ref o), .val (.int (1 : Int32)), .val (.int k1), .val (.int k1)]) rfl kz_) ?_
          show OwnGoes p e below _ (T5.setTop (mkF m 175 #[.val (.int p0), .val (.int p1), .val (.int p2), .val (.int p3), .val (.long q4), .second, .val (.int p5), .val (.int k1), .val (.int k2), .val (.long (Int64.ofNat A)), .second, .val (.long (Int64.ofNat B)), .second, .val (.int (p5 &&& (3 : Int32))), .val (.long qq), .second, .val (.ref o), .val (.int (1 : Int32)), .val (.int k1), .val (.int k1)] []))
          refine own_pre (fun _ kz_ => XS.iload X5.here hx rfl (hb hby at_175) rfl kz_) ?_
          show OwnGoes p e below _ (T5.setTop (mkF m 177 #[.val (.int p0), .val (.int p1), .val (.int p2), .val (.int p3), .val (.long q4), .second, .val (.int p5), .val (.int k1), .val (.int k2), .val (.long (Int64.ofNat A)), .second, .val (.long (Int64.ofNat B)), .second, .val (.int (p5 &&& (3 : Int32))), .val (.long qq), .second, .val (.ref o), .val (.int (1 : Int32)), .val (.int k1), .val (.int k1)] [(.int (1 : Int32))]))
          refine own_pre (fun _ kz_ => XS.ifNo X5.here hx rfl (hb hby at_177) rfl ((if0 _ _).trans (feq (by decide : ¬ ((1 : Int32) = (0 : Int32)))).1) kz_) ?_
          show OwnGoes p e below _ (T5.setTop (mkF m 180 #[.val (.int p0), .val (.int p1), .val (.int p2), .val (.int p3), .val (.long q4), .second, .val (.int p5), .val (.int k1), .val (.int k2), .val (.long (Int64.ofNat A)), .second, .val (.long (Int64.ofNat B)), .second, .val (.int (p5 &&& (3 : Int32))), .val (.long qq), .second, .val (.ref o), .val (.int (1 : Int32)), .val (.int k1), .val (.int k1)] []))
          refine own_pre (fun _ kz_ => XS.aload X5.here hx rfl (hb hby at_180) rfl rfl kz_) ?_
          show OwnGoes p e below _ (T5.setTop (mkF m 182 #[.val (.int p0), .val (.int p1), .val (.int p2), .val (.int p3), .val (.long q4), .second, .val (.int p5), .val (.int k1), .val (.int k2), .val (.long (Int64.ofNat A)), .second, .val (.long (Int64.ofNat B)), .second, .val (.int (p5 &&& (3 : Int32))), .val (.long qq), .second, .val (.ref o), .val (.int (1 : Int32)), .val (.int k1), .val (.int k1)] [(.ref o)]))
          refine own_pre (fun _ kz_ => XS.lload X5.here hx rfl (hb hby at_182) rfl kz_) ?_
          show OwnGoes p e below _ (T5.setTop (mkF m 184 #[.val (.int p0), .val (.int p1), .val (.int p2), .val (.int p3), .val (.long q4), .second, .val (.int p5), .val (.int k1), .val (.int k2), .val (.long (Int64.ofNat A)), .second, .val (.long (Int64.ofNat B)), .second, .val (.int (p5 &&& (3 : Int32))), .val (.long qq), .second, .val (.ref o), .val (.int (1 : Int32)), .val (.int k1), .val (.int k1)] [(.long qq), (.ref o)]))
          obtain ⟨cq12, kq12, q12a, q12b, q12c⟩ := isOf hZ rfl E5x
          obtain ⟨_, _, ⟨T12, L12, k12, n12⟩, -, X12, ⟨Lc12, hQ12, l12, y12, z12⟩, st12⟩ := X5.virtualBack hx (y := (⟨"com/example/holdfast/holdfast/store/ObjectIndex", "classId", "(J)I"⟩ : MethodName)) (z := (⟨"com/example/holdfast/holdfast/store/ObjectIndex", "classId", "(J)I"⟩ : MethodName)) hown (mvT hZ (hw _ (List.mem_of_getElem? (i := 43) rfl))) (mvT hZ (hw _ (List.mem_of_getElem? (i := 44) rfl))) (notFace_of_selects (args := #[]) (mvT hZ (hw _ (List.mem_of_getElem? (i := 46) rfl)))) (mvT hZ (hw _ (List.mem_of_getElem? (i := 46) rfl))) (mvT hZ (hw _ (List.mem_of_getElem? (i := 45) rfl))) (by decide) (backOf (W := 0) (rmCl l Z a0 hw [] o qq cs2 k1 T5.heap n0 Z5 I5q (by omega) (own_x2 hA1 hA2 get1 get2 h134 h147)) hZ (hw _ (List.mem_of_getElem? (i := 47) rfl)) (hw _ (List.mem_of_getElem? (i := 3) rfl)) (by decide) (by decide)) q12a q12c (g := (mkF m 184 #[.val (.int p0), .val (.int p1), .val (.int p2), .val (.int p3), .val (.long q4), .second, .val (.int p5), .val (.int k1), .val (.int k2), .val (.long (Int64.ofNat A)), .second, .val (.long (Int64.ofNat B)), .second, .val (.int (p5 &&& (3 : Int32))), .val (.long qq), .second, .val (.ref o), .val (.int (1 : Int32)), .val (.int k1), .val (.int k1)] [(.long qq), (.ref o)])) rfl (by rw [hml]; rfl) (Steps.refl _) (argsL := [(.long qq)]) (rest := []) (lenOf (d := "(J)I") (ps := [.long]) (r := some .int) (by decide +kernel) rfl) rfl (by show 2 * 0 + _ ≤ _; exact Nat.le_of_eq rfl) (hb hby at_184) (fun _ _ => ⟨rfl, rfl, (by decide : 15 + 0 ≤ _), (by decide : 36873 + 0 ≤ _)⟩)
          dsimp only [Pt.U, Pt.locs, Pt.cells, Pt.slots] at X12 l12 y12 z12 st12 hQ12
          subst l12 y12 z12
          obtain ⟨rfl, N12q, e12⟩ := hQ12
          have N12 := Fr.app N5 N12q
          refine own_tr st12 ?_
          show OwnGoes p e below _ (T12.setTop (mkF m 187 #[.val (.int p0), .val (.int p1), .val (.int p2), .val (.int p3), .val (.long q4), .second, .val (.int p5), .val (.int k1), .val (.int k2), .val (.long (Int64.ofNat A)), .second, .val (.long (Int64.ofNat B)), .second, .val (.int (p5 &&& (3 : Int32))), .val (.long qq), .second, .val (.ref o), .val (.int (1 : Int32)), .val (.int k1), .val (.int k1)] [(.int k1)]))
          refine own_pre (fun _ kz_ => XS.iload X12.here hx rfl (hb hby at_187) rfl kz_) ?_
          show OwnGoes p e below _ (T12.setTop (mkF m 189 #[.val (.int p0), .val (.int p1), .val (.int p2), .val (.int p3), .val (.long q4), .second, .val (.int p5), .val (.int k1), .val (.int k2), .val (.long (Int64.ofNat A)), .second, .val (.long (Int64.ofNat B)), .second, .val (.int (p5 &&& (3 : Int32))), .val (.long qq), .second, .val (.ref o), .val (.int (1 : Int32)), .val (.int k1), .val (.int k1)] [(.int k1), (.int k1)]))
          refine own_pre (fun _ kz_ => XS.icmpNo X12.here hx rfl (hb hby at_189) rfl (teq (rfl : k1 = k1)).2 kz_) ?_
          show OwnGoes p e below _ (T12.setTop (mkF m 192 #[.val (.int p0), .val (.int p1), .val (.int p2), .val (.int p3), .val (.long q4), .second, .val (.int p5), .val (.int k1), .val (.int k2), .val (.long (Int64.ofNat A)), .second, .val (.long (Int64.ofNat B)), .second, .val (.int (p5 &&& (3 : Int32))), .val (.long qq), .second, .val (.ref o), .val (.int (1 : Int32)), .val (.int k1), .val (.int k1)] []))
          refine own_pre (fun _ kz_ => XS.aload X12.here hx rfl (hb hby at_192) rfl rfl kz_) ?_
          show OwnGoes p e below _ (T12.setTop (mkF m 194 #[.val (.int p0), .val (.int p1), .val (.int p2), .val (.int p3), .val (.long q4), .second, .val (.int p5), .val (.int k1), .val (.int k2), .val (.long (Int64.ofNat A)), .second, .val (.long (Int64.ofNat B)), .second, .val (.int (p5 &&& (3 : Int32))), .val (.long qq), .second, .val (.ref o), .val (.int (1 : Int32)), .val (.int k1), .val (.int k1)] [(.ref o)]))
          refine own_pre (fun _ kz_ => XS.lload X12.here hx rfl (hb hby at_194) rfl kz_) ?_
          show OwnGoes p e below _ (T12.setTop (mkF m 196 #[.val (.int p0), .val (.int p1), .val (.int p2), .val (.int p3), .val (.long q4), .second, .val (.int p5), .val (.int k1), .val (.int k2), .val (.long (Int64.ofNat A)), .second, .val (.long (Int64.ofNat B)), .second, .val (.int (p5 &&& (3 : Int32))), .val (.long qq), .second, .val (.ref o), .val (.int (1 : Int32)), .val (.int k1), .val (.int k1)] [(.long (Int64.ofNat A)), (.ref o)]))
          obtain ⟨cq13, kq13, q13a, q13b, q13c⟩ := isOf hZ e12 E5x
          obtain ⟨_, _, ⟨T13, L13, k13, n13⟩, -, X13, ⟨Lc13, hQ13, l13, y13, z13⟩, st13⟩ := X12.virtualBack hx (y := (⟨"com/example/holdfast/holdfast/store/ObjectIndex", "classId", "(J)I"⟩ : MethodName)) (z := (⟨"com/example/holdfast/holdfast/store/ObjectIndex", "classId", "(J)I"⟩ : MethodName)) hown (mvT hZ (hw _ (List.mem_of_getElem? (i := 43) rfl))) (mvT hZ (hw _ (List.mem_of_getElem? (i := 44) rfl))) (notFace_of_selects (args := #[]) (mvT hZ (hw _ (List.mem_of_getElem? (i := 46) rfl)))) (mvT hZ (hw _ (List.mem_of_getElem? (i := 46) rfl))) (mvT hZ (hw _ (List.mem_of_getElem? (i := 45) rfl))) (by decide) (backOf (W := 0) (rmCl l Z a0 hw [] o (Int64.ofNat A) cs2 k1 T5.heap n0 Z5 I5q (by omega) (own_x2 hA1 hA2 get1 get2 h163 rfl)) hZ (hw _ (List.mem_of_getElem? (i := 47) rfl)) (hw _ (List.mem_of_getElem? (i := 3) rfl)) (by decide) (by decide)) q13a q13c (g := (mkF m 196 #[.val (.int p0), .val (.int p1), .val (.int p2), .val (.int p3), .val (.long q4), .second, .val (.int p5), .val (.int k1), .val (.int k2), .val (.long (Int64.ofNat A)), .second, .val (.long (Int64.ofNat B)), .second, .val (.int (p5 &&& (3 : Int32))), .val (.long qq), .second, .val (.ref o), .val (.int (1 : Int32)), .val (.int k1), .val (.int k1)] [(.long (Int64.ofNat A)), (.ref o)])) rfl (by rw [hml]; rfl) (Steps.refl _) (argsL := [(.long (Int64.ofNat A))]) (rest := []) (lenOf (d := "(J)I") (ps := [.long]) (r := some .int) (by decide +kernel) rfl) rfl (by show 2 * 0 + _ ≤ _; exact Nat.le_of_eq rfl) (hb hby at_196) (fun _ _ => ⟨rfl, e12, (by decide : 15 + 0 ≤ _), (by decide : 36873 + 0 ≤ _)⟩)
          dsimp only [Pt.U, Pt.locs, Pt.cells, Pt.slots] at X13 l13 y13 z13 st13 hQ13
          subst l13 y13 z13
          obtain ⟨rfl, N13q, e13⟩ := hQ13
          have N13 := Fr.app N12 N13q
          refine own_tr st13 ?_
          show OwnGoes p e below _ (T13.setTop (mkF m 199 #[.val (.int p0), .val (.int p1), .val (.int p2), .val (.int p3), .val (.long q4), .second, .val (.int p5), .val (.int k1), .val (.int k2), .val (.long (Int64.ofNat A)), .second, .val (.long (Int64.ofNat B)), .second, .val (.int (p5 &&& (3 : Int32))), .val (.long qq), .second, .val (.ref o), .val (.int (1 : Int32)), .val (.int k1), .val (.int k1)] [(.int k1)]))
          refine own_pre (fun _ kz_ => XS.iload X13.here hx rfl (hb hby at_199) rfl kz_) ?_
          show OwnGoes p e below _ (T13.setTop (mkF m 201 #[.val (.int p0), .val (.int p1), .val (.int p2), .val (.int p3), .val (.long q4), .second, .val (.int p5), .val (.int k1), .val (.int k2), .val (.long (Int64.ofNat A)), .second, .val (.long (Int64.ofNat B)), .second, .val (.int (p5 &&& (3 : Int32))), .val (.long qq), .second, .val (.ref o), .val (.int (1 : Int32)), .val (.int k1), .val (.int k1)] [(.int k1), (.int k1)]))
          refine own_pre (fun _ kz_ => XS.icmpNo X13.here hx rfl (hb hby at_201) rfl (teq (rfl : k1 = k1)).2 kz_) ?_
          show OwnGoes p e below _ (T13.setTop (mkF m 204 #[.val (.int p0), .val (.int p1), .val (.int p2), .val (.int p3), .val (.long q4), .second, .val (.int p5), .val (.int k1), .val (.int k2), .val (.long (Int64.ofNat A)), .second, .val (.long (Int64.ofNat B)), .second, .val (.int (p5 &&& (3 : Int32))), .val (.long qq), .second, .val (.ref o), .val (.int (1 : Int32)), .val (.int k1), .val (.int k1)] []))
          refine own_pre (fun _ kz_ => XS.iconst X13.here hx rfl (hb hby at_204) kz_) ?_
          show OwnGoes p e below _ (T13.setTop (mkF m 205 #[.val (.int p0), .val (.int p1), .val (.int p2), .val (.int p3), .val (.long q4), .second, .val (.int p5), .val (.int k1), .val (.int k2), .val (.long (Int64.ofNat A)), .second, .val (.long (Int64.ofNat B)), .second, .val (.int (p5 &&& (3 : Int32))), .val (.long qq), .second, .val (.ref o), .val (.int (1 : Int32)), .val (.int k1), .val (.int k1)] [(.int (1 : Int32))]))
          refine own_pre (fun _ kz_ => XS.goto X13.here hx rfl (pc0 := 205) (pc' := 209) rfl (hb hby at_205) (by decide) (by decide) kz_) ?_
          show OwnGoes p e below _ (T13.setTop (mkF m 209 #[.val (.int p0), .val (.int p1), .val (.int p2), .val (.int p3), .val (.long q4), .second, .val (.int p5), .val (.int k1), .val (.int k2), .val (.long (Int64.ofNat A)), .second, .val (.long (Int64.ofNat B)), .second, .val (.int (p5 &&& (3 : Int32))), .val (.long qq), .second, .val (.ref o), .val (.int (1 : Int32)), .val (.int k1), .val (.int k1)] [(.int (1 : Int32))]))
          exact own_ret X13 hx Bd.returns (rfl) (Or.inl ⟨rfl, by simp, _, rfl⟩) Bd.notSynchronized (hb hby at_209) ⟨rfl, N13⟩ (by decide) (by decide)
      · refine own_pre (fun _ kz_ => XS.ifYes X5.here hx rfl (pc0 := 147) (pc' := 155) rfl (hb hby at_147) rfl ((if0 _ _).trans (feq (fun qz_ => h147 ((lw_eq qq (Int64.ofNat A)).mp qz_))).2) (by decide) (by decide) kz_) ?_
        show OwnGoes p e below _ (T5.setTop (mkF m 155 #[.val (.int p0), .val (.int p1), .val (.int p2), .val (.int p3), .val (.long q4), .second, .val (.int p5), .val (.int k1), .val (.int k2), .val (.long (Int64.ofNat A)), .second, .val (.long (Int64.ofNat B)), .second, .val (.int (p5 &&& (3 : Int32))), .val (.long qq), .second, .val (.ref o), .val (.int (1 : Int32)), .unset, .unset] []))
        refine own_pre (fun _ kz_ => XS.iconst X5.here hx rfl (hb hby at_155) kz_) ?_
        show OwnGoes p e below _ (T5.setTop (mkF m 156 #[.val (.int p0), .val (.int p1), .val (.int p2), .val (.int p3), .val (.long q4), .second, .val (.int p5), .val (.int k1), .val (.int k2), .val (.long (Int64.ofNat A)), .second, .val (.long (Int64.ofNat B)), .second, .val (.int (p5 &&& (3 : Int32))), .val (.long qq), .second, .val (.ref o), .val (.int (1 : Int32)), .unset, .unset] [(.int (-1 : Int32))]))
        refine own_pre (fun _ kz_ => XS.istore X5.here hx rfl (hb hby at_156) rfl (l' := #[.val (.int p0), .val (.int p1), .val (.int p2), .val (.int p3), .val (.long q4), .second, .val (.int p5), .val (.int k1), .val (.int k2), .val (.long (Int64.ofNat A)), .second, .val (.long (Int64.ofNat B)), .second, .val (.int (p5 &&& (3 : Int32))), .val (.long qq), .second, .val (.ref o), .val (.int (1 : Int32)), .val (.int (-1 : Int32)), .unset]) rfl kz_) ?_
        show OwnGoes p e below _ (T5.setTop (mkF m 158 #[.val (.int p0), .val (.int p1), .val (.int p2), .val (.int p3), .val (.long q4), .second, .val (.int p5), .val (.int k1), .val (.int k2), .val (.long (Int64.ofNat A)), .second, .val (.long (Int64.ofNat B)), .second, .val (.int (p5 &&& (3 : Int32))), .val (.long qq), .second, .val (.ref o), .val (.int (1 : Int32)), .val (.int (-1 : Int32)), .unset] []))
        refine own_pre (fun _ kz_ => XS.lload X5.here hx rfl (hb hby at_158) rfl kz_) ?_
        show OwnGoes p e below _ (T5.setTop (mkF m 160 #[.val (.int p0), .val (.int p1), .val (.int p2), .val (.int p3), .val (.long q4), .second, .val (.int p5), .val (.int k1), .val (.int k2), .val (.long (Int64.ofNat A)), .second, .val (.long (Int64.ofNat B)), .second, .val (.int (p5 &&& (3 : Int32))), .val (.long qq), .second, .val (.ref o), .val (.int (1 : Int32)), .val (.int (-1 : Int32)), .unset] [(.long (Int64.ofNat A))]))
        refine own_pre (fun _ kz_ => XS.lload X5.here hx rfl (hb hby at_160) rfl kz_) ?_
        show OwnGoes p e below _ (T5.setTop (mkF m 162 #[.val (.int p0), .val (.int p1), .val (.int p2), .val (.int p3), .val (.long q4), .second, .val (.int p5), .val (.int k1), .val (.int k2), .val (.long (Int64.ofNat A)), .second, .val (.long (Int64.ofNat B)), .second, .val (.int (p5 &&& (3 : Int32))), .val (.long qq), .second, .val (.ref o), .val (.int (1 : Int32)), .val (.int (-1 : Int32)), .unset] [(.long (Int64.ofNat B)), (.long (Int64.ofNat A))]))
        refine own_pre (fun _ kz_ => XS.lcmp X5.here hx rfl (hb hby at_162) rfl kz_) ?_
        show OwnGoes p e below _ (T5.setTop (mkF m 163 #[.val (.int p0), .val (.int p1), .val (.int p2), .val (.int p3), .val (.long q4), .second, .val (.int p5), .val (.int k1), .val (.int k2), .val (.long (Int64.ofNat A)), .second, .val (.long (Int64.ofNat B)), .second, .val (.int (p5 &&& (3 : Int32))), .val (.long qq), .second, .val (.ref o), .val (.int (1 : Int32)), .val (.int (-1 : Int32)), .unset] [(.int (lcmpW (Int64.ofNat A) (Int64.ofNat B)))]))
        by_cases h163 : (Int64.ofNat A) = (Int64.ofNat B)
        · refine own_pre (fun _ kz_ => XS.ifNo X5.here hx rfl (hb hby at_163) rfl ((if0 _ _).trans (teq ((lw_eq (Int64.ofNat A) (Int64.ofNat B)).mpr h163)).2) kz_) ?_
          show OwnGoes p e below _ (T5.setTop (mkF m 166 #[.val (.int p0), .val (.int p1), .val (.int p2), .val (.int p3), .val (.long q4), .second, .val (.int p5), .val (.int k1), .val (.int k2), .val (.long (Int64.ofNat A)), .second, .val (.long (Int64.ofNat B)), .second, .val (.int (p5 &&& (3 : Int32))), .val (.long qq), .second, .val (.ref o), .val (.int (1 : Int32)), .val (.int (-1 : Int32)), .unset] []))
          refine own_pre (fun _ kz_ => XS.iload X5.here hx rfl (hb hby at_166) rfl kz_) ?_
          show OwnGoes p e below _ (T5.setTop (mkF m 168 #[.val (.int p0), .val (.int p1), .val (.int p2), .val (.int p3), .val (.long q4), .second, .val (.int p5), .val (.int k1), .val (.int k2), .val (.long (Int64.ofNat A)), .second, .val (.long (Int64.ofNat B)), .second, .val (.int (p5 &&& (3 : Int32))), .val (.long qq), .second, .val (.ref o), .val (.int (1 : Int32)), .val (.int (-1 : Int32)), .unset] [(.int k2)]))
          refine own_pre (fun _ kz_ => XS.goto X5.here hx rfl (pc0 := 168) (pc' := 173) rfl (hb hby at_168) (by decide) (by decide) kz_) ?_
          show OwnGoes p e below _ (T5.setTop (mkF m 173 #[.val (.int p0), .val (.int p1), .val (.int p2), .val (.int p3), .val (.long q4), .second, .val (.int p5), .val (.int k1), .val (.int k2), .val (.long (Int64.ofNat A)), .second, .val (.long (Int64.ofNat B)), .second, .val (.int (p5 &&& (3 : Int32))), .val (.long qq), .second, .val (.ref o), .val (.int (1 : Int32)), .val (.int (-1 : Int32)), .unset] [(.int k2)]))
          refine own_pre (fun _ kz_ => XS.istore X5.here hx rfl (hb hby at_173) rfl (l' := #[.val (.int p0), .val (.int p1), .val (.int p2), .val (.int p3), .val (.long q4), .second, .val (.int p5), .val (.int k1), .val (.int k2), .val (.long (Int64.ofNat A)), .second, .val (.long (Int64.ofNat B)), .second, .val (.int (p5 &&& (3 : Int32))), .val (.long qq), .second, .val (.ref o), .val (.int (1 : Int32)), .val (.int (-1 : Int32)), .val (.int k2)]) rfl kz_) ?_
          show OwnGoes p e below _ (T5.setTop (mkF m 175 #[.val (.int p0), .val (.int p1), .val (.int p2), .val (.int p3), .val (.long q4), .second, .val (.int p5), .val (.int k1), .val (.int k2), .val (.long (Int64.ofNat A)), .second, .val (.long (Int64.ofNat B)), .second, .val (.int (p5 &&& (3 : Int32))), .val (.long qq), .second, .val (.ref o), .val (.int (1 : Int32)), .val (.int (-1 : Int32)), .val (.int k2)] []))
          refine own_pre (fun _ kz_ => XS.iload X5.here hx rfl (hb hby at_175) rfl kz_) ?_
          show OwnGoes p e below _ (T5.setTop (mkF m 177 #[.val (.int p0), .val (.int p1), .val (.int p2), .val (.int p3), .val (.long q4), .second, .val (.int p5), .val (.int k1), .val (.int k2), .val (.long (Int64.ofNat A)), .second, .val (.long (Int64.ofNat B)), .second, .val (.int (p5 &&& (3 : Int32))), .val (.long qq), .second, .val (.ref o), .val (.int (1 : Int32)), .val (.int (-1 : Int32)), .val (.int k2)] [(.int (1 : Int32))]))
          refine own_pre (fun _ kz_ => XS.ifNo X5.here hx rfl (hb hby at_177) rfl ((if0 _ _).trans (feq (by decide : ¬ ((1 : Int32) = (0 : Int32)))).1) kz_) ?_
          show OwnGoes p e below _ (T5.setTop (mkF m 180 #[.val (.int p0), .val (.int p1), .val (.int p2), .val (.int p3), .val (.long q4), .second, .val (.int p5), .val (.int k1), .val (.int k2), .val (.long (Int64.ofNat A)), .second, .val (.long (Int64.ofNat B)), .second, .val (.int (p5 &&& (3 : Int32))), .val (.long qq), .second, .val (.ref o), .val (.int (1 : Int32)), .val (.int (-1 : Int32)), .val (.int k2)] []))
          refine own_pre (fun _ kz_ => XS.aload X5.here hx rfl (hb hby at_180) rfl rfl kz_) ?_
          show OwnGoes p e below _ (T5.setTop (mkF m 182 #[.val (.int p0), .val (.int p1), .val (.int p2), .val (.int p3), .val (.long q4), .second, .val (.int p5), .val (.int k1), .val (.int k2), .val (.long (Int64.ofNat A)), .second, .val (.long (Int64.ofNat B)), .second, .val (.int (p5 &&& (3 : Int32))), .val (.long qq), .second, .val (.ref o), .val (.int (1 : Int32)), .val (.int (-1 : Int32)), .val (.int k2)] [(.ref o)]))
          refine own_pre (fun _ kz_ => XS.lload X5.here hx rfl (hb hby at_182) rfl kz_) ?_
          show OwnGoes p e below _ (T5.setTop (mkF m 184 #[.val (.int p0), .val (.int p1), .val (.int p2), .val (.int p3), .val (.long q4), .second, .val (.int p5), .val (.int k1), .val (.int k2), .val (.long (Int64.ofNat A)), .second, .val (.long (Int64.ofNat B)), .second, .val (.int (p5 &&& (3 : Int32))), .val (.long qq), .second, .val (.ref o), .val (.int (1 : Int32)), .val (.int (-1 : Int32)), .val (.int k2)] [(.long qq), (.ref o)]))
          obtain ⟨cq14, kq14, q14a, q14b, q14c⟩ := isOf hZ rfl E5x
          obtain ⟨_, _, ⟨T14, L14, k14, n14⟩, -, X14, ⟨Lc14, hQ14, l14, y14, z14⟩, st14⟩ := X5.virtualBack hx (y := (⟨"com/example/holdfast/holdfast/store/ObjectIndex", "classId", "(J)I"⟩ : MethodName)) (z := (⟨"com/example/holdfast/holdfast/store/ObjectIndex", "classId", "(J)I"⟩ : MethodName)) hown (mvT hZ (hw _ (List.mem_of_getElem? (i := 43) rfl))) (mvT hZ (hw _ (List.mem_of_getElem? (i := 44) rfl))) (notFace_of_selects (args := #[]) (mvT hZ (hw _ (List.mem_of_getElem? (i := 46) rfl)))) (mvT hZ (hw _ (List.mem_of_getElem? (i := 46) rfl))) (mvT hZ (hw _ (List.mem_of_getElem? (i := 45) rfl))) (by decide) (backOf (W := 0) (rmCl l Z a0 hw [] o qq cs2 (-1 : Int32) T5.heap n0 Z5 I5q (by omega) (own_x3 hA2 hB2 get1 get2 h134 h147)) hZ (hw _ (List.mem_of_getElem? (i := 47) rfl)) (hw _ (List.mem_of_getElem? (i := 3) rfl)) (by decide) (by decide)) q14a q14c (g := (mkF m 184 #[.val (.int p0), .val (.int p1), .val (.int p2), .val (.int p3), .val (.long q4), .second, .val (.int p5), .val (.int k1), .val (.int k2), .val (.long (Int64.ofNat A)), .second, .val (.long (Int64.ofNat B)), .second, .val (.int (p5 &&& (3 : Int32))), .val (.long qq), .second, .val (.ref o), .val (.int (1 : Int32)), .val (.int (-1 : Int32)), .val (.int k2)] [(.long qq), (.ref o)])) rfl (by rw [hml]; rfl) (Steps.refl _) (argsL := [(.long qq)]) (rest := []) (lenOf (d := "(J)I") (ps := [.long]) (r := some .int) (by decide +kernel) rfl) rfl (by show 2 * 0 + _ ≤ _; exact Nat.le_of_eq rfl) (hb hby at_184) (fun _ _ => ⟨rfl, rfl, (by decide : 15 + 0 ≤ _), (by decide : 36873 + 0 ≤ _)⟩)
          dsimp only [Pt.U, Pt.locs, Pt.cells, Pt.slots] at X14 l14 y14 z14 st14 hQ14
          subst l14 y14 z14
          obtain ⟨rfl, N14q, e14⟩ := hQ14
          have N14 := Fr.app N5 N14q
          refine own_tr st14 ?_
          show OwnGoes p e below _ (T14.setTop (mkF m 187 #[.val (.int p0), .val (.int p1), .val (.int p2), .val (.int p3), .val (.long q4), .second, .val (.int p5), .val (.int k1), .val (.int k2), .val (.long (Int64.ofNat A)), .second, .val (.long (Int64.ofNat B)), .second, .val (.int (p5 &&& (3 : Int32))), .val (.long qq), .second, .val (.ref o), .val (.int (1 : Int32)), .val (.int (-1 : Int32)), .val (.int k2)] [(.int (-1 : Int32))]))
          refine own_pre (fun _ kz_ => XS.iload X14.here hx rfl (hb hby at_187) rfl kz_) ?_
          show OwnGoes p e below _ (T14.setTop (mkF m 189 #[.val (.int p0), .val (.int p1), .val (.int p2), .val (.int p3), .val (.long q4), .second, .val (.int p5), .val (.int k1), .val (.int k2), .val (.long (Int64.ofNat A)), .second, .val (.long (Int64.ofNat B)), .second, .val (.int (p5 &&& (3 : Int32))), .val (.long qq), .second, .val (.ref o), .val (.int (1 : Int32)), .val (.int (-1 : Int32)), .val (.int k2)] [(.int (-1 : Int32)), (.int (-1 : Int32))]))
          refine own_pre (fun _ kz_ => XS.icmpNo X14.here hx rfl (hb hby at_189) rfl (teq (rfl : (-1 : Int32) = (-1 : Int32))).2 kz_) ?_
          show OwnGoes p e below _ (T14.setTop (mkF m 192 #[.val (.int p0), .val (.int p1), .val (.int p2), .val (.int p3), .val (.long q4), .second, .val (.int p5), .val (.int k1), .val (.int k2), .val (.long (Int64.ofNat A)), .second, .val (.long (Int64.ofNat B)), .second, .val (.int (p5 &&& (3 : Int32))), .val (.long qq), .second, .val (.ref o), .val (.int (1 : Int32)), .val (.int (-1 : Int32)), .val (.int k2)] []))
          refine own_pre (fun _ kz_ => XS.aload X14.here hx rfl (hb hby at_192) rfl rfl kz_) ?_
          show OwnGoes p e below _ (T14.setTop (mkF m 194 #[.val (.int p0), .val (.int p1), .val (.int p2), .val (.int p3), .val (.long q4), .second, .val (.int p5), .val (.int k1), .val (.int k2), .val (.long (Int64.ofNat A)), .second, .val (.long (Int64.ofNat B)), .second, .val (.int (p5 &&& (3 : Int32))), .val (.long qq), .second, .val (.ref o), .val (.int (1 : Int32)), .val (.int (-1 : Int32)), .val (.int k2)] [(.ref o)]))
          refine own_pre (fun _ kz_ => XS.lload X14.here hx rfl (hb hby at_194) rfl kz_) ?_
          show OwnGoes p e below _ (T14.setTop (mkF m 196 #[.val (.int p0), .val (.int p1), .val (.int p2), .val (.int p3), .val (.long q4), .second, .val (.int p5), .val (.int k1), .val (.int k2), .val (.long (Int64.ofNat A)), .second, .val (.long (Int64.ofNat B)), .second, .val (.int (p5 &&& (3 : Int32))), .val (.long qq), .second, .val (.ref o), .val (.int (1 : Int32)), .val (.int (-1 : Int32)), .val (.int k2)] [(.long (Int64.ofNat A)), (.ref o)]))
          obtain ⟨cq15, kq15, q15a, q15b, q15c⟩ := isOf hZ e14 E5x
          obtain ⟨_, _, ⟨T15, L15, k15, n15⟩, -, X15, ⟨Lc15, hQ15, l15, y15, z15⟩, st15⟩ := X14.virtualBack hx (y := (⟨"com/example/holdfast/holdfast/store/ObjectIndex", "classId", "(J)I"⟩ : MethodName)) (z := (⟨"com/example/holdfast/holdfast/store/ObjectIndex", "classId", "(J)I"⟩ : MethodName)) hown (mvT hZ (hw _ (List.mem_of_getElem? (i := 43) rfl))) (mvT hZ (hw _ (List.mem_of_getElem? (i := 44) rfl))) (notFace_of_selects (args := #[]) (mvT hZ (hw _ (List.mem_of_getElem? (i := 46) rfl)))) (mvT hZ (hw _ (List.mem_of_getElem? (i := 46) rfl))) (mvT hZ (hw _ (List.mem_of_getElem? (i := 45) rfl))) (by decide) (backOf (W := 0) (rmCl l Z a0 hw [] o (Int64.ofNat A) cs2 k2 T5.heap n0 Z5 I5q (by omega) (own_x1 hB1 hB2 get2 h163)) hZ (hw _ (List.mem_of_getElem? (i := 47) rfl)) (hw _ (List.mem_of_getElem? (i := 3) rfl)) (by decide) (by decide)) q15a q15c (g := (mkF m 196 #[.val (.int p0), .val (.int p1), .val (.int p2), .val (.int p3), .val (.long q4), .second, .val (.int p5), .val (.int k1), .val (.int k2), .val (.long (Int64.ofNat A)), .second, .val (.long (Int64.ofNat B)), .second, .val (.int (p5 &&& (3 : Int32))), .val (.long qq), .second, .val (.ref o), .val (.int (1 : Int32)), .val (.int (-1 : Int32)), .val (.int k2)] [(.long (Int64.ofNat A)), (.ref o)])) rfl (by rw [hml]; rfl) (Steps.refl _) (argsL := [(.long (Int64.ofNat A))]) (rest := []) (lenOf (d := "(J)I") (ps := [.long]) (r := some .int) (by decide +kernel) rfl) rfl (by show 2 * 0 + _ ≤ _; exact Nat.le_of_eq rfl) (hb hby at_196) (fun _ _ => ⟨rfl, e14, (by decide : 15 + 0 ≤ _), (by decide : 36873 + 0 ≤ _)⟩)
          dsimp only [Pt.U, Pt.locs, Pt.cells, Pt.slots] at X15 l15 y15 z15 st15 hQ15
          subst l15 y15 z15
          obtain ⟨rfl, N15q, e15⟩ := hQ15
          have N15 := Fr.app N14 N15q
          refine own_tr st15 ?_
          show OwnGoes p e below _ (T15.setTop (mkF m 199 #[.val (.int p0), .val (.int p1), .val (.int p2), .val (.int p3), .val (.long q4), .second, .val (.int p5), .val (.int k1), .val (.int k2), .val (.long (Int64.ofNat A)), .second, .val (.long (Int64.ofNat B)), .second, .val (.int (p5 &&& (3 : Int32))), .val (.long qq), .second, .val (.ref o), .val (.int (1 : Int32)), .val (.int (-1 : Int32)), .val (.int k2)] [(.int k2)]))
          refine own_pre (fun _ kz_ => XS.iload X15.here hx rfl (hb hby at_199) rfl kz_) ?_
          show OwnGoes p e below _ (T15.setTop (mkF m 201 #[.val (.int p0), .val (.int p1), .val (.int p2), .val (.int p3), .val (.long q4), .second, .val (.int p5), .val (.int k1), .val (.int k2), .val (.long (Int64.ofNat A)), .second, .val (.long (Int64.ofNat B)), .second, .val (.int (p5 &&& (3 : Int32))), .val (.long qq), .second, .val (.ref o), .val (.int (1 : Int32)), .val (.int (-1 : Int32)), .val (.int k2)] [(.int k2), (.int k2)]))
          refine own_pre (fun _ kz_ => XS.icmpNo X15.here hx rfl (hb hby at_201) rfl (teq (rfl : k2 = k2)).2 kz_) ?_
          show OwnGoes p e below _ (T15.setTop (mkF m 204 #[.val (.int p0), .val (.int p1), .val (.int p2), .val (.int p3), .val (.long q4), .second, .val (.int p5), .val (.int k1), .val (.int k2), .val (.long (Int64.ofNat A)), .second, .val (.long (Int64.ofNat B)), .second, .val (.int (p5 &&& (3 : Int32))), .val (.long qq), .second, .val (.ref o), .val (.int (1 : Int32)), .val (.int (-1 : Int32)), .val (.int k2)] []))
          refine own_pre (fun _ kz_ => XS.iconst X15.here hx rfl (hb hby at_204) kz_) ?_
          show OwnGoes p e below _ (T15.setTop (mkF m 205 #[.val (.int p0), .val (.int p1), .val (.int p2), .val (.int p3), .val (.long q4), .second, .val (.int p5), .val (.int k1), .val (.int k2), .val (.long (Int64.ofNat A)), .second, .val (.long (Int64.ofNat B)), .second, .val (.int (p5 &&& (3 : Int32))), .val (.long qq), .second, .val (.ref o), .val (.int (1 : Int32)), .val (.int (-1 : Int32)), .val (.int k2)] [(.int (1 : Int32))]))
          refine own_pre (fun _ kz_ => XS.goto X15.here hx rfl (pc0 := 205) (pc' := 209) rfl (hb hby at_205) (by decide) (by decide) kz_) ?_
          show OwnGoes p e below _ (T15.setTop (mkF m 209 #[.val (.int p0), .val (.int p1), .val (.int p2), .val (.int p3), .val (.long q4), .second, .val (.int p5), .val (.int k1), .val (.int k2), .val (.long (Int64.ofNat A)), .second, .val (.long (Int64.ofNat B)), .second, .val (.int (p5 &&& (3 : Int32))), .val (.long qq), .second, .val (.ref o), .val (.int (1 : Int32)), .val (.int (-1 : Int32)), .val (.int k2)] [(.int (1 : Int32))]))
          exact own_ret X15 hx Bd.returns (rfl) (Or.inl ⟨rfl, by simp, _, rfl⟩) Bd.notSynchronized (hb hby at_209) ⟨rfl, N15⟩ (by decide) (by decide)
        · refine own_pre (fun _ kz_ => XS.ifYes X5.here hx rfl (pc0 := 163) (pc' := 171) rfl (hb hby at_163) rfl ((if0 _ _).trans (feq (fun qz_ => h163 ((lw_eq (Int64.ofNat A) (Int64.ofNat B)).mp qz_))).2) (by decide) (by decide) kz_) ?_
          show OwnGoes p e below _ (T5.setTop (mkF m 171 #[.val (.int p0), .val (.int p1), .val (.int p2), .val (.int p3), .val (.long q4), .second, .val (.int p5), .val (.int k1), .val (.int k2), .val (.long (Int64.ofNat A)), .second, .val (.long (Int64.ofNat B)), .second, .val (.int (p5 &&& (3 : Int32))), .val (.long qq), .second, .val (.ref o), .val (.int (1 : Int32)), .val (.int (-1 : Int32)), .unset] []))
          refine own_pre (fun _ kz_ => XS.iload X5.here hx rfl (hb hby at_171) rfl kz_) ?_
          show OwnGoes p e below _ (T5.setTop (mkF m 173 #[.val (.int p0), .val (.int p1), .val (.int p2), .val (.int p3), .val (.long q4), .second, .val (.int p5), .val (.int k1), .val (.int k2), .val (.long (Int64.ofNat A)), .second, .val (.long (Int64.ofNat B)), .second, .val (.int (p5 &&& (3 : Int32))), .val (.long qq), .second, .val (.ref o), .val (.int (1 : Int32)), .val (.int (-1 : Int32)), .unset] [(.int k1)]))
          refine own_pre (fun _ kz_ => XS.istore X5.here hx rfl (hb hby at_173) rfl (l' := #[.val (.int p0), .val (.int p1), .val (.int p2), .val (.int p3), .val (.long q4), .second, .val (.int p5), .val (.int k1), .val (.int k2), .val (.long (Int64.ofNat A)), .second, .val (.long (Int64.ofNat B)), .second, .val (.int (p5 &&& (3 : Int32))), .val (.long qq), .second, .val (.ref o), .val (.int (1 : Int32)), .val (.int (-1 : Int32)), .val (.int k1)]) rfl kz_) ?_
          show OwnGoes p e below _ (T5.setTop (mkF m 175 #[.val (.int p0), .val (.int p1), .val (.int p2), .val (.int p3), .val (.long q4), .second, .val (.int p5), .val (.int k1), .val (.int k2), .val (.long (Int64.ofNat A)), .second, .val (.long (Int64.ofNat B)), .second, .val (.int (p5 &&& (3 : Int32))), .val (.long qq), .second, .val (.ref o), .val (.int (1 : Int32)), .val (.int (-1 : Int32)), .val (.int k1)] []))
          refine own_pre (fun _ kz_ => XS.iload X5.here hx rfl (hb hby at_175) rfl kz_) ?_
          show OwnGoes p e below _ (T5.setTop (mkF m 177 #[.val (.int p0), .val (.int p1), .val (.int p2), .val (.int p3), .val (.long q4), .second, .val (.int p5), .val (.int k1), .val (.int k2), .val (.long (Int64.ofNat A)), .second, .val (.long (Int64.ofNat B)), .second, .val (.int (p5 &&& (3 : Int32))), .val (.long qq), .second, .val (.ref o), .val (.int (1 : Int32)), .val (.int (-1 : Int32)), .val (.int k1)] [(.int (1 : Int32))]))
          refine own_pre (fun _ kz_ => XS.ifNo X5.here hx rfl (hb hby at_177) rfl ((if0 _ _).trans (feq (by decide : ¬ ((1 : Int32) = (0 : Int32)))).1) kz_) ?_
          show OwnGoes p e below _ (T5.setTop (mkF m 180 #[.val (.int p0), .val (.int p1), .val (.int p2), .val (.int p3), .val (.long q4), .second, .val (.int p5), .val (.int k1), .val (.int k2), .val (.long (Int64.ofNat A)), .second, .val (.long (Int64.ofNat B)), .second, .val (.int (p5 &&& (3 : Int32))), .val (.long qq), .second, .val (.ref o), .val (.int (1 : Int32)), .val (.int (-1 : Int32)), .val (.int k1)] []))
          refine own_pre (fun _ kz_ => XS.aload X5.here hx rfl (hb hby at_180) rfl rfl kz_) ?_
          show OwnGoes p e below _ (T5.setTop (mkF m 182 #[.val (.int p0), .val (.int p1), .val (.int p2), .val (.int p3), .val (.long q4), .second, .val (.int p5), .val (.int k1), .val (.int k2), .val (.long (Int64.ofNat A)), .second, .val (.long (Int64.ofNat B)), .second, .val (.int (p5 &&& (3 : Int32))), .val (.long qq), .second, .val (.ref o), .val (.int (1 : Int32)), .val (.int (-1 : Int32)), .val (.int k1)] [(.ref o)]))
          refine own_pre (fun _ kz_ => XS.lload X5.here hx rfl (hb hby at_182) rfl kz_) ?_
          show OwnGoes p e below _ (T5.setTop (mkF m 184 #[.val (.int p0), .val (.int p1), .val (.int p2), .val (.int p3), .val (.long q4), .second, .val (.int p5), .val (.int k1), .val (.int k2), .val (.long (Int64.ofNat A)), .second, .val (.long (Int64.ofNat B)), .second, .val (.int (p5 &&& (3 : Int32))), .val (.long qq), .second, .val (.ref o), .val (.int (1 : Int32)), .val (.int (-1 : Int32)), .val (.int k1)] [(.long qq), (.ref o)]))
          obtain ⟨cq16, kq16, q16a, q16b, q16c⟩ := isOf hZ rfl E5x
          obtain ⟨_, _, ⟨T16, L16, k16, n16⟩, -, X16, ⟨Lc16, hQ16, l16, y16, z16⟩, st16⟩ := X5.virtualBack hx (y := (⟨"com/example/holdfast/holdfast/store/ObjectIndex", "classId", "(J)I"⟩ : MethodName)) (z := (⟨"com/example/holdfast/holdfast/store/ObjectIndex", "classId", "(J)I"⟩ : MethodName)) hown (mvT hZ (hw _ (List.mem_of_getElem? (i := 43) rfl))) (mvT hZ (hw _ (List.mem_of_getElem? (i := 44) rfl))) (notFace_of_selects (args := #[]) (mvT hZ (hw _ (List.mem_of_getElem? (i := 46) rfl)))) (mvT hZ (hw _ (List.mem_of_getElem? (i := 46) rfl))) (mvT hZ (hw _ (List.mem_of_getElem? (i := 45) rfl))) (by decide) (backOf (W := 0) (rmCl l Z a0 hw [] o qq cs2 (-1 : Int32) T5.heap n0 Z5 I5q (by omega) (own_x3 hA2 hB2 get1 get2 h134 h147)) hZ (hw _ (List.mem_of_getElem? (i := 47) rfl)) (hw _ (List.mem_of_getElem? (i := 3) rfl)) (by decide) (by decide)) q16a q16c (g := (mkF m 184 #[.val (.int p0), .val (.int p1), .val (.int p2), .val (.int p3), .val (.long q4), .second, .val (.int p5), .val (.int k1), .val (.int k2), .val (.long (Int64.ofNat A)), .second, .val (.long (Int64.ofNat B)), .second, .val (.int (p5 &&& (3 : Int32))), .val (.long qq), .second, .val (.ref o), .val (.int (1 : Int32)), .val (.int (-1 : Int32)), .val (.int k1)] [(.long qq), (.ref o)])) rfl (by rw [hml]; rfl) (Steps.refl _) (argsL := [(.long qq)]) (rest := []) (lenOf (d := "(J)I") (ps := [.long]) (r := some .int) (by decide +kernel) rfl) rfl (by show 2 * 0 + _ ≤ _; exact Nat.le_of_eq rfl) (hb hby at_184) (fun _ _ => ⟨rfl, rfl, (by decide : 15 + 0 ≤ _), (by decide : 36873 + 0 ≤ _)⟩)
          dsimp only [Pt.U, Pt.locs, Pt.cells, Pt.slots] at X16 l16 y16 z16 st16 hQ16
          subst l16 y16 z16
          obtain ⟨rfl, N16q, e16⟩ := hQ16
          have N16 := Fr.app N5 N16q
          refine own_tr st16 ?_
          show OwnGoes p e below _ (T16.setTop (mkF m 187 #[.val (.int p0), .val (.int p1), .val (.int p2), .val (.int p3), .val (.long q4), .second, .val (.int p5), .val (.int k1), .val (.int k2), .val (.long (Int64.ofNat A)), .second, .val (.long (Int64.ofNat B)), .second, .val (.int (p5 &&& (3 : Int32))), .val (.long qq), .second, .val (.ref o), .val (.int (1 : Int32)), .val (.int (-1 : Int32)), .val (.int k1)] [(.int (-1 : Int32))]))
          refine own_pre (fun _ kz_ => XS.iload X16.here hx rfl (hb hby at_187) rfl kz_) ?_
          show OwnGoes p e below _ (T16.setTop (mkF m 189 #[.val (.int p0), .val (.int p1), .val (.int p2), .val (.int p3), .val (.long q4), .second, .val (.int p5), .val (.int k1), .val (.int k2), .val (.long (Int64.ofNat A)), .second, .val (.long (Int64.ofNat B)), .second, .val (.int (p5 &&& (3 : Int32))), .val (.long qq), .second, .val (.ref o), .val (.int (1 : Int32)), .val (.int (-1 : Int32)), .val (.int k1)] [(.int (-1 : Int32)), (.int (-1 : Int32))]))
          refine own_pre (fun _ kz_ => XS.icmpNo X16.here hx rfl (hb hby at_189) rfl (teq (rfl : (-1 : Int32) = (-1 : Int32))).2 kz_) ?_
          show OwnGoes p e below _ (T16.setTop (mkF m 192 #[.val (.int p0), .val (.int p1), .val (.int p2), .val (.int p3), .val (.long q4), .second, .val (.int p5), .val (.int k1), .val (.int k2), .val (.long (Int64.ofNat A)), .second, .val (.long (Int64.ofNat B)), .second, .val (.int (p5 &&& (3 : Int32))), .val (.long qq), .second, .val (.ref o), .val (.int (1 : Int32)), .val (.int (-1 : Int32)), .val (.int k1)] []))
          refine own_pre (fun _ kz_ => XS.aload X16.here hx rfl (hb hby at_192) rfl rfl kz_) ?_
          show OwnGoes p e below _ (T16.setTop (mkF m 194 #[.val (.int p0), .val (.int p1), .val (.int p2), .val (.int p3), .val (.long q4), .second, .val (.int p5), .val (.int k1), .val (.int k2), .val (.long (Int64.ofNat A)), .second, .val (.long (Int64.ofNat B)), .second, .val (.int (p5 &&& (3 : Int32))), .val (.long qq), .second, .val (.ref o), .val (.int (1 : Int32)), .val (.int (-1 : Int32)), .val (.int k1)] [(.ref o)]))
          refine own_pre (fun _ kz_ => XS.lload X16.here hx rfl (hb hby at_194) rfl kz_) ?_
          show OwnGoes p e below _ (T16.setTop (mkF m 196 #[.val (.int p0), .val (.int p1), .val (.int p2), .val (.int p3), .val (.long q4), .second, .val (.int p5), .val (.int k1), .val (.int k2), .val (.long (Int64.ofNat A)), .second, .val (.long (Int64.ofNat B)), .second, .val (.int (p5 &&& (3 : Int32))), .val (.long qq), .second, .val (.ref o), .val (.int (1 : Int32)), .val (.int (-1 : Int32)), .val (.int k1)] [(.long (Int64.ofNat A)), (.ref o)]))
          obtain ⟨cq17, kq17, q17a, q17b, q17c⟩ := isOf hZ e16 E5x
          obtain ⟨_, _, ⟨T17, L17, k17, n17⟩, -, X17, ⟨Lc17, hQ17, l17, y17, z17⟩, st17⟩ := X16.virtualBack hx (y := (⟨"com/example/holdfast/holdfast/store/ObjectIndex", "classId", "(J)I"⟩ : MethodName)) (z := (⟨"com/example/holdfast/holdfast/store/ObjectIndex", "classId", "(J)I"⟩ : MethodName)) hown (mvT hZ (hw _ (List.mem_of_getElem? (i := 43) rfl))) (mvT hZ (hw _ (List.mem_of_getElem? (i := 44) rfl))) (notFace_of_selects (args := #[]) (mvT hZ (hw _ (List.mem_of_getElem? (i := 46) rfl)))) (mvT hZ (hw _ (List.mem_of_getElem? (i := 46) rfl))) (mvT hZ (hw _ (List.mem_of_getElem? (i := 45) rfl))) (by decide) (backOf (W := 0) (rmCl l Z a0 hw [] o (Int64.ofNat A) cs2 k1 T5.heap n0 Z5 I5q (by omega) (own_x2 hA1 hA2 get1 get2 h163 rfl)) hZ (hw _ (List.mem_of_getElem? (i := 47) rfl)) (hw _ (List.mem_of_getElem? (i := 3) rfl)) (by decide) (by decide)) q17a q17c (g := (mkF m 196 #[.val (.int p0), .val (.int p1), .val (.int p2), .val (.int p3), .val (.long q4), .second, .val (.int p5), .val (.int k1), .val (.int k2), .val (.long (Int64.ofNat A)), .second, .val (.long (Int64.ofNat B)), .second, .val (.int (p5 &&& (3 : Int32))), .val (.long qq), .second, .val (.ref o), .val (.int (1 : Int32)), .val (.int (-1 : Int32)), .val (.int k1)] [(.long (Int64.ofNat A)), (.ref o)])) rfl (by rw [hml]; rfl) (Steps.refl _) (argsL := [(.long (Int64.ofNat A))]) (rest := []) (lenOf (d := "(J)I") (ps := [.long]) (r := some .int) (by decide +kernel) rfl) rfl (by show 2 * 0 + _ ≤ _; exact Nat.le_of_eq rfl) (hb hby at_196) (fun _ _ => ⟨rfl, e16, (by decide : 15 + 0 ≤ _), (by decide : 36873 + 0 ≤ _)⟩)
          dsimp only [Pt.U, Pt.locs, Pt.cells, Pt.slots] at X17 l17 y17 z17 st17 hQ17
          subst l17 y17 z17
          obtain ⟨rfl, N17q, e17⟩ := hQ17
          have N17 := Fr.app N16 N17q
          refine own_tr st17 ?_
          show OwnGoes p e below _ (T17.setTop (mkF m 199 #[.val (.int p0), .val (.int p1), .val (.int p2), .val (.int p3), .val (.long q4), .second, .val (.int p5), .val (.int k1), .val (.int k2), .val (.long (Int64.ofNat A)), .second, .val (.long (Int64.ofNat B)), .second, .val (.int (p5 &&& (3 : Int32))), .val (.long qq), .second, .val (.ref o), .val (.int (1 : Int32)), .val (.int (-1 : Int32)), .val (.int k1)] [(.int k1)]))
          refine own_pre (fun _ kz_ => XS.iload X17.here hx rfl (hb hby at_199) rfl kz_) ?_
          show OwnGoes p e below _ (T17.setTop (mkF m 201 #[.val (.int p0), .val (.int p1), .val (.int p2), .val (.int p3), .val (.long q4), .second, .val (.int p5), .val (.int k1), .val (.int k2), .val (.long (Int64.ofNat A)), .second, .val (.long (Int64.ofNat B)), .second, .val (.int (p5 &&& (3 : Int32))), .val (.long qq), .second, .val (.ref o), .val (.int (1 : Int32)), .val (.int (-1 : Int32)), .val (.int k1)] [(.int k1), (.int k1)]))
          refine own_pre (fun _ kz_ => XS.icmpNo X17.here hx rfl (hb hby at_201) rfl (teq (rfl : k1 = k1)).2 kz_) ?_
          show OwnGoes p e below _ (T17.setTop (mkF m 204 #[.val (.int p0), .val (.int p1), .val (.int p2), .val (.int p3), .val (.long q4), .second, .val (.int p5), .val (.int k1), .val (.int k2), .val (.long (Int64.ofNat A)), .second, .val (.long (Int64.ofNat B)), .second, .val (.int (p5 &&& (3 : Int32))), .val (.long qq), .second, .val (.ref o), .val (.int (1 : Int32)), .val (.int (-1 : Int32)), .val (.int k1)] []))
          refine own_pre (fun _ kz_ => XS.iconst X17.here hx rfl (hb hby at_204) kz_) ?_
          show OwnGoes p e below _ (T17.setTop (mkF m 205 #[.val (.int p0), .val (.int p1), .val (.int p2), .val (.int p3), .val (.long q4), .second, .val (.int p5), .val (.int k1), .val (.int k2), .val (.long (Int64.ofNat A)), .second, .val (.long (Int64.ofNat B)), .second, .val (.int (p5 &&& (3 : Int32))), .val (.long qq), .second, .val (.ref o), .val (.int (1 : Int32)), .val (.int (-1 : Int32)), .val (.int k1)] [(.int (1 : Int32))]))
          refine own_pre (fun _ kz_ => XS.goto X17.here hx rfl (pc0 := 205) (pc' := 209) rfl (hb hby at_205) (by decide) (by decide) kz_) ?_
          show OwnGoes p e below _ (T17.setTop (mkF m 209 #[.val (.int p0), .val (.int p1), .val (.int p2), .val (.int p3), .val (.long q4), .second, .val (.int p5), .val (.int k1), .val (.int k2), .val (.long (Int64.ofNat A)), .second, .val (.long (Int64.ofNat B)), .second, .val (.int (p5 &&& (3 : Int32))), .val (.long qq), .second, .val (.ref o), .val (.int (1 : Int32)), .val (.int (-1 : Int32)), .val (.int k1)] [(.int (1 : Int32))]))
          exact own_ret X17 hx Bd.returns (rfl) (Or.inl ⟨rfl, by simp, _, rfl⟩) Bd.notSynchronized (hb hby at_209) ⟨rfl, N17⟩ (by decide) (by decide)
  show OwnGoes p e below _ (s₁.setTop (mkF m 0 #[.val (.int p0), .val (.int p1), .val (.int p2), .val (.int p3), .val (.long q4), .second, .val (.int p5), .unset, .unset, .unset, .unset, .unset, .unset, .unset, .unset, .unset, .unset, .unset, .unset, .unset] []))
  refine own_pre (fun _ kz_ => XS.iloadN X0.here hx rfl (hb hby at_0) rfl kz_) ?_
  show OwnGoes p e below _ (s₁.setTop (mkF m 1 #[.val (.int p0), .val (.int p1), .val (.int p2), .val (.int p3), .val (.long q4), .second, .val (.int p5), .unset, .unset, .unset, .unset, .unset, .unset, .unset, .unset, .unset, .unset, .unset, .unset, .unset] [(.int p0)]))
  refine own_pre (fun _ kz_ => X0.ldcInt hx hown (mvT hZ (hw _ (List.mem_of_getElem? (i := 0) rfl))) (g := (mkF m 1 #[.val (.int p0), .val (.int p1), .val (.int p2), .val (.int p3), .val (.long q4), .second, .val (.int p5), .unset, .unset, .unset, .unset, .unset, .unset, .unset, .unset, .unset, .unset, .unset, .unset, .unset] [(.int p0)])) rfl (hb hby at_1) _ kz_) ?_
  show OwnGoes p e below _ (s₁.setTop (mkF m 3 #[.val (.int p0), .val (.int p1), .val (.int p2), .val (.int p3), .val (.long q4), .second, .val (.int p5), .unset, .unset, .unset, .unset, .unset, .unset, .unset, .unset, .unset, .unset, .unset, .unset, .unset] [(.int (2147483647 : Int32)), (.int p0)]))
  refine own_pre (fun _ kz_ => XS.iand X0.here hx rfl (hb hby at_3) rfl kz_) ?_
  show OwnGoes p e below _ (s₁.setTop (mkF m 4 #[.val (.int p0), .val (.int p1), .val (.int p2), .val (.int p3), .val (.long q4), .second, .val (.int p5), .unset, .unset, .unset, .unset, .unset, .unset, .unset, .unset, .unset, .unset, .unset, .unset, .unset] [(.int (p0 &&& (2147483647 : Int32)))]))
  rw [← hk1e]
  show OwnGoes p e below _ (s₁.setTop (mkF m 4 #[.val (.int p0), .val (.int p1), .val (.int p2), .val (.int p3), .val (.long q4), .second, .val (.int p5), .unset, .unset, .unset, .unset, .unset, .unset, .unset, .unset, .unset, .unset, .unset, .unset, .unset] [(.int k1)]))
  refine own_pre (fun _ kz_ => XS.istore X0.here hx rfl (hb hby at_4) rfl (l' := #[.val (.int p0), .val (.int p1), .val (.int p2), .val (.int p3), .val (.long q4), .second, .val (.int p5), .val (.int k1), .unset, .unset, .unset, .unset, .unset, .unset, .unset, .unset, .unset, .unset, .unset, .unset]) rfl kz_) ?_
  show OwnGoes p e below _ (s₁.setTop (mkF m 6 #[.val (.int p0), .val (.int p1), .val (.int p2), .val (.int p3), .val (.long q4), .second, .val (.int p5), .val (.int k1), .unset, .unset, .unset, .unset, .unset, .unset, .unset, .unset, .unset, .unset, .unset, .unset] []))
  refine own_pre (fun _ kz_ => XS.iloadN X0.here hx rfl (hb hby at_6) rfl kz_) ?_
  show OwnGoes p e below _ (s₁.setTop (mkF m 7 #[.val (.int p0), .val (.int p1), .val (.int p2), .val (.int p3), .val (.long q4), .second, .val (.int p5), .val (.int k1), .unset, .unset, .unset, .unset, .unset, .unset, .unset, .unset, .unset, .unset, .unset, .unset] [(.int p1)]))
  refine own_pre (fun _ kz_ => X0.ldcInt hx hown (mvT hZ (hw _ (List.mem_of_getElem? (i := 0) rfl))) (g := (mkF m 7 #[.val (.int p0), .val (.int p1), .val (.int p2), .val (.int p3), .val (.long q4), .second, .val (.int p5), .val (.int k1), .unset, .unset, .unset, .unset, .unset, .unset, .unset, .unset, .unset, .unset, .unset, .unset] [(.int p1)])) rfl (hb hby at_7) _ kz_) ?_
  show OwnGoes p e below _ (s₁.setTop (mkF m 9 #[.val (.int p0), .val (.int p1), .val (.int p2), .val (.int p3), .val (.long q4), .second, .val (.int p5), .val (.int k1), .unset, .unset, .unset, .unset, .unset, .unset, .unset, .unset, .unset, .unset, .unset, .unset] [(.int (2147483647 : Int32)), (.int p1)]))
  refine own_pre (fun _ kz_ => XS.iand X0.here hx rfl (hb hby at_9) rfl kz_) ?_
  show OwnGoes p e below _ (s₁.setTop (mkF m 10 #[.val (.int p0), .val (.int p1), .val (.int p2), .val (.int p3), .val (.long q4), .second, .val (.int p5), .val (.int k1), .unset, .unset, .unset, .unset, .unset, .unset, .unset, .unset, .unset, .unset, .unset, .unset] [(.int (p1 &&& (2147483647 : Int32)))]))
  rw [← hk2e]
  show OwnGoes p e below _ (s₁.setTop (mkF m 10 #[.val (.int p0), .val (.int p1), .val (.int p2), .val (.int p3), .val (.long q4), .second, .val (.int p5), .val (.int k1), .unset, .unset, .unset, .unset, .unset, .unset, .unset, .unset, .unset, .unset, .unset, .unset] [(.int k2)]))
  refine own_pre (fun _ kz_ => XS.istore X0.here hx rfl (hb hby at_10) rfl (l' := #[.val (.int p0), .val (.int p1), .val (.int p2), .val (.int p3), .val (.long q4), .second, .val (.int p5), .val (.int k1), .val (.int k2), .unset, .unset, .unset, .unset, .unset, .unset, .unset, .unset, .unset, .unset, .unset]) rfl kz_) ?_
  show OwnGoes p e below _ (s₁.setTop (mkF m 12 #[.val (.int p0), .val (.int p1), .val (.int p2), .val (.int p3), .val (.long q4), .second, .val (.int p5), .val (.int k1), .val (.int k2), .unset, .unset, .unset, .unset, .unset, .unset, .unset, .unset, .unset, .unset, .unset] []))
  refine own_pre (fun _ kz_ => XS.lconst X0.here hx rfl (hb hby at_12) kz_) ?_
  show OwnGoes p e below _ (s₁.setTop (mkF m 13 #[.val (.int p0), .val (.int p1), .val (.int p2), .val (.int p3), .val (.long q4), .second, .val (.int p5), .val (.int k1), .val (.int k2), .unset, .unset, .unset, .unset, .unset, .unset, .unset, .unset, .unset, .unset, .unset] [(.long (1 : Int64))]))
  refine own_pre (fun _ kz_ => XS.iloadN X0.here hx rfl (hb hby at_13) rfl kz_) ?_
  show OwnGoes p e below _ (s₁.setTop (mkF m 14 #[.val (.int p0), .val (.int p1), .val (.int p2), .val (.int p3), .val (.long q4), .second, .val (.int p5), .val (.int k1), .val (.int k2), .unset, .unset, .unset, .unset, .unset, .unset, .unset, .unset, .unset, .unset, .unset] [(.int p2), (.long (1 : Int64))]))
  refine own_pre (fun _ kz_ => XS.sipush X0.here hx rfl (hb hby at_14) kz_) ?_
  show OwnGoes p e below _ (s₁.setTop (mkF m 17 #[.val (.int p0), .val (.int p1), .val (.int p2), .val (.int p3), .val (.long q4), .second, .val (.int p5), .val (.int k1), .val (.int k2), .unset, .unset, .unset, .unset, .unset, .unset, .unset, .unset, .unset, .unset, .unset] [(.int (2047 : Int32)), (.int p2), (.long (1 : Int64))]))
  refine own_pre (fun _ kz_ => XS.iand X0.here hx rfl (hb hby at_17) rfl kz_) ?_
  show OwnGoes p e below _ (s₁.setTop (mkF m 18 #[.val (.int p0), .val (.int p1), .val (.int p2), .val (.int p3), .val (.long q4), .second, .val (.int p5), .val (.int k1), .val (.int k2), .unset, .unset, .unset, .unset, .unset, .unset, .unset, .unset, .unset, .unset, .unset] [(.int (p2 &&& (2047 : Int32))), (.long (1 : Int64))]))
  refine own_pre (fun _ kz_ => XS.i2l X0.here hx rfl (hb hby at_18) rfl kz_) ?_
  show OwnGoes p e below _ (s₁.setTop (mkF m 19 #[.val (.int p0), .val (.int p1), .val (.int p2), .val (.int p3), .val (.long q4), .second, .val (.int p5), .val (.int k1), .val (.int k2), .unset, .unset, .unset, .unset, .unset, .unset, .unset, .unset, .unset, .unset, .unset] [(.long ((p2 &&& (2047 : Int32)).toInt64)), (.long (1 : Int64))]))
  refine own_pre (fun _ kz_ => XS.ladd X0.here hx rfl (hb hby at_19) rfl kz_) ?_
  show OwnGoes p e below _ (s₁.setTop (mkF m 20 #[.val (.int p0), .val (.int p1), .val (.int p2), .val (.int p3), .val (.long q4), .second, .val (.int p5), .val (.int k1), .val (.int k2), .unset, .unset, .unset, .unset, .unset, .unset, .unset, .unset, .unset, .unset, .unset] [(.long ((1 : Int64) + ((p2 &&& (2047 : Int32)).toInt64)))]))
  rw [hA]
  show OwnGoes p e below _ (s₁.setTop (mkF m 20 #[.val (.int p0), .val (.int p1), .val (.int p2), .val (.int p3), .val (.long q4), .second, .val (.int p5), .val (.int k1), .val (.int k2), .unset, .unset, .unset, .unset, .unset, .unset, .unset, .unset, .unset, .unset, .unset] [(.long (Int64.ofNat A))]))
  refine own_pre (fun _ kz_ => XS.lstore X0.here hx rfl (hb hby at_20) rfl (l' := #[.val (.int p0), .val (.int p1), .val (.int p2), .val (.int p3), .val (.long q4), .second, .val (.int p5), .val (.int k1), .val (.int k2), .val (.long (Int64.ofNat A)), .second, .unset, .unset, .unset, .unset, .unset, .unset, .unset, .unset, .unset]) rfl kz_) ?_
  show OwnGoes p e below _ (s₁.setTop (mkF m 22 #[.val (.int p0), .val (.int p1), .val (.int p2), .val (.int p3), .val (.long q4), .second, .val (.int p5), .val (.int k1), .val (.int k2), .val (.long (Int64.ofNat A)), .second, .unset, .unset, .unset, .unset, .unset, .unset, .unset, .unset, .unset] []))
  refine own_pre (fun _ kz_ => XS.lconst X0.here hx rfl (hb hby at_22) kz_) ?_
  show OwnGoes p e below _ (s₁.setTop (mkF m 23 #[.val (.int p0), .val (.int p1), .val (.int p2), .val (.int p3), .val (.long q4), .second, .val (.int p5), .val (.int k1), .val (.int k2), .val (.long (Int64.ofNat A)), .second, .unset, .unset, .unset, .unset, .unset, .unset, .unset, .unset, .unset] [(.long (1 : Int64))]))
  refine own_pre (fun _ kz_ => XS.iloadN X0.here hx rfl (hb hby at_23) rfl kz_) ?_
  show OwnGoes p e below _ (s₁.setTop (mkF m 24 #[.val (.int p0), .val (.int p1), .val (.int p2), .val (.int p3), .val (.long q4), .second, .val (.int p5), .val (.int k1), .val (.int k2), .val (.long (Int64.ofNat A)), .second, .unset, .unset, .unset, .unset, .unset, .unset, .unset, .unset, .unset] [(.int p3), (.long (1 : Int64))]))
  refine own_pre (fun _ kz_ => XS.sipush X0.here hx rfl (hb hby at_24) kz_) ?_
  show OwnGoes p e below _ (s₁.setTop (mkF m 27 #[.val (.int p0), .val (.int p1), .val (.int p2), .val (.int p3), .val (.long q4), .second, .val (.int p5), .val (.int k1), .val (.int k2), .val (.long (Int64.ofNat A)), .second, .unset, .unset, .unset, .unset, .unset, .unset, .unset, .unset, .unset] [(.int (2047 : Int32)), (.int p3), (.long (1 : Int64))]))
  refine own_pre (fun _ kz_ => XS.iand X0.here hx rfl (hb hby at_27) rfl kz_) ?_
  show OwnGoes p e below _ (s₁.setTop (mkF m 28 #[.val (.int p0), .val (.int p1), .val (.int p2), .val (.int p3), .val (.long q4), .second, .val (.int p5), .val (.int k1), .val (.int k2), .val (.long (Int64.ofNat A)), .second, .unset, .unset, .unset, .unset, .unset, .unset, .unset, .unset, .unset] [(.int (p3 &&& (2047 : Int32))), (.long (1 : Int64))]))
  refine own_pre (fun _ kz_ => XS.i2l X0.here hx rfl (hb hby at_28) rfl kz_) ?_
  show OwnGoes p e below _ (s₁.setTop (mkF m 29 #[.val (.int p0), .val (.int p1), .val (.int p2), .val (.int p3), .val (.long q4), .second, .val (.int p5), .val (.int k1), .val (.int k2), .val (.long (Int64.ofNat A)), .second, .unset, .unset, .unset, .unset, .unset, .unset, .unset, .unset, .unset] [(.long ((p3 &&& (2047 : Int32)).toInt64)), (.long (1 : Int64))]))
  refine own_pre (fun _ kz_ => XS.ladd X0.here hx rfl (hb hby at_29) rfl kz_) ?_
  show OwnGoes p e below _ (s₁.setTop (mkF m 30 #[.val (.int p0), .val (.int p1), .val (.int p2), .val (.int p3), .val (.long q4), .second, .val (.int p5), .val (.int k1), .val (.int k2), .val (.long (Int64.ofNat A)), .second, .unset, .unset, .unset, .unset, .unset, .unset, .unset, .unset, .unset] [(.long ((1 : Int64) + ((p3 &&& (2047 : Int32)).toInt64)))]))
  rw [hB]
  show OwnGoes p e below _ (s₁.setTop (mkF m 30 #[.val (.int p0), .val (.int p1), .val (.int p2), .val (.int p3), .val (.long q4), .second, .val (.int p5), .val (.int k1), .val (.int k2), .val (.long (Int64.ofNat A)), .second, .unset, .unset, .unset, .unset, .unset, .unset, .unset, .unset, .unset] [(.long (Int64.ofNat B))]))
  refine own_pre (fun _ kz_ => XS.lstore X0.here hx rfl (hb hby at_30) rfl (l' := #[.val (.int p0), .val (.int p1), .val (.int p2), .val (.int p3), .val (.long q4), .second, .val (.int p5), .val (.int k1), .val (.int k2), .val (.long (Int64.ofNat A)), .second, .val (.long (Int64.ofNat B)), .second, .unset, .unset, .unset, .unset, .unset, .unset, .unset]) rfl kz_) ?_
  show OwnGoes p e below _ (s₁.setTop (mkF m 32 #[.val (.int p0), .val (.int p1), .val (.int p2), .val (.int p3), .val (.long q4), .second, .val (.int p5), .val (.int k1), .val (.int k2), .val (.long (Int64.ofNat A)), .second, .val (.long (Int64.ofNat B)), .second, .unset, .unset, .unset, .unset, .unset, .unset, .unset] []))
  refine own_pre (fun _ kz_ => XS.iload X0.here hx rfl (hb hby at_32) rfl kz_) ?_
  show OwnGoes p e below _ (s₁.setTop (mkF m 34 #[.val (.int p0), .val (.int p1), .val (.int p2), .val (.int p3), .val (.long q4), .second, .val (.int p5), .val (.int k1), .val (.int k2), .val (.long (Int64.ofNat A)), .second, .val (.long (Int64.ofNat B)), .second, .unset, .unset, .unset, .unset, .unset, .unset, .unset] [(.int p5)]))
  refine own_pre (fun _ kz_ => XS.iconst X0.here hx rfl (hb hby at_34) kz_) ?_
  show OwnGoes p e below _ (s₁.setTop (mkF m 35 #[.val (.int p0), .val (.int p1), .val (.int p2), .val (.int p3), .val (.long q4), .second, .val (.int p5), .val (.int k1), .val (.int k2), .val (.long (Int64.ofNat A)), .second, .val (.long (Int64.ofNat B)), .second, .unset, .unset, .unset, .unset, .unset, .unset, .unset] [(.int (3 : Int32)), (.int p5)]))
  refine own_pre (fun _ kz_ => XS.iand X0.here hx rfl (hb hby at_35) rfl kz_) ?_
  show OwnGoes p e below _ (s₁.setTop (mkF m 36 #[.val (.int p0), .val (.int p1), .val (.int p2), .val (.int p3), .val (.long q4), .second, .val (.int p5), .val (.int k1), .val (.int k2), .val (.long (Int64.ofNat A)), .second, .val (.long (Int64.ofNat B)), .second, .unset, .unset, .unset, .unset, .unset, .unset, .unset] [(.int (p5 &&& (3 : Int32)))]))
  refine own_pre (fun _ kz_ => XS.istore X0.here hx rfl (hb hby at_36) rfl (l' := #[.val (.int p0), .val (.int p1), .val (.int p2), .val (.int p3), .val (.long q4), .second, .val (.int p5), .val (.int k1), .val (.int k2), .val (.long (Int64.ofNat A)), .second, .val (.long (Int64.ofNat B)), .second, .val (.int (p5 &&& (3 : Int32))), .unset, .unset, .unset, .unset, .unset, .unset]) rfl kz_) ?_
  show OwnGoes p e below _ (s₁.setTop (mkF m 38 #[.val (.int p0), .val (.int p1), .val (.int p2), .val (.int p3), .val (.long q4), .second, .val (.int p5), .val (.int k1), .val (.int k2), .val (.long (Int64.ofNat A)), .second, .val (.long (Int64.ofNat B)), .second, .val (.int (p5 &&& (3 : Int32))), .unset, .unset, .unset, .unset, .unset, .unset] []))
  refine own_pre (fun _ kz_ => XS.iload X0.here hx rfl (hb hby at_38) rfl kz_) ?_
  show OwnGoes p e below _ (s₁.setTop (mkF m 40 #[.val (.int p0), .val (.int p1), .val (.int p2), .val (.int p3), .val (.long q4), .second, .val (.int p5), .val (.int k1), .val (.int k2), .val (.long (Int64.ofNat A)), .second, .val (.long (Int64.ofNat B)), .second, .val (.int (p5 &&& (3 : Int32))), .unset, .unset, .unset, .unset, .unset, .unset] [(.int (p5 &&& (3 : Int32)))]))
  by_cases h40 : (p5 &&& (3 : Int32)) = (0 : Int32)
  · refine own_pre (fun _ kz_ => XS.ifNo X0.here hx rfl (hb hby at_40) rfl ((if0 _ _).trans (teq h40).2) kz_) ?_
    show OwnGoes p e below _ (s₁.setTop (mkF m 43 #[.val (.int p0), .val (.int p1), .val (.int p2), .val (.int p3), .val (.long q4), .second, .val (.int p5), .val (.int k1), .val (.int k2), .val (.long (Int64.ofNat A)), .second, .val (.long (Int64.ofNat B)), .second, .val (.int (p5 &&& (3 : Int32))), .unset, .unset, .unset, .unset, .unset, .unset] []))
    refine own_pre (fun _ kz_ => XS.lload X0.here hx rfl (hb hby at_43) rfl kz_) ?_
    show OwnGoes p e below _ (s₁.setTop (mkF m 45 #[.val (.int p0), .val (.int p1), .val (.int p2), .val (.int p3), .val (.long q4), .second, .val (.int p5), .val (.int k1), .val (.int k2), .val (.long (Int64.ofNat A)), .second, .val (.long (Int64.ofNat B)), .second, .val (.int (p5 &&& (3 : Int32))), .unset, .unset, .unset, .unset, .unset, .unset] [(.long (Int64.ofNat A))]))
    refine own_pre (fun _ kz_ => XS.goto X0.here hx rfl (pc0 := 45) (pc' := 76) rfl (hb hby at_45) (by decide) (by decide) kz_) ?_
    show OwnGoes p e below _ (s₁.setTop (mkF m 76 #[.val (.int p0), .val (.int p1), .val (.int p2), .val (.int p3), .val (.long q4), .second, .val (.int p5), .val (.int k1), .val (.int k2), .val (.long (Int64.ofNat A)), .second, .val (.long (Int64.ofNat B)), .second, .val (.int (p5 &&& (3 : Int32))), .unset, .unset, .unset, .unset, .unset, .unset] [(.long (Int64.ofNat A))]))
    exact J76 _
  · refine own_pre (fun _ kz_ => XS.ifYes X0.here hx rfl (pc0 := 40) (pc' := 48) rfl (hb hby at_40) rfl ((if0 _ _).trans (feq h40).2) (by decide) (by decide) kz_) ?_
    show OwnGoes p e below _ (s₁.setTop (mkF m 48 #[.val (.int p0), .val (.int p1), .val (.int p2), .val (.int p3), .val (.long q4), .second, .val (.int p5), .val (.int k1), .val (.int k2), .val (.long (Int64.ofNat A)), .second, .val (.long (Int64.ofNat B)), .second, .val (.int (p5 &&& (3 : Int32))), .unset, .unset, .unset, .unset, .unset, .unset] []))
    refine own_pre (fun _ kz_ => XS.iload X0.here hx rfl (hb hby at_48) rfl kz_) ?_
    show OwnGoes p e below _ (s₁.setTop (mkF m 50 #[.val (.int p0), .val (.int p1), .val (.int p2), .val (.int p3), .val (.long q4), .second, .val (.int p5), .val (.int k1), .val (.int k2), .val (.long (Int64.ofNat A)), .second, .val (.long (Int64.ofNat B)), .second, .val (.int (p5 &&& (3 : Int32))), .unset, .unset, .unset, .unset, .unset, .unset] [(.int (p5 &&& (3 : Int32)))]))
    refine own_pre (fun _ kz_ => XS.iconst X0.here hx rfl (hb hby at_50) kz_) ?_
    show OwnGoes p e below _ (s₁.setTop (mkF m 51 #[.val (.int p0), .val (.int p1), .val (.int p2), .val (.int p3), .val (.long q4), .second, .val (.int p5), .val (.int k1), .val (.int k2), .val (.long (Int64.ofNat A)), .second, .val (.long (Int64.ofNat B)), .second, .val (.int (p5 &&& (3 : Int32))), .unset, .unset, .unset, .unset, .unset, .unset] [(.int (1 : Int32)), (.int (p5 &&& (3 : Int32)))]))
    by_cases h51 : (p5 &&& (3 : Int32)) = (1 : Int32)
    · refine own_pre (fun _ kz_ => XS.icmpNo X0.here hx rfl (hb hby at_51) rfl (teq h51).2 kz_) ?_
      show OwnGoes p e below _ (s₁.setTop (mkF m 54 #[.val (.int p0), .val (.int p1), .val (.int p2), .val (.int p3), .val (.long q4), .second, .val (.int p5), .val (.int k1), .val (.int k2), .val (.long (Int64.ofNat A)), .second, .val (.long (Int64.ofNat B)), .second, .val (.int (p5 &&& (3 : Int32))), .unset, .unset, .unset, .unset, .unset, .unset] []))
      refine own_pre (fun _ kz_ => XS.lload X0.here hx rfl (hb hby at_54) rfl kz_) ?_
      show OwnGoes p e below _ (s₁.setTop (mkF m 56 #[.val (.int p0), .val (.int p1), .val (.int p2), .val (.int p3), .val (.long q4), .second, .val (.int p5), .val (.int k1), .val (.int k2), .val (.long (Int64.ofNat A)), .second, .val (.long (Int64.ofNat B)), .second, .val (.int (p5 &&& (3 : Int32))), .unset, .unset, .unset, .unset, .unset, .unset] [(.long (Int64.ofNat B))]))
      refine own_pre (fun _ kz_ => XS.goto X0.here hx rfl (pc0 := 56) (pc' := 76) rfl (hb hby at_56) (by decide) (by decide) kz_) ?_
      show OwnGoes p e below _ (s₁.setTop (mkF m 76 #[.val (.int p0), .val (.int p1), .val (.int p2), .val (.int p3), .val (.long q4), .second, .val (.int p5), .val (.int k1), .val (.int k2), .val (.long (Int64.ofNat A)), .second, .val (.long (Int64.ofNat B)), .second, .val (.int (p5 &&& (3 : Int32))), .unset, .unset, .unset, .unset, .unset, .unset] [(.long (Int64.ofNat B))]))
      exact J76 _
    · refine own_pre (fun _ kz_ => XS.icmpYes X0.here hx rfl (pc0 := 51) (pc' := 59) rfl (hb hby at_51) rfl (feq h51).2 (by decide) (by decide) kz_) ?_
      show OwnGoes p e below _ (s₁.setTop (mkF m 59 #[.val (.int p0), .val (.int p1), .val (.int p2), .val (.int p3), .val (.long q4), .second, .val (.int p5), .val (.int k1), .val (.int k2), .val (.long (Int64.ofNat A)), .second, .val (.long (Int64.ofNat B)), .second, .val (.int (p5 &&& (3 : Int32))), .unset, .unset, .unset, .unset, .unset, .unset] []))
      refine own_pre (fun _ kz_ => XS.iload X0.here hx rfl (hb hby at_59) rfl kz_) ?_
      show OwnGoes p e below _ (s₁.setTop (mkF m 61 #[.val (.int p0), .val (.int p1), .val (.int p2), .val (.int p3), .val (.long q4), .second, .val (.int p5), .val (.int k1), .val (.int k2), .val (.long (Int64.ofNat A)), .second, .val (.long (Int64.ofNat B)), .second, .val (.int (p5 &&& (3 : Int32))), .unset, .unset, .unset, .unset, .unset, .unset] [(.int (p5 &&& (3 : Int32)))]))
      refine own_pre (fun _ kz_ => XS.iconst X0.here hx rfl (hb hby at_61) kz_) ?_
      show OwnGoes p e below _ (s₁.setTop (mkF m 62 #[.val (.int p0), .val (.int p1), .val (.int p2), .val (.int p3), .val (.long q4), .second, .val (.int p5), .val (.int k1), .val (.int k2), .val (.long (Int64.ofNat A)), .second, .val (.long (Int64.ofNat B)), .second, .val (.int (p5 &&& (3 : Int32))), .unset, .unset, .unset, .unset, .unset, .unset] [(.int (2 : Int32)), (.int (p5 &&& (3 : Int32)))]))
      by_cases h62 : (p5 &&& (3 : Int32)) = (2 : Int32)
      · refine own_pre (fun _ kz_ => XS.icmpNo X0.here hx rfl (hb hby at_62) rfl (teq h62).2 kz_) ?_
        show OwnGoes p e below _ (s₁.setTop (mkF m 65 #[.val (.int p0), .val (.int p1), .val (.int p2), .val (.int p3), .val (.long q4), .second, .val (.int p5), .val (.int k1), .val (.int k2), .val (.long (Int64.ofNat A)), .second, .val (.long (Int64.ofNat B)), .second, .val (.int (p5 &&& (3 : Int32))), .unset, .unset, .unset, .unset, .unset, .unset] []))
        refine own_pre (fun _ kz_ => XS.lload X0.here hx rfl (hb hby at_65) rfl kz_) ?_
        show OwnGoes p e below _ (s₁.setTop (mkF m 67 #[.val (.int p0), .val (.int p1), .val (.int p2), .val (.int p3), .val (.long q4), .second, .val (.int p5), .val (.int k1), .val (.int k2), .val (.long (Int64.ofNat A)), .second, .val (.long (Int64.ofNat B)), .second, .val (.int (p5 &&& (3 : Int32))), .unset, .unset, .unset, .unset, .unset, .unset] [(.long q4)]))
        refine own_pre (fun _ kz_ => XS.goto X0.here hx rfl (pc0 := 67) (pc' := 76) rfl (hb hby at_67) (by decide) (by decide) kz_) ?_
        show OwnGoes p e below _ (s₁.setTop (mkF m 76 #[.val (.int p0), .val (.int p1), .val (.int p2), .val (.int p3), .val (.long q4), .second, .val (.int p5), .val (.int k1), .val (.int k2), .val (.long (Int64.ofNat A)), .second, .val (.long (Int64.ofNat B)), .second, .val (.int (p5 &&& (3 : Int32))), .unset, .unset, .unset, .unset, .unset, .unset] [(.long q4)]))
        exact J76 _
      · refine own_pre (fun _ kz_ => XS.icmpYes X0.here hx rfl (pc0 := 62) (pc' := 70) rfl (hb hby at_62) rfl (feq h62).2 (by decide) (by decide) kz_) ?_
        show OwnGoes p e below _ (s₁.setTop (mkF m 70 #[.val (.int p0), .val (.int p1), .val (.int p2), .val (.int p3), .val (.long q4), .second, .val (.int p5), .val (.int k1), .val (.int k2), .val (.long (Int64.ofNat A)), .second, .val (.long (Int64.ofNat B)), .second, .val (.int (p5 &&& (3 : Int32))), .unset, .unset, .unset, .unset, .unset, .unset] []))
        refine own_pre (fun _ kz_ => XS.lload X0.here hx rfl (hb hby at_70) rfl kz_) ?_
        show OwnGoes p e below _ (s₁.setTop (mkF m 72 #[.val (.int p0), .val (.int p1), .val (.int p2), .val (.int p3), .val (.long q4), .second, .val (.int p5), .val (.int k1), .val (.int k2), .val (.long (Int64.ofNat A)), .second, .val (.long (Int64.ofNat B)), .second, .val (.int (p5 &&& (3 : Int32))), .unset, .unset, .unset, .unset, .unset, .unset] [(.long q4)]))
        refine own_pre (fun _ kz_ => X0.ldc2Long hx hown (mvT hZ (hw _ (List.mem_of_getElem? (i := 87) rfl))) (g := (mkF m 72 #[.val (.int p0), .val (.int p1), .val (.int p2), .val (.int p3), .val (.long q4), .second, .val (.int p5), .val (.int k1), .val (.int k2), .val (.long (Int64.ofNat A)), .second, .val (.long (Int64.ofNat B)), .second, .val (.int (p5 &&& (3 : Int32))), .unset, .unset, .unset, .unset, .unset, .unset] [(.long q4)])) rfl (hb hby at_72) _ kz_) ?_
        show OwnGoes p e below _ (s₁.setTop (mkF m 75 #[.val (.int p0), .val (.int p1), .val (.int p2), .val (.int p3), .val (.long q4), .second, .val (.int p5), .val (.int k1), .val (.int k2), .val (.long (Int64.ofNat A)), .second, .val (.long (Int64.ofNat B)), .second, .val (.int (p5 &&& (3 : Int32))), .unset, .unset, .unset, .unset, .unset, .unset] [(.long (4095 : Int64)), (.long q4)]))
        refine own_pre (fun _ kz_ => XS.land X0.here hx rfl (hb hby at_75) rfl kz_) ?_
        show OwnGoes p e below _ (s₁.setTop (mkF m 76 #[.val (.int p0), .val (.int p1), .val (.int p2), .val (.int p3), .val (.long q4), .second, .val (.int p5), .val (.int k1), .val (.int k2), .val (.long (Int64.ofNat A)), .second, .val (.long (Int64.ofNat B)), .second, .val (.int (p5 &&& (3 : Int32))), .unset, .unset, .unset, .unset, .unset, .unset] [(.long (q4 &&& (4095 : Int64)))]))
        exact J76 _
set_option maxRecDepth 65536 in
set_option maxHeartbeats 40000000 in
theorem comes_1 {Post : Tables → Env → Array Value → State → Outcome → State → Prop} (hpost : ∀ tb e args s v u, (limb_1_1.after args s (.returned v) u = true ∧ limb_1_2.after args s (.returned v) u = true ∧ True) → FrameEnd s (.returned v) u (Jvm.fieldLocs frame_1_writes args s ++ Jvm.arrayLocs frame_1_arrays args s ++ Jvm.staticLocs frame_1_statics s) 40 57472 → Post tb e args s (.returned v) u) :
    ArmFor flags0 classFile x code maxLocals ret World_1 tables_1 room_1 Calls_1 rest_1 Pre_1 Post := by
  intro l hfl _ _ p e ha hc hk s m args below hf hA hF happ hP
  obtain ⟨hcalls, hrest, hpre⟩ := hP
  obtain ⟨-, -, -, hnamed, -, -, -, hat⟩ := (Spec.applies_iff hf).mp happ
  obtain ⟨hg, hn⟩ := and_e (Cond.before_iff.mp (show (Jvm.Cond.and given_1 narrow_1).before args s = true from hpre))
  obtain ⟨hcount, hgs⟩ := and_e hg
  obtain ⟨ha0, hgs0⟩ := and_e hgs
  obtain ⟨ha1, hgs1⟩ := and_e hgs0
  obtain ⟨ha2, hgs2⟩ := and_e hgs1
  obtain ⟨ha3, hgs3⟩ := and_e hgs2
  obtain ⟨ha4, hgs4⟩ := and_e hgs3
  have ha5 := hgs4
  obtain ⟨w0, w1, w2, w3, w4, w5, rfl⟩ : ∃ w0 w1 w2 w3 w4 w5 : Value, args = #[w0, w1, w2, w3, w4, w5] := by
    have hs : args.size = 6 := by simpa [Cond.value, given_1] using hcount
    obtain ⟨L⟩ := args
    match L, hs with
    | [w0, w1, w2, w3, w4, w5], _ => exact ⟨w0, w1, w2, w3, w4, w5, rfl⟩
  have hw := fun d (hd : d ∈ tables_1) => atoms_spec (ws := Jvm.Cond.code x code maxLocals ret :: tables_1) hat d (List.mem_cons_of_mem _ hd)
  have hfit : Fit s := fun {y c} hc i hi => by
    obtain ⟨ha, rfl⟩ := Array.getElem?_eq_some_iff.mp hc
    have q := List.all_eq_true.mp ((Array.all_eq_true_iff_forall_mem.mp hF) _ (Array.getElem_mem ha)) i (List.mem_range.mpr hi)
    simpa [Array.getElem?_eq_getElem hi] using q
  obtain ⟨hsets, hown0⟩ := atoms_of _ (rest_1_c_eq ▸ (show rest_1_c.before _ s = true from hrest))
  have hr0 := Cond.before_iff.mp hown0
  obtain ⟨i0, ei0⟩ := is_v ha0
  obtain rfl : w0 = (.int i0) := Option.some.inj ei0
  obtain ⟨i1, ei1⟩ := is_v ha1
  obtain rfl : w1 = (.int i1) := Option.some.inj ei1
  obtain ⟨i2, ei2⟩ := is_v ha2
  obtain rfl : w2 = (.int i2) := Option.some.inj ei2
  obtain ⟨i3, ei3⟩ := is_v ha3
  obtain rfl : w3 = (.int i3) := Option.some.inj ei3
  obtain ⟨i4, ei4⟩ := isL_v ha4
  obtain rfl : w4 = (.long i4) := Option.some.inj ei4
  obtain ⟨i5, ei5⟩ := is_v ha5
  obtain rfl : w5 = (.int i5) := Option.some.inj ei5
  have j1 := hsets _ (List.mem_of_getElem? (i := 1) rfl)
  have j2 := Cond.before_iff.mp (hsets _ (List.mem_of_getElem? (i := 2) rfl))
  have ev := eqv_i (Term.int_eval (1)) j2
  have Sa := Sta.start ev (Or.inl j1)
  obtain ⟨n, o, h1, h2, h3, _, L, rfl, ⟨rfl, N⟩, hq⟩ := rm0 l s _ hw tables_1 i0 i1 i2 i3 i4 i5 s.heap s.heap.size (Nat.le_refl _) (OwnS.of Sa) p e ha hc hk s m _ below hf ((Spec.applies_iff_loose hf).mp happ).1 ⟨rfl, State.Warmed39.refl s, rfl⟩ trivial
  refine ⟨n, _, h1, h2, h3, hpost _ _ _ _ _ _ ⟨Cond.after_iff.mpr rfl, Cond.after_iff.mpr (eq_i res_at (Term.int_eval (1)) rfl), trivial⟩ ⟨hq.1, hq.2.1, (hq.2.2.sift fun y hy => Or.inr (N y hy)).mono (by decide) (by decide)⟩⟩
theorem main_1_1 : Claimed_1_1 := comes_1 fun _ _ _ _ _ _ h hF => ⟨h.1, hF⟩
theorem main_1_2 : Claimed_1_2 := comes_1 fun _ _ _ _ _ _ h hF => ⟨h.2.1, hF⟩
end Jvm.Pilot.@@N@@
namespace Jvm.Pilot.@@N@@
open Jvm Jvm.ClassFile Sem Op Lib Jvm.Free Jvm.Stand Jvm.Pilot.@@N@@.Jvm.D
/-! MADE BY PROGRAM (witnessworld.py) out of the Statement's table words and the real class files: 15 classes; the members and pool entries that the words name. The judged class is class 1, her method 1. -/
namespace start1
open Jvm.ClassFile
def u (s : String) : CpInfo := .utf8 (stringToUtf16 s)
/-- a pool by its gaps: so many unusable entries, then the entry; so many at the end -/
def gap : Nat → List CpInfo → List CpInfo
  | 0, r => r
  | n + 1, r => .unusable :: gap n r
def poolList (es : List (Nat × CpInfo)) (last : Nat) : List CpInfo := es.foldr (fun e r => gap e.1 (e.2 :: r)) (gap last [])
def pool (es : List (Nat × CpInfo)) (last : Nat) : Array CpInfo := ⟨poolList es last⟩
def fileOf (pool : Array CpInfo) (this : Nat) (attrs : Array Attribute := #[]) (ms : Array MethodInfo := #[]) (fl : Nat := 33) (sup : Nat := 0) (ifs : Array Nat := #[]) (fds : Array FieldInfo := #[]) : ClassFile where
  minorVersion := 0
  majorVersion := 65
  constantPool := pool
  accessFlags := fl
  thisClass := this
  superClass := sup
  interfaces := ifs
  fields := fds
  methods := ms
  attributes := attrs
def plain (name : String) (sup : Option ClassId) : Class where
  name := name
  kind := .ordinary
  loader := none
  accessFlags := 33
  super := sup
  interfaces := #[]
  cf := none
  fields := #[]
  methods := #[]
  instanceTypes := #[]
  staticTypes := #[]
  resolved := #[]
  callSites := []
  init := .initialized
  statics := none
  mirror := none

def pool0 : Array CpInfo := pool [(5, u "<init>"), (0, u "()V"), (1, .class_ 10), (1, u "java/lang/Object")] 113

def k0c0 : Code := { maxStack := 0, maxLocals := 1, code := object_method_1_code, exceptionTable := #[], attributes := #[] }
def k0m0 : Method := { name := "<init>", desc := "()V", sig := { parameters := [], returnType := none }, accessFlags := 1, code := some k0c0 }
/-- java/lang/Object -/
def k0 : Class := { plain "java/lang/Object" none with
  accessFlags := 33
  interfaces := #[]
  cf := some (fileOf pool0 8 #[] #[{ accessFlags := 1, nameIndex := 5, descriptorIndex := 6, attributes := #[] }] 33 0 #[] #[])
  fields := #[]
  methods := #[k0m0]
  instanceTypes := #[]
  staticTypes := #[]
  resolved := Array.replicate 124 none
  statics := none }

def pool1 : Array CpInfo := pool [(2, .class_ 4), (0, .nameAndType 5 6), (0, u "java/lang/Object"), (0, u "<init>"), (0, u "()V"), (0, .integer 2147483647), (0, .long 4095), (1, .class_ 11), (0, u "com/example/holdfast/holdfast/store/ObjectIndex"), (0, .methodref 10 3), (0, .methodref 10 14), (0, .nameAndType 15 16), (0, u "classId"), (0, u "(J)I"), (0, .methodref 10 18), (0, .nameAndType 19 20), (0, u "put"), (0, u "(JJIIJ)V"), (0, .class_ 22), (0, u "com/example/holdfast/holdfast/store/ObjectIndexClassIdPinLaw"), (2, u "law"), (0, u "(IIIIJI)Z")] 3

def k1m0 : Method := { name := "<init>", desc := "()V", sig := { parameters := [], returnType := none }, accessFlags := 1, code := none }
def k1c1 : Code := { maxStack := 9, maxLocals := 20, code := code, exceptionTable := #[], attributes := #[] }
def k1m1 : Method := { name := "law", desc := "(IIIIJI)Z", sig := { parameters := [.int, .int, .int, .int, .long, .int], returnType := some .boolean }, accessFlags := 9, code := some k1c1 }
/-- com/example/holdfast/holdfast/store/ObjectIndexClassIdPinLaw -/
def k1 : Class := { plain "com/example/holdfast/holdfast/store/ObjectIndexClassIdPinLaw" (some 0) with
  accessFlags := 49
  interfaces := #[]
  cf := some (fileOf pool1 21 #[] #[{ accessFlags := 1, nameIndex := 5, descriptorIndex := 6, attributes := #[] }, { accessFlags := 9, nameIndex := 25, descriptorIndex := 26, attributes := #[] }] 49 2 #[] #[])
  fields := #[]
  methods := #[k1m0, k1m1]
  instanceTypes := #[]
  staticTypes := #[]
  resolved := Array.replicate 30 none
  statics := none }

def pool2 : Array CpInfo := pool [(5, .methodref 6 7), (0, .class_ 8), (0, .nameAndType 9 10), (0, u "java/lang/Object"), (0, u "<init>"), (0, u "()V"), (0, .fieldref 12 13), (0, .class_ 14), (0, .nameAndType 15 16), (0, u "com/example/holdfast/holdfast/store/ObjectIndex"), (0, u "positions"), (0, u "[J"), (0, .fieldref 12 18), (0, .nameAndType 19 20), (0, u "lengths"), (0, u "[I"), (0, .fieldref 12 22), (0, .nameAndType 23 20), (0, u "classes"), (0, .fieldref 12 25), (0, .nameAndType 26 16), (0, u "versions"), (0, .class_ 28), (0, u "java/util/BitSet"), (0, .methodref 27 7), (0, .fieldref 12 31), (0, .nameAndType 32 33), (0, u "replacedClasses"), (0, u "Ljava/util/BitSet;"), (0, .long 2147483640), (1, .long 2), (1, .methodref 39 40), (0, .class_ 41), (0, .nameAndType 42 43), (0, u "java/lang/Math"), (0, u "max"), (0, u "(JJ)J"), (0, .methodref 39 45), (0, .nameAndType 46 43), (0, u "min"), (0, .methodref 48 49), (0, .class_ 50), (0, .nameAndType 51 52), (0, u "java/util/Arrays"), (0, u "copyOf"), (0, u "([JI)[J"), (0, .methodref 48 54), (0, .nameAndType 51 55), (0, u "([II)[I"), (0, .methodref 27 57), (0, .nameAndType 58 59), (0, u "get"), (0, u "(I)Z"), (0, .long 9223372036854775808), (37, u "MAX_OID"), (0, u "J"), (3, u "UNTRANSFORMED"), (2, u "put"), (0, u "(JJIIJ)V"), (10, u "classId"), (0, u "(J)I")] 4

def k2c0 : Code := { maxStack := 3, maxLocals := 1, code := prog_119_method_1_code, exceptionTable := #[], attributes := #[] }
def k2m0 : Method := { name := "<init>", desc := "()V", sig := { parameters := [], returnType := none }, accessFlags := 0, code := some k2c0 }
def k2c1 : Code := { maxStack := 8, maxLocals := 11, code := prog_119_method_2_code, exceptionTable := #[], attributes := #[] }
def k2m1 : Method := { name := "put", desc := "(JJIIJ)V", sig := { parameters := [.long, .long, .int, .int, .long], returnType := none }, accessFlags := 0, code := some k2c1 }
def k2c2 : Code := { maxStack := 4, maxLocals := 3, code := prog_119_method_9_code, exceptionTable := #[], attributes := #[] }
def k2m2 : Method := { name := "classId", desc := "(J)I", sig := { parameters := [.long], returnType := some .int }, accessFlags := 0, code := some k2c2 }
/-- com/example/holdfast/holdfast/store/ObjectIndex -/
def k2 : Class := { plain "com/example/holdfast/holdfast/store/ObjectIndex" (some 0) with
  accessFlags := 48
  interfaces := #[]
  cf := some (fileOf pool2 12 #[] #[{ accessFlags := 0, nameIndex := 9, descriptorIndex := 10, attributes := #[] }, { accessFlags := 0, nameIndex := 106, descriptorIndex := 107, attributes := #[] }, { accessFlags := 0, nameIndex := 118, descriptorIndex := 119, attributes := #[] }] 48 6 #[] #[{ accessFlags := 24, nameIndex := 98, descriptorIndex := 99, attributes := #[] }, { accessFlags := 26, nameIndex := 103, descriptorIndex := 99, attributes := #[] }, { accessFlags := 2, nameIndex := 15, descriptorIndex := 16, attributes := #[] }, { accessFlags := 2, nameIndex := 19, descriptorIndex := 20, attributes := #[] }, { accessFlags := 2, nameIndex := 23, descriptorIndex := 20, attributes := #[] }, { accessFlags := 2, nameIndex := 26, descriptorIndex := 16, attributes := #[] }, { accessFlags := 18, nameIndex := 32, descriptorIndex := 33, attributes := #[] }])
  fields := #[{ name := "MAX_OID", type := .long, accessFlags := 24, slot := 0, constantValue := 0 }, { name := "UNTRANSFORMED", type := .long, accessFlags := 26, slot := 1, constantValue := 0 }, { name := "positions", type := (.array .long), accessFlags := 2, slot := 0, constantValue := 0 }, { name := "lengths", type := (.array .int), accessFlags := 2, slot := 1, constantValue := 0 }, { name := "classes", type := (.array .int), accessFlags := 2, slot := 2, constantValue := 0 }, { name := "versions", type := (.array .long), accessFlags := 2, slot := 3, constantValue := 0 }, { name := "replacedClasses", type := (.object "java/util/BitSet"), accessFlags := 18, slot := 4, constantValue := 0 }]
  methods := #[k2m0, k2m1, k2m2]
  instanceTypes := #[(.array .long), (.array .int), (.array .int), (.array .long), (.object "java/util/BitSet")]
  staticTypes := #[.long, .long]
  resolved := Array.replicate 124 none
  statics := none }

def pool3 : Array CpInfo := pool [(1, .class_ 2), (0, u "java/lang/Cloneable"), (0, .class_ 4), (0, u "java/lang/Object")] 2

/-- java/lang/Cloneable -/
def k3 : Class := { plain "java/lang/Cloneable" (some 0) with
  accessFlags := 1537
  interfaces := #[]
  cf := some (fileOf pool3 1 #[] #[] 1537 3 #[] #[])
  fields := #[]
  methods := #[]
  instanceTypes := #[]
  staticTypes := #[]
  resolved := Array.replicate 7 none
  statics := none }

def pool4 : Array CpInfo := pool [(1, .class_ 2), (0, u "java/io/Serializable"), (0, .class_ 4), (0, u "java/lang/Object")] 2

/-- java/io/Serializable -/
def k4 : Class := { plain "java/io/Serializable" (some 0) with
  accessFlags := 1537
  interfaces := #[]
  cf := some (fileOf pool4 1 #[] #[] 1537 3 #[] #[])
  fields := #[]
  methods := #[]
  instanceTypes := #[]
  staticTypes := #[]
  resolved := Array.replicate 7 none
  statics := none }

def pool5 : Array CpInfo := pool [(1, .class_ 2), (0, u "java/util/BitSet"), (0, .fieldref 1 4), (0, .nameAndType 5 6), (0, u "$assertionsDisabled"), (0, u "Z"), (0, .fieldref 1 8), (0, .nameAndType 9 10), (0, u "wordsInUse"), (0, u "I"), (0, .fieldref 1 12), (0, .nameAndType 13 14), (0, u "words"), (0, u "[J"), (3, .nameAndType 19 20), (0, u "<init>"), (0, u "()V"), (0, .methodref 22 18), (0, .class_ 23), (0, u "java/lang/Object"), (0, .fieldref 1 25), (0, .nameAndType 26 6), (0, u "sizeIsSticky"), (0, .methodref 1 28), (0, .nameAndType 29 30), (0, u "initWords"), (0, u "(I)V"), (21, .methodref 1 53), (0, .nameAndType 54 55), (0, u "wordIndex"), (0, u "(I)I"), (0, .methodref 1 57), (0, .nameAndType 58 20), (0, u "checkInvariants"), (21, u "get"), (188, .class_ 270), (0, u "java/util/BitSet$1BitSetSpliterator"), (22, u "serialPersistentFields"), (0, u "[Ljava/io/ObjectStreamField;"), (0, .class_ 296), (0, u "java/lang/Cloneable"), (0, .class_ 298), (0, u "java/io/Serializable"), (0, u "ADDRESS_BITS_PER_WORD"), (2, u "BITS_PER_WORD"), (1, u "BIT_INDEX_MASK"), (1, u "WORD_MASK"), (0, u "J"), (0, u "serialVersionUID"), (42, u "(I)Z")] 65

def k5c0 : Code := { maxStack := 2, maxLocals := 1, code := jdk_92_method_1_code, exceptionTable := #[], attributes := #[] }
def k5m0 : Method := { name := "wordIndex", desc := "(I)I", sig := { parameters := [.int], returnType := some .int }, accessFlags := 10, code := some k5c0 }
def k5c1 : Code := { maxStack := 4, maxLocals := 1, code := jdk_92_method_2_code, exceptionTable := #[], attributes := #[] }
def k5m1 : Method := { name := "checkInvariants", desc := "()V", sig := { parameters := [], returnType := none }, accessFlags := 2, code := some k5c1 }
def k5c2 : Code := { maxStack := 2, maxLocals := 1, code := jdk_92_method_4_code, exceptionTable := #[], attributes := #[] }
def k5m2 : Method := { name := "<init>", desc := "()V", sig := { parameters := [], returnType := none }, accessFlags := 1, code := some k5c2 }
def k5c3 : Code := { maxStack := 3, maxLocals := 2, code := jdk_92_method_6_code, exceptionTable := #[], attributes := #[] }
def k5m3 : Method := { name := "initWords", desc := "(I)V", sig := { parameters := [.int], returnType := none }, accessFlags := 2, code := some k5c3 }
def k5c4 : Code := { maxStack := 5, maxLocals := 3, code := jdk_92_method_26_code, exceptionTable := #[], attributes := #[] }
def k5m4 : Method := { name := "get", desc := "(I)Z", sig := { parameters := [.int], returnType := some .boolean }, accessFlags := 1, code := some k5c4 }
/-- java/util/BitSet -/
def k5 : Class := { plain "java/util/BitSet" (some 0) with
  accessFlags := 33
  interfaces := #[3, 4]
  cf := some (fileOf pool5 1 #[.nestMembers #[269]] #[{ accessFlags := 10, nameIndex := 54, descriptorIndex := 55, attributes := #[] }, { accessFlags := 2, nameIndex := 58, descriptorIndex := 20, attributes := #[] }, { accessFlags := 1, nameIndex := 19, descriptorIndex := 20, attributes := #[] }, { accessFlags := 2, nameIndex := 29, descriptorIndex := 30, attributes := #[] }, { accessFlags := 1, nameIndex := 80, descriptorIndex := 351, attributes := #[] }] 33 22 #[295, 297] #[{ accessFlags := 26, nameIndex := 299, descriptorIndex := 10, attributes := #[] }, { accessFlags := 26, nameIndex := 302, descriptorIndex := 10, attributes := #[] }, { accessFlags := 26, nameIndex := 304, descriptorIndex := 10, attributes := #[] }, { accessFlags := 26, nameIndex := 306, descriptorIndex := 307, attributes := #[] }, { accessFlags := 26, nameIndex := 293, descriptorIndex := 294, attributes := #[] }, { accessFlags := 2, nameIndex := 13, descriptorIndex := 14, attributes := #[] }, { accessFlags := 130, nameIndex := 9, descriptorIndex := 10, attributes := #[] }, { accessFlags := 130, nameIndex := 26, descriptorIndex := 6, attributes := #[] }, { accessFlags := 26, nameIndex := 308, descriptorIndex := 307, attributes := #[] }, { accessFlags := 4120, nameIndex := 5, descriptorIndex := 6, attributes := #[] }])
  fields := #[{ name := "ADDRESS_BITS_PER_WORD", type := .int, accessFlags := 26, slot := 0, constantValue := 0 }, { name := "BITS_PER_WORD", type := .int, accessFlags := 26, slot := 1, constantValue := 0 }, { name := "BIT_INDEX_MASK", type := .int, accessFlags := 26, slot := 2, constantValue := 0 }, { name := "WORD_MASK", type := .long, accessFlags := 26, slot := 3, constantValue := 0 }, { name := "serialPersistentFields", type := (.array (.object "java/io/ObjectStreamField")), accessFlags := 26, slot := 4, constantValue := 0 }, { name := "words", type := (.array .long), accessFlags := 2, slot := 0, constantValue := 0 }, { name := "wordsInUse", type := .int, accessFlags := 130, slot := 1, constantValue := 0 }, { name := "sizeIsSticky", type := .boolean, accessFlags := 130, slot := 2, constantValue := 0 }, { name := "serialVersionUID", type := .long, accessFlags := 26, slot := 5, constantValue := 0 }, { name := "$assertionsDisabled", type := .boolean, accessFlags := 4120, slot := 6, constantValue := 0 }]
  methods := #[k5m0, k5m1, k5m2, k5m3, k5m4]
  instanceTypes := #[(.array .long), .int, .boolean]
  staticTypes := #[.int, .int, .int, .long, (.array (.object "java/io/ObjectStreamField")), .long, .boolean]
  resolved := Array.replicate 417 none
  statics := some 0 }

def pool6 : Array CpInfo := pool [(1, .class_ 2), (0, u "java/lang/Math"), (1, .class_ 6), (1, u "java/lang/Object"), (0, u "<init>"), (0, u "()V"), (89, .class_ 100), (1, u "java/lang/Math$RandomNumberGeneratorHolder"), (20, u "(JJ)J"), (50, u "negativeZeroFloatBits"), (0, u "J"), (2, u "negativeZeroDoubleBits"), (21, u "max"), (2, u "min"), (43, u "$assertionsDisabled"), (0, u "Z"), (88, u "(II)I"), (2, u "twoToTheDoubleScaleDown"), (0, u "D"), (4, u "twoToTheDoubleScaleUp"), (9, u "E"), (3, u "PI"), (2, u "TAU"), (2, u "DEGREES_TO_RADIANS"), (0, u "RADIANS_TO_DEGREES")] 94

def k6m0 : Method := { name := "<init>", desc := "()V", sig := { parameters := [], returnType := none }, accessFlags := 2, code := none }
def k6c1 : Code := { maxStack := 4, maxLocals := 4, code := jdk_29_method_66_code, exceptionTable := #[], attributes := #[] }
def k6m1 : Method := { name := "max", desc := "(JJ)J", sig := { parameters := [.long, .long], returnType := some .long }, accessFlags := 9, code := some k6c1 }
def k6c2 : Code := { maxStack := 2, maxLocals := 2, code := jdk_29_method_69_code, exceptionTable := #[], attributes := #[] }
def k6m2 : Method := { name := "min", desc := "(II)I", sig := { parameters := [.int, .int], returnType := some .int }, accessFlags := 9, code := some k6c2 }
def k6c3 : Code := { maxStack := 4, maxLocals := 4, code := jdk_29_method_70_code, exceptionTable := #[], attributes := #[] }
def k6m3 : Method := { name := "min", desc := "(JJ)J", sig := { parameters := [.long, .long], returnType := some .long }, accessFlags := 9, code := some k6c3 }
/-- java/lang/Math -/
def k6 : Class := { plain "java/lang/Math" (some 0) with
  accessFlags := 49
  interfaces := #[]
  cf := some (fileOf pool6 1 #[.nestMembers #[98]] #[{ accessFlags := 2, nameIndex := 7, descriptorIndex := 8, attributes := #[] }, { accessFlags := 9, nameIndex := 198, descriptorIndex := 121, attributes := #[] }, { accessFlags := 9, nameIndex := 201, descriptorIndex := 335, attributes := #[] }, { accessFlags := 9, nameIndex := 201, descriptorIndex := 121, attributes := #[] }] 49 4 #[] #[{ accessFlags := 25, nameIndex := 354, descriptorIndex := 339, attributes := #[] }, { accessFlags := 25, nameIndex := 358, descriptorIndex := 339, attributes := #[] }, { accessFlags := 25, nameIndex := 361, descriptorIndex := 339, attributes := #[] }, { accessFlags := 26, nameIndex := 364, descriptorIndex := 339, attributes := #[] }, { accessFlags := 26, nameIndex := 365, descriptorIndex := 339, attributes := #[] }, { accessFlags := 26, nameIndex := 172, descriptorIndex := 173, attributes := #[] }, { accessFlags := 26, nameIndex := 176, descriptorIndex := 173, attributes := #[] }, { accessFlags := 8, nameIndex := 344, descriptorIndex := 339, attributes := #[] }, { accessFlags := 8, nameIndex := 338, descriptorIndex := 339, attributes := #[] }, { accessFlags := 4120, nameIndex := 245, descriptorIndex := 246, attributes := #[] }])
  fields := #[{ name := "E", type := .double, accessFlags := 25, slot := 0, constantValue := 0 }, { name := "PI", type := .double, accessFlags := 25, slot := 1, constantValue := 0 }, { name := "TAU", type := .double, accessFlags := 25, slot := 2, constantValue := 0 }, { name := "DEGREES_TO_RADIANS", type := .double, accessFlags := 26, slot := 3, constantValue := 0 }, { name := "RADIANS_TO_DEGREES", type := .double, accessFlags := 26, slot := 4, constantValue := 0 }, { name := "negativeZeroFloatBits", type := .long, accessFlags := 26, slot := 5, constantValue := 0 }, { name := "negativeZeroDoubleBits", type := .long, accessFlags := 26, slot := 6, constantValue := 0 }, { name := "twoToTheDoubleScaleUp", type := .double, accessFlags := 8, slot := 7, constantValue := 0 }, { name := "twoToTheDoubleScaleDown", type := .double, accessFlags := 8, slot := 8, constantValue := 0 }, { name := "$assertionsDisabled", type := .boolean, accessFlags := 4120, slot := 9, constantValue := 0 }]
  methods := #[k6m0, k6m1, k6m2, k6m3]
  instanceTypes := #[]
  staticTypes := #[.double, .double, .double, .double, .double, .long, .long, .double, .double, .boolean]
  resolved := Array.replicate 460 none
  statics := none }

def pool7 : Array CpInfo := pool [(2, .class_ 4), (1, u "java/lang/Object"), (0, u "<init>"), (0, u "()V"), (7, .class_ 16), (1, u "java/util/Arrays"), (57, .class_ 76), (1, u "java/util/Arrays$NaturalOrder"), (36, .class_ 115), (1, u "java/util/Arrays$LegacyMergeSort"), (1, u "Z"), (32, .methodref 151 152), (0, .class_ 153), (0, .nameAndType 154 155), (0, u "java/lang/System"), (0, u "arraycopy"), (0, u "(Ljava/lang/Object;ILjava/lang/Object;II)V"), (146, u "copyOf"), (1, .methodref 305 306), (0, .class_ 307), (0, .nameAndType 308 309), (0, u "java/lang/Math"), (0, u "min"), (0, u "(II)I"), (65, .class_ 376), (0, u "java/util/Arrays$ArrayList"), (68, u "$assertionsDisabled"), (269, u "MIN_ARRAY_SORT_GRAN"), (0, u "I"), (2, u "INSERTIONSORT_THRESHOLD"), (151, u "([II)[I"), (0, u "([JI)[J"), (102, .class_ 976), (0, u "java/util/Arrays$ArrayItr")] 52

def k7m0 : Method := { name := "<init>", desc := "()V", sig := { parameters := [], returnType := none }, accessFlags := 2, code := none }
def k7c1 : Code := { maxStack := 6, maxLocals := 3, code := jdk_65_method_123_code, exceptionTable := #[], attributes := #[] }
def k7m1 : Method := { name := "copyOf", desc := "([II)[I", sig := { parameters := [(.array .int), .int], returnType := some (.array .int) }, accessFlags := 9, code := some k7c1 }
def k7c2 : Code := { maxStack := 6, maxLocals := 3, code := jdk_65_method_124_code, exceptionTable := #[], attributes := #[] }
def k7m2 : Method := { name := "copyOf", desc := "([JI)[J", sig := { parameters := [(.array .long), .int], returnType := some (.array .long) }, accessFlags := 9, code := some k7c2 }
/-- java/util/Arrays -/
def k7 : Class := { plain "java/util/Arrays" (some 0) with
  accessFlags := 49
  interfaces := #[]
  cf := some (fileOf pool7 14 #[.nestMembers #[975, 375, 113, 74]] #[{ accessFlags := 2, nameIndex := 5, descriptorIndex := 6, attributes := #[] }, { accessFlags := 9, nameIndex := 302, descriptorIndex := 871, attributes := #[] }, { accessFlags := 9, nameIndex := 302, descriptorIndex := 872, attributes := #[] }] 49 2 #[] #[{ accessFlags := 26, nameIndex := 715, descriptorIndex := 716, attributes := #[] }, { accessFlags := 26, nameIndex := 719, descriptorIndex := 716, attributes := #[] }, { accessFlags := 4120, nameIndex := 445, descriptorIndex := 117, attributes := #[] }])
  fields := #[{ name := "MIN_ARRAY_SORT_GRAN", type := .int, accessFlags := 26, slot := 0, constantValue := 0 }, { name := "INSERTIONSORT_THRESHOLD", type := .int, accessFlags := 26, slot := 1, constantValue := 0 }, { name := "$assertionsDisabled", type := .boolean, accessFlags := 4120, slot := 2, constantValue := 0 }]
  methods := #[k7m0, k7m1, k7m2]
  instanceTypes := #[]
  staticTypes := #[.int, .int, .boolean]
  resolved := Array.replicate 1029 none
  statics := none }

def pool8 : Array CpInfo := pool [(2, .class_ 4), (1, u "java/lang/Object"), (0, u "<init>"), (0, u "()V"), (1, .class_ 10), (1, u "java/lang/System"), (0, u "allowSecurityManager"), (0, u "I"), (16, u "cons"), (0, u "Ljava/io/Console;"), (77, .class_ 110), (1, u "java/lang/System$CallersHolder"), (43, u "initialErrStream"), (0, u "Ljava/io/PrintStream;"), (19, u "security"), (0, u "Ljava/lang/SecurityManager;"), (31, .class_ 209), (0, u "java/lang/System$1"), (7, u "props"), (0, u "Ljava/util/Properties;"), (2, u "lineSeparator"), (0, u "Ljava/lang/String;"), (96, .class_ 321), (1, u "java/lang/System$LoggerFinder"), (5, .class_ 328), (0, u "java/lang/System$Logger"), (67, u "err"), (2, u "out"), (91, u "notSupportedJnuEncoding"), (15, u "in"), (17, u "initialIn"), (0, u "Ljava/io/InputStream;"), (35, u "bootLayer"), (0, u "Ljava/lang/ModuleLayer;"), (99, .class_ 664), (0, u "java/lang/System$2"), (9, u "NEVER"), (2, u "MAYBE"), (49, u "arraycopy"), (0, u "(Ljava/lang/Object;ILjava/lang/Object;II)V"), (72, .class_ 802), (0, u "java/lang/System$Logger$Level")] 31

def k8m0 : Method := { name := "<init>", desc := "()V", sig := { parameters := [], returnType := none }, accessFlags := 2, code := none }
def k8m1 : Method := { name := "arraycopy", desc := "(Ljava/lang/Object;ILjava/lang/Object;II)V", sig := { parameters := [(.object "java/lang/Object"), .int, (.object "java/lang/Object"), .int, .int], returnType := none }, accessFlags := 265, code := none }
/-- java/lang/System -/
def k8 : Class := { plain "java/lang/System" (some 0) with
  accessFlags := 49
  interfaces := #[]
  cf := some (fileOf pool8 8 #[.nestMembers #[319, 327, 801, 108, 663, 208]] #[{ accessFlags := 2, nameIndex := 5, descriptorIndex := 6, attributes := #[] }, { accessFlags := 265, nameIndex := 727, descriptorIndex := 728, attributes := #[] }] 49 2 #[] #[{ accessFlags := 25, nameIndex := 507, descriptorIndex := 526, attributes := #[] }, { accessFlags := 25, nameIndex := 399, descriptorIndex := 155, attributes := #[] }, { accessFlags := 25, nameIndex := 396, descriptorIndex := 155, attributes := #[] }, { accessFlags := 10, nameIndex := 525, descriptorIndex := 526, attributes := #[] }, { accessFlags := 26, nameIndex := 674, descriptorIndex := 12, attributes := #[] }, { accessFlags := 26, nameIndex := 677, descriptorIndex := 12, attributes := #[] }, { accessFlags := 10, nameIndex := 11, descriptorIndex := 12, attributes := #[] }, { accessFlags := 74, nameIndex := 175, descriptorIndex := 176, attributes := #[] }, { accessFlags := 10, nameIndex := 491, descriptorIndex := 222, attributes := #[] }, { accessFlags := 74, nameIndex := 29, descriptorIndex := 30, attributes := #[] }, { accessFlags := 74, nameIndex := 154, descriptorIndex := 155, attributes := #[] }, { accessFlags := 10, nameIndex := 217, descriptorIndex := 218, attributes := #[] }, { accessFlags := 10, nameIndex := 221, descriptorIndex := 222, attributes := #[] }, { accessFlags := 8, nameIndex := 562, descriptorIndex := 563, attributes := #[] }])
  fields := #[{ name := "in", type := (.object "java/io/InputStream"), accessFlags := 25, slot := 0, constantValue := 0 }, { name := "out", type := (.object "java/io/PrintStream"), accessFlags := 25, slot := 1, constantValue := 0 }, { name := "err", type := (.object "java/io/PrintStream"), accessFlags := 25, slot := 2, constantValue := 0 }, { name := "initialIn", type := (.object "java/io/InputStream"), accessFlags := 10, slot := 3, constantValue := 0 }, { name := "NEVER", type := .int, accessFlags := 26, slot := 4, constantValue := 0 }, { name := "MAYBE", type := .int, accessFlags := 26, slot := 5, constantValue := 0 }, { name := "allowSecurityManager", type := .int, accessFlags := 10, slot := 6, constantValue := 0 }, { name := "security", type := (.object "java/lang/SecurityManager"), accessFlags := 74, slot := 7, constantValue := 0 }, { name := "notSupportedJnuEncoding", type := (.object "java/lang/String"), accessFlags := 10, slot := 8, constantValue := 0 }, { name := "cons", type := (.object "java/io/Console"), accessFlags := 74, slot := 9, constantValue := 0 }, { name := "initialErrStream", type := (.object "java/io/PrintStream"), accessFlags := 74, slot := 10, constantValue := 0 }, { name := "props", type := (.object "java/util/Properties"), accessFlags := 10, slot := 11, constantValue := 0 }, { name := "lineSeparator", type := (.object "java/lang/String"), accessFlags := 10, slot := 12, constantValue := 0 }, { name := "bootLayer", type := (.object "java/lang/ModuleLayer"), accessFlags := 8, slot := 13, constantValue := 0 }]
  methods := #[k8m0, k8m1]
  instanceTypes := #[]
  staticTypes := #[(.object "java/io/InputStream"), (.object "java/io/PrintStream"), (.object "java/io/PrintStream"), (.object "java/io/InputStream"), .int, .int, .int, (.object "java/lang/SecurityManager"), (.object "java/lang/String"), (.object "java/io/Console"), (.object "java/io/PrintStream"), (.object "java/util/Properties"), (.object "java/lang/String"), (.object "java/lang/ModuleLayer")]
  resolved := Array.replicate 834 none
  statics := none }

/-- the primitive byte -/
def k9 : Class := { plain "byte" none with kind := .primitive 'B', accessFlags := 0x411 }
/-- [B -/
def k10 : Class := { plain "[B" (some 0) with kind := .array 9 .byte, interfaces := #[3, 4], accessFlags := 1041 }

/-- the primitive int -/
def k11 : Class := { plain "int" none with kind := .primitive 'I', accessFlags := 0x411 }
/-- [I -/
def k12 : Class := { plain "[I" (some 0) with kind := .array 11 .int, interfaces := #[3, 4], accessFlags := 1041 }

/-- the primitive long -/
def k13 : Class := { plain "long" none with kind := .primitive 'J', accessFlags := 0x411 }
/-- [J -/
def k14 : Class := { plain "[J" (some 0) with kind := .array 13 .long, interfaces := #[3, 4], accessFlags := 1041 }

def heap : Heap := #[{ cls := 5, slots := #[.int 0, .int 0, .int 0, .long 0, .null, .long 0, .int 1], vm := .statics 5 }]
def classes : Array Class := #[k0, k1, k2, k3, k4, k5, k6, k7, k8, k9, k10, k11, k12, k13, k14]
def interned : List (Array UInt16 × Addr) := []
def slotsUsed : Nat := 7
def theMethod : MethodId := ⟨1, 1⟩
def args0 : Array Value := #[.int 5, .int 6, .int 7, .int 8, .long 9, .int 10]
def aboutOver (below : List Frame) : State where
  vm := { classes := classes, interned := interned.toArray }
  heap := heap
  slotsUsed := slotsUsed
  threads := #[{ frames := .invoking theMethod args0 :: below }]
def below0 : List Frame := [.native { method := ⟨0, 0⟩, args := #[] }]
def about1 : State := aboutOver below0
def p0 : Program := .bare "" "" ""
def e0 : Env := launch0.env 0 0 0
theorem w_frames : about1.frames = Frame.invoking theMethod args0 :: below0 := rfl
set_option maxRecDepth 65536 in
theorem w_args : argsFit about1.vm theMethod args0 = true := by decide +kernel
set_option maxRecDepth 65536 in
theorem w_heap : heapFits about1 = true := by decide +kernel
set_option maxRecDepth 65536 in
theorem w_runnable : about1.curStatus? = some .runnable := by decide +kernel
set_option maxRecDepth 65536 in
theorem w_alone : about1.alone = true := by decide +kernel
set_option maxRecDepth 65536 in
theorem w_named : about1.methodNamed? x = some theMethod := by decide +kernel
set_option maxRecDepth 65536 in
theorem w_hears : about1.hears theMethod below0 = true := by decide +kernel
set_option maxRecDepth 65536 in
theorem w_ripe : about1.ripe theMethod args0 below0 = true := by decide +kernel
theorem w_running : about1.status = .running := rfl
set_option maxRecDepth 65536 in
theorem w_room : about1.hasRoom e0.platform room_1 = true :=
  launch0.hasRoom_least _ room_1 (by decide +kernel) (by decide +kernel) (by decide +kernel) (by decide +kernel) (by decide +kernel) (by decide +kernel)
theorem allAtoms_all (ts : List Jvm.Cond) (a : Array Jvm.Value) (st : Jvm.State) : (allAtoms ts).before a st = ts.all (fun c => c.before a st) := by
  induction ts with
  | nil => rfl
  | cons c t ih =>
    show (Jvm.Cond.and c (allAtoms t)).before a st = _
    rw [Jvm.Cond.before_and, ih, List.all_cons]
def words1 : List Jvm.Cond := Jvm.Cond.code x code maxLocals ret :: tables_1
/-- a 'code' word, met by the world's own term for the bytes: nothing is compared byte by byte -/
theorem code_word {y : MethodName} {bytes : ByteArray} {mx : Nat} {rt : Option FieldType} {a : Array Value} {s : State} {m : MethodId} {meth : Method} {c : Code} (h1 : s.methodNamed? y = some m) (h2 : s.vm.method? m = some meth) (h3 : meth.code = some c) (h4 : c.code = bytes)
    (h5 : (c.maxLocals == mx && c.exceptionTable.isEmpty && decide (c.maxStack ≤ mostOperands) && decide (meth.sig.returnType = rt) && !meth.locks && decide (parseMethodDescriptor y.desc = some meth.sig)) = true) : (Jvm.Cond.code y bytes mx rt).before a s = true := by
  simp only [Bool.and_eq_true, beq_iff_eq, Bool.not_eq_true', decide_eq_true_eq] at h5
  obtain ⟨⟨⟨⟨⟨g1, g2⟩, g3⟩, g4⟩, g5⟩, g6⟩ := h5
  simp [Cond.before, Cond.holds, Cond.value, h1, h2, h3, h4, g1, g2, g3, g4, g5, g6]
def isCode : Jvm.Cond → Bool
  | .code _ _ _ _ => true
  | _ => false
theorem all_split {L : List Jvm.Cond} {P : Jvm.Cond → Bool} (h1 : L.all (fun c => isCode c || P c) = true) (h2 : ∀ c ∈ L.filter isCode, P c = true) : L.all P = true := by
  refine List.all_eq_true.mpr fun c hc => ?_
  have h := List.all_eq_true.mp h1 c hc
  rcases Bool.eq_false_or_eq_true (isCode c) with hi | hi
  · exact h2 c (List.mem_filter.mpr ⟨hc, hi⟩)
  · simpa [hi] using h
set_option maxRecDepth 65536 in
theorem w_c0 : (Jvm.Cond.code x code maxLocals ret).before args0 about1 = true := code_word (m := ⟨1, 1⟩) (meth := k1m1) (c := k1c1) (by decide +kernel) rfl rfl rfl (by decide +kernel)
set_option maxRecDepth 65536 in
theorem w_c1 : (Jvm.Cond.code ({ cls := "com/example/holdfast/holdfast/store/ObjectIndex", name := "<init>", desc := "()V" } : Jvm.MethodName) prog_119_method_1_code (1 : Nat) (Option.none : Option Jvm.ClassFile.FieldType)).before args0 about1 = true := code_word (m := ⟨2, 0⟩) (meth := k2m0) (c := k2c0) (by decide +kernel) rfl rfl rfl (by decide +kernel)
set_option maxRecDepth 65536 in
theorem w_c2 : (Jvm.Cond.code ({ cls := "java/lang/Object", name := "<init>", desc := "()V" } : Jvm.MethodName) object_method_1_code (1 : Nat) (Option.none : Option Jvm.ClassFile.FieldType)).before args0 about1 = true := code_word (m := ⟨0, 0⟩) (meth := k0m0) (c := k0c0) (by decide +kernel) rfl rfl rfl (by decide +kernel)
set_option maxRecDepth 65536 in
theorem w_c3 : (Jvm.Cond.code ({ cls := "java/util/BitSet", name := "<init>", desc := "()V" } : Jvm.MethodName) jdk_92_method_4_code (1 : Nat) (Option.none : Option Jvm.ClassFile.FieldType)).before args0 about1 = true := code_word (m := ⟨5, 2⟩) (meth := k5m2) (c := k5c2) (by decide +kernel) rfl rfl rfl (by decide +kernel)
set_option maxRecDepth 65536 in
theorem w_c4 : (Jvm.Cond.code ({ cls := "java/util/BitSet", name := "initWords", desc := "(I)V" } : Jvm.MethodName) jdk_92_method_6_code (2 : Nat) (Option.none : Option Jvm.ClassFile.FieldType)).before args0 about1 = true := code_word (m := ⟨5, 3⟩) (meth := k5m3) (c := k5c3) (by decide +kernel) rfl rfl rfl (by decide +kernel)
set_option maxRecDepth 65536 in
theorem w_c5 : (Jvm.Cond.code ({ cls := "java/util/BitSet", name := "wordIndex", desc := "(I)I" } : Jvm.MethodName) jdk_92_method_1_code (1 : Nat) (Option.some Jvm.ClassFile.FieldType.int)).before args0 about1 = true := code_word (m := ⟨5, 0⟩) (meth := k5m0) (c := k5c0) (by decide +kernel) rfl rfl rfl (by decide +kernel)
set_option maxRecDepth 65536 in
theorem w_c6 : (Jvm.Cond.code ({ cls := "com/example/holdfast/holdfast/store/ObjectIndex", name := "classId", desc := "(J)I" } : Jvm.MethodName) prog_119_method_9_code (3 : Nat) (Option.some Jvm.ClassFile.FieldType.int)).before args0 about1 = true := code_word (m := ⟨2, 2⟩) (meth := k2m2) (c := k2c2) (by decide +kernel) rfl rfl rfl (by decide +kernel)
set_option maxRecDepth 65536 in
theorem w_c7 : (Jvm.Cond.code ({ cls := "com/example/holdfast/holdfast/store/ObjectIndex", name := "put", desc := "(JJIIJ)V" } : Jvm.MethodName) prog_119_method_2_code (11 : Nat) (Option.none : Option Jvm.ClassFile.FieldType)).before args0 about1 = true := code_word (m := ⟨2, 1⟩) (meth := k2m1) (c := k2c1) (by decide +kernel) rfl rfl rfl (by decide +kernel)
set_option maxRecDepth 65536 in
theorem w_c8 : (Jvm.Cond.code ({ cls := "java/util/BitSet", name := "get", desc := "(I)Z" } : Jvm.MethodName) jdk_92_method_26_code (3 : Nat) (Option.some Jvm.ClassFile.FieldType.boolean)).before args0 about1 = true := code_word (m := ⟨5, 4⟩) (meth := k5m4) (c := k5c4) (by decide +kernel) rfl rfl rfl (by decide +kernel)
set_option maxRecDepth 65536 in
theorem w_c9 : (Jvm.Cond.code ({ cls := "java/util/BitSet", name := "checkInvariants", desc := "()V" } : Jvm.MethodName) jdk_92_method_2_code (1 : Nat) (Option.none : Option Jvm.ClassFile.FieldType)).before args0 about1 = true := code_word (m := ⟨5, 1⟩) (meth := k5m1) (c := k5c1) (by decide +kernel) rfl rfl rfl (by decide +kernel)
set_option maxRecDepth 65536 in
theorem w_c10 : (Jvm.Cond.code ({ cls := "java/lang/Math", name := "max", desc := "(JJ)J" } : Jvm.MethodName) jdk_29_method_66_code (4 : Nat) (Option.some Jvm.ClassFile.FieldType.long)).before args0 about1 = true := code_word (m := ⟨6, 1⟩) (meth := k6m1) (c := k6c1) (by decide +kernel) rfl rfl rfl (by decide +kernel)
set_option maxRecDepth 65536 in
theorem w_c11 : (Jvm.Cond.code ({ cls := "java/lang/Math", name := "min", desc := "(JJ)J" } : Jvm.MethodName) jdk_29_method_70_code (4 : Nat) (Option.some Jvm.ClassFile.FieldType.long)).before args0 about1 = true := code_word (m := ⟨6, 3⟩) (meth := k6m3) (c := k6c3) (by decide +kernel) rfl rfl rfl (by decide +kernel)
set_option maxRecDepth 65536 in
theorem w_c12 : (Jvm.Cond.code ({ cls := "java/util/Arrays", name := "copyOf", desc := "([JI)[J" } : Jvm.MethodName) jdk_65_method_124_code (3 : Nat) (Option.some (Jvm.ClassFile.FieldType.array Jvm.ClassFile.FieldType.long))).before args0 about1 = true := code_word (m := ⟨7, 2⟩) (meth := k7m2) (c := k7c2) (by decide +kernel) rfl rfl rfl (by decide +kernel)
set_option maxRecDepth 65536 in
theorem w_c13 : (Jvm.Cond.code ({ cls := "java/lang/Math", name := "min", desc := "(II)I" } : Jvm.MethodName) jdk_29_method_69_code (2 : Nat) (Option.some Jvm.ClassFile.FieldType.int)).before args0 about1 = true := code_word (m := ⟨6, 2⟩) (meth := k6m2) (c := k6c2) (by decide +kernel) rfl rfl rfl (by decide +kernel)
set_option maxRecDepth 65536 in
theorem w_c14 : (Jvm.Cond.code ({ cls := "java/util/Arrays", name := "copyOf", desc := "([II)[I" } : Jvm.MethodName) jdk_65_method_123_code (3 : Nat) (Option.some (Jvm.ClassFile.FieldType.array Jvm.ClassFile.FieldType.int))).before args0 about1 = true := code_word (m := ⟨7, 1⟩) (meth := k7m1) (c := k7c1) (by decide +kernel) rfl rfl rfl (by decide +kernel)
def codes1 : List Jvm.Cond := [Jvm.Cond.code x code maxLocals ret, Jvm.Cond.code ({ cls := "com/example/holdfast/holdfast/store/ObjectIndex", name := "<init>", desc := "()V" } : Jvm.MethodName) prog_119_method_1_code (1 : Nat) (Option.none : Option Jvm.ClassFile.FieldType), Jvm.Cond.code ({ cls := "java/lang/Object", name := "<init>", desc := "()V" } : Jvm.MethodName) object_method_1_code (1 : Nat) (Option.none : Option Jvm.ClassFile.FieldType), Jvm.Cond.code ({ cls := "java/util/BitSet", name := "<init>", desc := "()V" } : Jvm.MethodName) jdk_92_method_4_code (1 : Nat) (Option.none : Option Jvm.ClassFile.FieldType), Jvm.Cond.code ({ cls := "java/util/BitSet", name := "initWords", desc := "(I)V" } : Jvm.MethodName) jdk_92_method_6_code (2 : Nat) (Option.none : Option Jvm.ClassFile.FieldType), Jvm.Cond.code ({ cls := "java/util/BitSet", name := "wordIndex", desc := "(I)I" } : Jvm.MethodName) jdk_92_method_1_code (1 : Nat) (Option.some Jvm.ClassFile.FieldType.int), Jvm.Cond.code ({ cls := "com/example/holdfast/holdfast/store/ObjectIndex", name := "classId", desc := "(J)I" } : Jvm.MethodName) prog_119_method_9_code (3 : Nat) (Option.some Jvm.ClassFile.FieldType.int), Jvm.Cond.code ({ cls := "com/example/holdfast/holdfast/store/ObjectIndex", name := "put", desc := "(JJIIJ)V" } : Jvm.MethodName) prog_119_method_2_code (11 : Nat) (Option.none : Option Jvm.ClassFile.FieldType), Jvm.Cond.code ({ cls := "java/util/BitSet", name := "get", desc := "(I)Z" } : Jvm.MethodName) jdk_92_method_26_code (3 : Nat) (Option.some Jvm.ClassFile.FieldType.boolean), Jvm.Cond.code ({ cls := "java/util/BitSet", name := "checkInvariants", desc := "()V" } : Jvm.MethodName) jdk_92_method_2_code (1 : Nat) (Option.none : Option Jvm.ClassFile.FieldType), Jvm.Cond.code ({ cls := "java/lang/Math", name := "max", desc := "(JJ)J" } : Jvm.MethodName) jdk_29_method_66_code (4 : Nat) (Option.some Jvm.ClassFile.FieldType.long), Jvm.Cond.code ({ cls := "java/lang/Math", name := "min", desc := "(JJ)J" } : Jvm.MethodName) jdk_29_method_70_code (4 : Nat) (Option.some Jvm.ClassFile.FieldType.long), Jvm.Cond.code ({ cls := "java/util/Arrays", name := "copyOf", desc := "([JI)[J" } : Jvm.MethodName) jdk_65_method_124_code (3 : Nat) (Option.some (Jvm.ClassFile.FieldType.array Jvm.ClassFile.FieldType.long)), Jvm.Cond.code ({ cls := "java/lang/Math", name := "min", desc := "(II)I" } : Jvm.MethodName) jdk_29_method_69_code (2 : Nat) (Option.some Jvm.ClassFile.FieldType.int), Jvm.Cond.code ({ cls := "java/util/Arrays", name := "copyOf", desc := "([II)[I" } : Jvm.MethodName) jdk_65_method_123_code (3 : Nat) (Option.some (Jvm.ClassFile.FieldType.array Jvm.ClassFile.FieldType.int))]
set_option maxRecDepth 65536 in
theorem codes_eq : words1.filter isCode = codes1 := rfl
theorem w_codes : ∀ c ∈ words1.filter isCode, c.before args0 about1 = true := by
  rw [codes_eq]
  intro c hc
  simp only [codes1, List.mem_cons, List.not_mem_nil, or_false] at hc
  rcases hc with rfl | rfl | rfl | rfl | rfl | rfl | rfl | rfl | rfl | rfl | rfl | rfl | rfl | rfl | rfl
  · exact w_c0
  · exact w_c1
  · exact w_c2
  · exact w_c3
  · exact w_c4
  · exact w_c5
  · exact w_c6
  · exact w_c7
  · exact w_c8
  · exact w_c9
  · exact w_c10
  · exact w_c11
  · exact w_c12
  · exact w_c13
  · exact w_c14
set_option maxRecDepth 65536 in
theorem w_t1 : (words1.take 24).all (fun c => isCode c || c.before args0 about1) = true := by decide +kernel
set_option maxRecDepth 65536 in
theorem w_t2 : ((words1.drop 24).take 24).all (fun c => isCode c || c.before args0 about1) = true := by decide +kernel
set_option maxRecDepth 65536 in
theorem w_t3 : (((words1.drop 24).drop 24).take 24).all (fun c => isCode c || c.before args0 about1) = true := by decide +kernel
set_option maxRecDepth 65536 in
theorem w_t4 : (((words1.drop 24).drop 24).drop 24).all (fun c => isCode c || c.before args0 about1) = true := by decide +kernel
theorem w_tables : (allAtoms (Jvm.Cond.code x code maxLocals ret :: tables_1)).before args0 about1 = true := by
  rw [allAtoms_all]
  show words1.all (fun c => c.before args0 about1) = true
  refine all_split ?_ w_codes
  rw [← List.take_append_drop 24 words1, List.all_append, w_t1, ← List.take_append_drop 24 (words1.drop 24), List.all_append, w_t2, ← List.take_append_drop 24 ((words1.drop 24).drop 24), List.all_append, w_t3, w_t4]
  rfl
set_option maxRecDepth 65536 in
theorem w_rest : rest_1_c.before args0 about1 = true := by decide +kernel
set_option maxRecDepth 65536 in
theorem w_case : (Jvm.Cond.and given_1 narrow_1).before args0 about1 = true := by decide +kernel
theorem w_applies : (headSpec (Jvm.Cond.code x code maxLocals ret :: tables_1) room_1).applies x e0.platform about1 = true :=
  (Spec.applies_iff w_frames).mpr ⟨w_running, w_runnable, w_alone, w_named, w_hears, w_ripe, w_room, w_tables⟩
theorem atStart : AtStart classFile x code maxLocals ret World_1 tables_1 room_1 Calls_1 rest_1 Pre_1 launch0 p0 e0 about1 theMethod args0 below0 :=
  ⟨lists_1, trivial, launch0.admits_env _ _ _, launch0.least_env, fairChoices_fair.cas, fairChoices_fair.clock, w_frames, w_args, w_heap, w_applies, trivial, w_rest, w_case⟩
end start1
theorem witness_1 : WitnessClaimed_1 := ⟨start1.p0, start1.e0, start1.about1, start1.theMethod, start1.args0, start1.below0, start1.atStart⟩
end Jvm.Pilot.@@N@@

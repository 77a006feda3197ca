import JvmDerived
import JvmDerived.Pilot.@@N@@Statement
import JvmDerived.Pilot.@@N@@Code
set_option linter.unusedVariables false
set_option linter.unusedSimpArgs false
namespace Jvm.Pilot.@@N@@
open Jvm Jvm.ClassFile Sem Op Lib Jvm.Free Jvm.Stand Jvm.LawKit Jvm.RoadKit Bundle Jvm.Pilot.@@N@@.Jvm.D
/-! the walk in continuation style: 'from U the run comes to an end of which P holds' -/
def OwnGoes (p : Program) (e : Env) (below : List Frame) (P : Outcome → State → Prop) (U : State) : Prop := ∃ s₂ o, Steps p.tables e below U s₂ ∧ s₂.status = .running ∧ Ended s₂ below o ∧ P o s₂
theorem own_pre {p : Program} {e : Env} {below : List Frame} {P : Outcome → State → Prop} {U U' : State} (h : ∀ t, Steps p.tables e below U' t → Steps p.tables e below U t) (k : OwnGoes p e below P U') : OwnGoes p e below P U := by
  obtain ⟨s₂, o, h1, h2⟩ := k
  exact ⟨s₂, o, h _ h1, h2⟩
theorem own_tr {p : Program} {e : Env} {below : List Frame} {P : Outcome → State → Prop} {U U' : State} (h : Steps p.tables e below U U') (k : OwnGoes p e below P U') : OwnGoes p e below P U := own_pre (fun _ q => h.trans q) k
theorem own_ret {p : Program} {l : Launch} {e : Env} {R : Room} {s : State} {m : MethodId} {args : Array Value} {below : List Frame} {meth : Method} {c : Code} {T : State} {locs : List Loc} {cells slots : Nat}
    (X : Stand p l e R s m args below meth c T locs cells slots) (hx : p.tables.exec = Jvm.exec) {pc : Nat} {Ls : Array Slot} {w : Value} {t : FieldType} {i : Instr} {rest : List Value} (hret : meth.sig.returnType = some t) (hn : narrow t w = w)
    (hi : (i = .ireturn ∧ (t = .int ∨ t = .boolean ∨ t = .byte ∨ t = .char ∨ t = .short) ∧ ∃ z, w = .int z) ∨ (i = .lreturn ∧ t = .long ∧ ∃ z, w = .long z) ∨ (i = .dreturn ∧ t = .double ∧ ∃ z, w = .double z) ∨ (i = .freturn ∧ t = .float ∧ ∃ z, w = .float z) ∨ (i = .areturn ∧ t.isReference = true ∧ w.isRef = true))
    (hlocks : meth.locks = false) (hd : decode c.code pc = .ok (i, 1)) {Qh : Option Value → Heap → List Loc → Prop} {rc rs : Nat} (hQ : Qh (some w) T.heap locs) (hc : cells ≤ rc) (hs : slots ≤ rs) :
    OwnGoes p e below (fun o U' => ∃ v L, o = .returned v ∧ Qh v U'.heap L ∧ FrameEnd s o U' L rc rs) (T.setTop (mkF m pc Ls (w :: rest))) := by
  obtain ⟨fs, hr, hrun, hended, hW, hsame⟩ := X.leave (v := some w) (fun h => by rw [hret] at h; cases h) hlocks
  exact ⟨_, _, retOut X hx hret hn hi hd hr, hrun, hended, _, _, rfl, hQ, ⟨_, rfl⟩, hW, hsame.mono hc hs⟩
theorem own_retV {p : Program} {l : Launch} {e : Env} {R : Room} {s : State} {m : MethodId} {args : Array Value} {below : List Frame} {meth : Method} {c : Code} {T : State} {locs : List Loc} {cells slots : Nat}
    (X : Stand p l e R s m args below meth c T locs cells slots) (hx : p.tables.exec = Jvm.exec) {pc : Nat} {Ls : Array Slot} (hret : meth.sig.returnType = none) (hlocks : meth.locks = false) (hd : decode c.code pc = .ok (.return_, 1)) {Qh : Option Value → Heap → List Loc → Prop} {rc rs : Nat} (hQ : Qh none T.heap locs) (hc : cells ≤ rc) (hs : slots ≤ rs) :
    OwnGoes p e below (fun o U' => ∃ v L, o = .returned v ∧ Qh v U'.heap L ∧ FrameEnd s o U' L rc rs) (T.setTop (mkF m pc Ls [])) := by
  obtain ⟨fs, hr, hrun, hended, hW, hsame⟩ := X.leave (v := none) (fun _ => rfl) hlocks
  exact ⟨_, _, X.returnOut hx hret hd hr, hrun, hended, _, _, rfl, hQ, ⟨_, rfl⟩, hW, hsame.mono hc hs⟩
/-! an array by the list of what it holds -/
def OwnA (Z : State) (h : Heap) (b : Addr) (ty : FieldType) (vs : List Value) : Prop := ∃ c : Cell, Jvm.RoadKit.Arr Z h b c ty ∧ c.slots = vs.toArray
section OwnArrays
variable {Z : State} {h h' : Heap} {a b : Addr} {ty : FieldType} {vs ws : List Value} {v : Value} {sl : Nat} {as : List Addr}
theorem OwnA.lt (F : OwnA Z h b ty vs) : b < h.size := by obtain ⟨c, A, -⟩ := F; exact A.lt
theorem OwnA.ext (F : OwnA Z h b ty vs) (E : Ext h h') : OwnA Z h' b ty vs := by obtain ⟨c, A, r⟩ := F; exact ⟨c, A.ext E, r⟩
theorem OwnA.other (F : OwnA Z h b ty vs) (W : Wr h h' a sl v) (q : b ≠ a) : OwnA Z h' b ty vs := by obtain ⟨c, A, r⟩ := F; exact ⟨c, A.other W q, r⟩
theorem OwnA.keep (F : OwnA Z h b ty vs) (K : Keep h h' as) (q : b ∉ as) : OwnA Z h' b ty vs := by obtain ⟨c, A, r⟩ := F; exact ⟨c, ⟨K.2.1 _ _ A.1 q, A.2⟩, r⟩
theorem OwnA.same (F : OwnA Z h a ty vs) (W : Wr h h' a sl v) : OwnA Z h' a ty (vs.set sl v) := by
  obtain ⟨c, A, r⟩ := F
  refine ⟨_, A.same W, ?_⟩
  show c.slots.setIfInBounds sl v = _
  rw [r]; simp
theorem OwnA.plain (F : OwnA Z h a ty vs) : ∀ cell : Cell, h[a]? = some cell → cell.vm.isStatics = false := fun cell hc => by
  obtain ⟨c, A, r⟩ := F
  cases hc.symm.trans A.1
  exact A.plain
variable {p : Program} {l : Launch} {e : Env} {R : Room} {s : State} {m : MethodId} {args : Array Value} {below : List Frame} {meth : Method} {c : Code} {T : State} {locs : List Loc} {cells slots : Nat} {a0 : Array Value}
theorem own_hin {c : Cell} {vs : List Value} {j : Int32} (hs : c.slots = vs.toArray) (h0 : ¬ j < 0) (h1 : j.toNatClampNeg < vs.length) : ¬ (j < 0 ∨ c.slots.size ≤ j.toNatClampNeg) := by
  rw [hs]; simp only [List.size_toArray]; intro q; rcases q with q | q
  · exact h0 q
  · omega
theorem own_alen (X : Stand p l e R s m args below meth c T locs cells slots) (hx : p.tables.exec = Jvm.exec) (hZ : Z.Warmed39 s.vm) (eT : T.heap = h) (A : OwnA Z h a ty vs) {n : Int32} (hn : n = Int32.ofNat vs.length)
    {g : JFrame} (hg : g.method = m) {rest : List Value} (hs : g.stack = .ref a :: rest) (hd : decode c.code g.pc = .ok (.arraylength, 1)) :
    ∀ t, Steps p.tables e below (T.setTop { g with pc := g.pc + 1, stack := .int n :: rest }) t → Steps p.tables e below (T.setTop g) t := fun t k => by
  obtain ⟨c, A, r⟩ := A
  refine X.arraylength hx (by rw [eT]; exact A.1) (State.isArrayOf_alike hZ.alike A.2.1) hg hs hd t ?_
  have q : c.slots.size.toInt32 = n := by rw [r, hn, List.size_toArray]
  rw [q]; exact k
theorem own_iald (X : Stand p l e R s m args below meth c T locs cells slots) (hx : p.tables.exec = Jvm.exec) (hZ : Z.Warmed39 s.vm) (eT : T.heap = h) (A : OwnA Z h a .int vs) {j : Int32} {v : Value} (h0 : ¬ j < 0) (hv : vs[j.toNatClampNeg]? = some v)
    {g : JFrame} (hg : g.method = m) {rest : List Value} (hs : g.stack = .int j :: .ref a :: rest) (hd : decode c.code g.pc = .ok (.iaload, 1)) :
    ∀ t, Steps p.tables e below (T.setTop { g with pc := g.pc + 1, stack := v :: rest }) t → Steps p.tables e below (T.setTop g) t := fun t k => by
  obtain ⟨c, A, r⟩ := A
  exact X.iaload hx (by rw [eT]; exact A.1) (State.isArrayOf_alike hZ.alike A.2.1) A.2.2 (own_hin r h0 (List.getElem?_eq_some_iff.mp hv).1) (by rw [r]; simpa using hv) hg hs hd t k
theorem own_lald (X : Stand p l e R s m args below meth c T locs cells slots) (hx : p.tables.exec = Jvm.exec) (hZ : Z.Warmed39 s.vm) (eT : T.heap = h) (A : OwnA Z h a .long vs) {j : Int32} {v : Value} (h0 : ¬ j < 0) (hv : vs[j.toNatClampNeg]? = some v)
    {g : JFrame} (hg : g.method = m) {rest : List Value} (hs : g.stack = .int j :: .ref a :: rest) (hd : decode c.code g.pc = .ok (.laload, 1)) :
    ∀ t, Steps p.tables e below (T.setTop { g with pc := g.pc + 1, stack := v :: rest }) t → Steps p.tables e below (T.setTop g) t := fun t k => by
  obtain ⟨c, A, r⟩ := A
  exact X.laload hx (by rw [eT]; exact A.1) (State.isArrayOf_alike hZ.alike A.2.1) A.2.2 (own_hin r h0 (List.getElem?_eq_some_iff.mp hv).1) (by rw [r]; simpa using hv) hg hs hd t k
theorem own_ist (X : Stand p l e R s m args below meth c T locs cells slots) (hx : p.tables.exec = Jvm.exec) (hZ : Z.Warmed39 s.vm) (eT : T.heap = h) (A : OwnA Z h a .int vs) {j x : Int32} (h0 : ¬ j < 0) (h1 : j.toNatClampNeg < vs.length)
    {g : JFrame} (hg : g.method = m) {rest : List Value} (hs : g.stack = .int x :: .int j :: .ref a :: rest) (hd : decode c.code g.pc = .ok (.iastore, 1)) :
    ∃ T' h', Stand p l e R s m args below meth c T' (locs ++ [⟨a, j.toNatClampNeg⟩]) cells slots ∧ T'.heap = h' ∧ Wr h h' a j.toNatClampNeg (.int x) ∧ OwnA Z h' a .int (vs.set j.toNatClampNeg (.int x)) ∧
      ∀ t, Steps p.tables e below (T'.setTop { g with pc := g.pc + 1, stack := rest }) t → Steps p.tables e below (T.setTop g) t := by
  have F := A
  obtain ⟨c, A, r⟩ := A
  obtain ⟨T', h', X', e', W, st⟩ := stI X hx hZ eT A (own_hin r h0 h1) hg hs hd
  exact ⟨T', h', X', e', W, F.same W, st⟩
theorem own_jst (X : Stand p l e R s m args below meth c T locs cells slots) (hx : p.tables.exec = Jvm.exec) (hZ : Z.Warmed39 s.vm) (eT : T.heap = h) (A : OwnA Z h a .long vs) {j : Int32} {x : Int64} (h0 : ¬ j < 0) (h1 : j.toNatClampNeg < vs.length)
    {g : JFrame} (hg : g.method = m) {rest : List Value} (hs : g.stack = .long x :: .int j :: .ref a :: rest) (hd : decode c.code g.pc = .ok (.lastore, 1)) :
    ∃ T' h', Stand p l e R s m args below meth c T' (locs ++ [⟨a, j.toNatClampNeg⟩]) cells slots ∧ T'.heap = h' ∧ Wr h h' a j.toNatClampNeg (.long x) ∧ OwnA Z h' a .long (vs.set j.toNatClampNeg (.long x)) ∧
      ∀ t, Steps p.tables e below (T'.setTop { g with pc := g.pc + 1, stack := rest }) t → Steps p.tables e below (T.setTop g) t := by
  have F := A
  obtain ⟨c, A, r⟩ := A
  obtain ⟨T', h', X', e', W, st⟩ := stJ X hx hZ eT A (own_hin r h0 h1) hg hs hd
  exact ⟨T', h', X', e', W, F.same W, st⟩
theorem own_dald (X : Stand p l e R s m args below meth c T locs cells slots) (hx : p.tables.exec = Jvm.exec) (hZ : Z.Warmed39 s.vm) (eT : T.heap = h) (A : OwnA Z h a .double vs) {j : Int32} {v : Value} (h0 : ¬ j < 0) (hv : vs[j.toNatClampNeg]? = some v)
    {g : JFrame} (hg : g.method = m) {rest : List Value} (hs : g.stack = .int j :: .ref a :: rest) (hd : decode c.code g.pc = .ok (.daload, 1)) :
    ∀ t, Steps p.tables e below (T.setTop { g with pc := g.pc + 1, stack := v :: rest }) t → Steps p.tables e below (T.setTop g) t := fun t k => by
  obtain ⟨c, A, r⟩ := A
  exact X.daload hx (by rw [eT]; exact A.1) (State.isArrayOf_alike hZ.alike A.2.1) A.2.2 (own_hin r h0 (List.getElem?_eq_some_iff.mp hv).1) (by rw [r]; simpa using hv) hg hs hd t k
theorem own_dst (X : Stand p l e R s m args below meth c T locs cells slots) (hx : p.tables.exec = Jvm.exec) (hZ : Z.Warmed39 s.vm) (eT : T.heap = h) (A : OwnA Z h a .double vs) {j : Int32} {x : UInt64} (h0 : ¬ j < 0) (h1 : j.toNatClampNeg < vs.length)
    {g : JFrame} (hg : g.method = m) {rest : List Value} (hs : g.stack = .double x :: .int j :: .ref a :: rest) (hd : decode c.code g.pc = .ok (.dastore, 1)) :
    ∃ T' h', Stand p l e R s m args below meth c T' (locs ++ [⟨a, j.toNatClampNeg⟩]) cells slots ∧ T'.heap = h' ∧ Wr h h' a j.toNatClampNeg (.double x) ∧ OwnA Z h' a .double (vs.set j.toNatClampNeg (.double x)) ∧
      ∀ t, Steps p.tables e below (T'.setTop { g with pc := g.pc + 1, stack := rest }) t → Steps p.tables e below (T.setTop g) t := by
  have F := A
  obtain ⟨c, A, r⟩ := A
  obtain ⟨T', h', X', e', W, st⟩ := stD X hx hZ eT A (own_hin r h0 h1) hg hs hd
  exact ⟨T', h', X', e', W, F.same W, st⟩
theorem own_newa (X : Stand p l e R s m args below meth c T locs cells slots) (hx : p.tables.exec = Jvm.exec) (hZ : Z.Warmed39 s.vm) {aty : ArrayType} (w : (Jvm.Cond.arrayClass (newarray.typeOf aty)).before a0 Z = true) (eT : T.heap = h) {g : JFrame} (hg : g.method = m) (hd : decode c.code g.pc = .ok (.newarray aty, 2)) {n : Int32} {rest : List Value} (hs : g.stack = .int n :: rest)
    (hn : ¬ n < 0) {cap : Nat} (hcap : n.toNatClampNeg ≤ cap) (hb : cap * 8 ≤ 536870912) (hc : cells + 1 ≤ R.cells) (hl : slots + cap ≤ R.slots) :
    ∃ T' h', Stand p l e R s m args below meth c T' locs (cells + 1) (slots + cap) ∧ T'.heap = h' ∧ Ext h h' ∧ OwnA Z h' h.size (newarray.typeOf aty) (List.replicate n.toNatClampNeg (defaultValue (newarray.typeOf aty))) ∧
      ∀ t, Steps p.tables e below (T'.setTop { g with pc := g.pc + 2, stack := .ref h.size :: rest }) t → Steps p.tables e below (T.setTop g) t := by
  obtain ⟨T', h', cA, X', e', E, A, st⟩ := newP X hx hZ w eT hg hd hs hn hcap hb hc hl
  exact ⟨T', h', X', e', E, ⟨_, A, by simp [newA]⟩, st⟩
/-- System.arraycopy from place 0 to place 0 of another array of the same plain kind -/
theorem own_acopy (X : Stand p l e R s m args below meth c T locs cells slots) (hx : p.tables.exec = Jvm.exec) (hZ : Z.Warmed39 s.vm) {own : String} {index : Nat} (hown : s.vm.findClass own = some m.cls) (hwz : ∀ w ∈ XT.acW own index, w.before args s = true)
    (eT : T.heap = h) (A : OwnA Z h a ty vs) (B : OwnA Z h b ty ws) (hty : refKind ty = false) (href : ty.isReference = false) (hfit : ∀ x ∈ vs, fits ty x = true) (h1 : vs.length < 2 ^ 31) (h2 : ws.length < 2 ^ 31) {n : Nat} {jn : Int32} (hjn : jn = Int32.ofNat n) (hn1 : n ≤ vs.length) (hn2 : n ≤ ws.length)
    {g : JFrame} (hg : g.method = m) (hsize : g.locals.size = c.maxLocals) {rest : List Value} (hs : g.stack = .int jn :: .int 0 :: .ref b :: .int 0 :: .ref a :: rest) (hd : decode c.code g.pc = .ok (.invokestatic index, 3))
    {W : Nat} (hW : 2 * g.monitorRoom + (rest.map fun v => v.category).sum ≤ W) (hfr : 1 ≤ R.frames) (hlo : W + 40 ≤ R.locals) :
    ∃ T' h', Stand p l e R s m args below meth c T' (locs ++ copyLocs b 0 n) cells slots ∧ T'.heap = h' ∧ Keep h h' [b] ∧ OwnA Z h' b ty (vs.take n ++ ws.drop n) ∧
      ∀ t, Steps p.tables e below (T'.setTop { g with pc := g.pc + 3, stack := rest }) t → Steps p.tables e below (T.setTop g) t := by
  obtain ⟨cA, A, rA⟩ := A
  obtain ⟨cB, B, rB⟩ := B
  have hU : Z.Warmed39 T.vm := wtrans hZ X.warmed
  have A' : XT.Arr ty a cA T := ⟨by rw [eT]; exact A.1, State.isArrayOf_alike hU.alike A.2.1, A.2.2, by rw [rA]; simpa using h1⟩
  have B' : XT.Arr ty b cB T := ⟨by rw [eT]; exact B.1, State.isArrayOf_alike hU.alike B.2.1, B.2.2, by rw [rB]; simpa using h2⟩
  obtain ⟨T', B1, X', P, c1, c2, c3, c4, st⟩ := X.acopy hx hown hwz A' B' (by simp [hty]) (o := 0) (q := 0) (n := n) (jo := 0) (jq := 0) rfl rfl hjn (by rw [rA]; simpa using hn1) (by rw [rB]; simpa using hn2)
    (fun i hi => ⟨hfit _ (by
      rw [rA, Array.getD_eq_getD_getElem?]
      have hi' : 0 + i < vs.length := by omega
      simp only [List.getElem?_toArray, List.getElem?_eq_getElem hi', Option.getD_some]
      exact List.getElem_mem hi'), fun q => by rw [href] at q; cases q⟩) hg hsize hs hd hW hfr hlo
  refine ⟨T', _, X', rfl, ⟨?_, fun x cx hx hne => ?_, fun x cx hx => ?_⟩, ⟨B1, ⟨P.1, ?_, by rw [c2]; exact B.2.2⟩, ?_⟩, st⟩
  · rw [P.2.2, eT]; exact Nat.le_refl _
  · rw [P.2.1 x (fun q => hne (by rw [q]; exact List.mem_singleton.mpr rfl)), eT]; exact hx
  · by_cases q : x = b
    · subst q
      cases hx.symm.trans B.1
      exact ⟨B1, P.1, c1, c2, c3⟩
    · exact ⟨cx, by rw [P.2.1 x q, eT]; exact hx, rfl, rfl, rfl⟩
  · obtain ⟨q1, k, q2, q3⟩ := B.2.1
    exact ⟨by rw [c2]; exact q1, k, by rw [c1]; exact q2, q3⟩
  · apply Array.ext_getElem?
    intro j
    rw [c4 j]
    rw [rA, rB, Array.getD_eq_getD_getElem?]
    simp only [List.getElem?_toArray]
    by_cases q : j < n
    · have q2 : j < vs.length := by omega
      rw [if_pos ⟨Nat.zero_le _, by omega⟩, List.getElem?_append_left (by rw [List.length_take]; omega), List.getElem?_take_of_lt q]
      simp [List.getElem?_eq_getElem q2]
    · rw [if_neg (by omega), List.getElem?_append_right (by rw [List.length_take]; omega), List.getElem?_drop, List.length_take]
      congr 1
      omega
theorem own_frcopy {n0 : Nat} {locs : List Loc} (N : Fr n0 locs) {b : Addr} (hb : n0 ≤ b) (k : Nat) : Fr n0 (locs ++ copyLocs b 0 k) := Fr.app N (fun y hy => by
  simp only [copyLocs, List.mem_map] at hy
  obtain ⟨i, -, rfl⟩ := hy
  exact hb)
end OwnArrays

/-! multianewarray of three dimensions: the library has two (Jvm.Free.Multi) -/
section OwnMulti
open Jvm.Free.Multi
def own_outer (c : ClassId) (N h0 M : Nat) : Nat → Cell
  | 0 => { cls := c, slots := Array.replicate N .null, vm := .none }
  | i + 1 => (own_outer c N h0 M i).setSlot i (.ref (h0 + 1 + i * (M + 1)))
def own_fill3 (s : State) (c c1 c2 : ClassId) (N M K : Nat) (dv : Value) : Nat → State
  | 0 => s.pushCell (own_outer c N s.heap.size M 0)
  | i + 1 => (Jvm.Free.Multi.fill (own_fill3 s c c1 c2 N M K dv i) c1 c2 M K dv M).setCell s.heap.size (own_outer c N s.heap.size M (i + 1))
theorem own_outer_facts (c : ClassId) (N h0 M : Nat) : ∀ i, (own_outer c N h0 M i).cls = c ∧ (own_outer c N h0 M i).vm = .none ∧ (own_outer c N h0 M i).slots.size = N
  | 0 => ⟨rfl, rfl, by simp [own_outer]⟩
  | i + 1 => by
    obtain ⟨a, b, d⟩ := own_outer_facts c N h0 M i
    exact ⟨by simp [own_outer, Cell.setSlot, a], by simp [own_outer, Cell.setSlot, b], by simp [own_outer, Cell.setSlot, d]⟩
theorem own_fill3_facts (s : State) (c c1 c2 : ClassId) (N M K : Nat) (dv : Value) : ∀ i, (own_fill3 s c c1 c2 N M K dv i).heap.size = s.heap.size + 1 + i * (M + 1) ∧ (own_fill3 s c c1 c2 N M K dv i).heap[s.heap.size]? = some (own_outer c N s.heap.size M i) ∧
    (own_fill3 s c c1 c2 N M K dv i).vm = s.vm ∧ (own_fill3 s c c1 c2 N M K dv i).slotsUsed = s.slotsUsed + N + i * (M + M * K)
  | 0 => ⟨by simp [own_fill3], by simp [own_fill3], rfl, by simp [own_fill3, own_outer]⟩
  | i + 1 => by
    obtain ⟨a, b, d, u⟩ := own_fill3_facts s c c1 c2 N M K dv i
    have hlt : s.heap.size < (own_fill3 s c c1 c2 N M K dv i).heap.size := by omega
    obtain ⟨f1, f2, f3, f4⟩ := fill_facts (own_fill3 s c c1 c2 N M K dv i) c1 c2 M K dv M
    have hb' : (Jvm.Free.Multi.fill (own_fill3 s c c1 c2 N M K dv i) c1 c2 M K dv M).heap[s.heap.size]? = some (own_outer c N s.heap.size M i) := by rw [fill_old _ _ _ _ _ _ hlt]; exact b
    refine ⟨?_, State.heap_setCell_self hb', by simp [own_fill3, f3, d], ?_⟩
    · have : (own_fill3 s c c1 c2 N M K dv (i + 1)).heap.size = (Jvm.Free.Multi.fill (own_fill3 s c c1 c2 N M K dv i) c1 c2 M K dv M).heap.size := by simp [own_fill3, State.setCell]
      rw [this, f1, a, Nat.succ_mul]; omega
    · have : (own_fill3 s c c1 c2 N M K dv (i + 1)).slotsUsed = (Jvm.Free.Multi.fill (own_fill3 s c c1 c2 N M K dv i) c1 c2 M K dv M).slotsUsed := by simp [own_fill3]
      rw [this, f4, u, Nat.succ_mul]; omega
theorem own_fill3_setTop (s : State) (f : JFrame) (c c1 c2 : ClassId) (N M K : Nat) (dv : Value) : ∀ i, own_fill3 (s.setTop f) c c1 c2 N M K dv i = (own_fill3 s c c1 c2 N M K dv i).setTop f
  | 0 => rfl
  | i + 1 => by simp only [own_fill3, own_fill3_setTop s f c c1 c2 N M K dv i, fill_setTop, State.heap_setTop, State.setCell_setTop]
theorem own_fill3_old (s : State) (c c1 c2 : ClassId) (N M K : Nat) (dv : Value) {a : Addr} (ha : a < s.heap.size) : ∀ i, (own_fill3 s c c1 c2 N M K dv i).heap[a]? = s.heap[a]?
  | 0 => State.heap_pushCell_of_lt _ _ ha
  | i + 1 => by
    have f1 := (own_fill3_facts s c c1 c2 N M K dv i).1
    have hlt : a < (own_fill3 s c c1 c2 N M K dv i).heap.size := Nat.lt_of_lt_of_le ha (by rw [f1]; omega)
    show ((Jvm.Free.Multi.fill (own_fill3 s c c1 c2 N M K dv i) c1 c2 M K dv M).setCell s.heap.size _).heap[a]? = _
    rw [State.heap_setCell_other (Nat.ne_of_gt ha), fill_old _ _ _ _ _ _ hlt]
    exact own_fill3_old s c c1 c2 N M K dv ha i
/-- what stands above the first cell goes on -/
theorem own_fill3_up (s : State) (c c1 c2 : ClassId) (N M K : Nat) (dv : Value) (i : Nat) {a : Nat} (h0 : s.heap.size < a) (ha : a < s.heap.size + 1 + i * (M + 1)) : (own_fill3 s c c1 c2 N M K dv (i + 1)).heap[a]? = (own_fill3 s c c1 c2 N M K dv i).heap[a]? := by
  have f1 := (own_fill3_facts s c c1 c2 N M K dv i).1
  show ((Jvm.Free.Multi.fill (own_fill3 s c c1 c2 N M K dv i) c1 c2 M K dv M).setCell s.heap.size _).heap[a]? = _
  rw [State.heap_setCell_other (Nat.ne_of_lt h0), fill_old _ _ _ _ _ _ (by rw [f1]; exact ha)]
theorem own_fill3_mid (s : State) (c c1 c2 : ClassId) (N M K : Nat) (dv : Value) : ∀ i j, j < i → (own_fill3 s c c1 c2 N M K dv i).heap[s.heap.size + 1 + j * (M + 1)]? = some (outerC c1 M (s.heap.size + 1 + j * (M + 1)) M)
  | 0, _, h => absurd h (Nat.not_lt_zero _)
  | i + 1, j, h => by
    rcases Nat.lt_or_ge j i with hj | hj
    · have hle : (j + 1) * (M + 1) ≤ i * (M + 1) := Nat.mul_le_mul_right _ hj
      rw [Nat.succ_mul] at hle
      rw [own_fill3_up s c c1 c2 N M K dv i (a := s.heap.size + 1 + j * (M + 1)) (by omega) (by omega)]
      exact own_fill3_mid s c c1 c2 N M K dv i j hj
    · have e : j = i := by omega
      subst e
      have f1 := (own_fill3_facts s c c1 c2 N M K dv j).1
      obtain ⟨g1, g2, -⟩ := fill_facts (own_fill3 s c c1 c2 N M K dv j) c1 c2 M K dv M
      show ((Jvm.Free.Multi.fill (own_fill3 s c c1 c2 N M K dv j) c1 c2 M K dv M).setCell s.heap.size _).heap[_]? = _
      rw [State.heap_setCell_other (show s.heap.size ≠ s.heap.size + 1 + j * (M + 1) by omega), ← f1]
      exact g2
theorem own_fill3_in (s : State) (c c1 c2 : ClassId) (N M K : Nat) (dv : Value) : ∀ i j t, j < i → t < M → (own_fill3 s c c1 c2 N M K dv i).heap[s.heap.size + 1 + j * (M + 1) + 1 + t]? = some (innerC c2 K dv)
  | 0, _, _, h, _ => absurd h (Nat.not_lt_zero _)
  | i + 1, j, t, h, ht => by
    rcases Nat.lt_or_ge j i with hj | hj
    · have hle : (j + 1) * (M + 1) ≤ i * (M + 1) := Nat.mul_le_mul_right _ hj
      rw [Nat.succ_mul] at hle
      rw [own_fill3_up s c c1 c2 N M K dv i (a := s.heap.size + 1 + j * (M + 1) + 1 + t) (by omega) (by omega)]
      exact own_fill3_in s c c1 c2 N M K dv i j t hj ht
    · have e : j = i := by omega
      subst e
      have f1 := (own_fill3_facts s c c1 c2 N M K dv j).1
      show ((Jvm.Free.Multi.fill (own_fill3 s c c1 c2 N M K dv j) c1 c2 M K dv M).setCell s.heap.size _).heap[_]? = _
      rw [State.heap_setCell_other (show s.heap.size ≠ s.heap.size + 1 + j * (M + 1) + 1 + t by omega), ← f1]
      exact fill_inner _ c1 c2 M K dv M t ht
theorem own_outer_slot (c : ClassId) (N h0 M : Nat) : ∀ i j, j < N → (own_outer c N h0 M i).slots[j]? = some (if j < i then .ref (h0 + 1 + j * (M + 1)) else .null)
  | 0, j, h => by simp [own_outer, h]
  | i + 1, j, h => by
    have ih := own_outer_slot c N h0 M i j h
    have hs := (own_outer_facts c N h0 M i).2.2
    show ((own_outer c N h0 M i).setSlot i (.ref (h0 + 1 + i * (M + 1)))).slots[j]? = _
    simp only [Cell.setSlot, Array.getElem?_setIfInBounds]
    by_cases e : i = j
    · subst e; simp [hs, h]
    · rw [if_neg e, ih]
      by_cases hj : j < i
      · rw [if_pos hj, if_pos (by omega)]
      · rw [if_neg hj, if_neg (by omega)]
section
variable {E : CtlPost} {e : Env} {d : Bool} {acts : List Action} {s : State}
theorem own_make3 {c c1 c2 cc : ClassId} {k k1 k2 : Class} {t0 t1 type : FieldType} {n m q : Int32} (hk : s.vm.classes[c]? = some k) (hkind : k.kind = .array c1 t0) (href : t0.isReference = true)
    (hk1 : s.vm.classes[c1]? = some k1) (hkind1 : k1.kind = .array c2 t1) (href1 : t1.isReference = true) (hk2 : s.vm.classes[c2]? = some k2) (hkind2 : k2.kind = .array cc type) (hn : ¬ n < 0) (hm : ¬ m < 0) (hq0 : ¬ q < 0)
    (hl1 : ¬ n.toNatClampNeg > e.platform.arrayLengthLimit) (hh1 : ¬ n.toNatClampNeg * componentBytes t0 > e.platform.maxHeapBytes)
    (hl2 : ¬ m.toNatClampNeg > e.platform.arrayLengthLimit) (hh2 : ¬ m.toNatClampNeg * componentBytes t1 > e.platform.maxHeapBytes)
    (hl3 : ¬ q.toNatClampNeg > e.platform.arrayLengthLimit) (hh3 : ¬ q.toNatClampNeg * componentBytes type > e.platform.maxHeapBytes)
    (hdf : fits type (defaultValue type) = true) (hdd : (defaultValue type).isDefault = true)
    (hc : s.heap.size + 1 + n.toNatClampNeg * (m.toNatClampNeg + 1) ≤ e.platform.maxCells) (hs : s.slotsUsed + n.toNatClampNeg + n.toNatClampNeg * (m.toNatClampNeg + m.toNatClampNeg * q.toNatClampNeg) ≤ e.platform.maxSlots)
    {Q : Addr → Pre} (hq : ∀ d' acts', Q s.heap.size d' acts' (own_fill3 s c c1 c2 n.toNatClampNeg m.toNatClampNeg q.toNatClampNeg (defaultValue type) n.toNatClampNeg)) :
    wp (multianewarray.make c [n, m, q]) Q E e d acts s := by
  have hfind : ([m, q].find? (· < 0)) = none := by simp [hm, hq0]
  rw [multianewarray.make]
  simp only [wp_bind', W.ite, hn, if_false, wp_pure', W.theClass, hk, hkind, Option.some.injEq, exists_eq_left']
  refine wp_newArray hk hkind hl1 hh1 (refFits href _ (Or.inl rfl)) rfl (by omega) (by have := Nat.zero_le (n.toNatClampNeg * (m.toNatClampNeg + m.toNatClampNeg * q.toNatClampNeg)); omega) ?_
  simp only [hfind]
  rw [ite_self, wp_bind', Std.Legacy.Range.forIn_eq_forIn_range']
  have hsz : ([:n.toNatClampNeg] : Std.Legacy.Range).size = n.toNatClampNeg := by simp [Std.Legacy.Range.size]
  rw [hsz]
  show wp (forIn (List.range' 0 n.toNatClampNeg 1) PUnit.unit _) _ E e d acts _
  refine wp_forIn_inv (fun rest s' => ∃ i, i ≤ n.toNatClampNeg ∧ rest = List.range' i (n.toNatClampNeg - i) ∧ s' = own_fill3 s c c1 c2 n.toNatClampNeg m.toNatClampNeg q.toNatClampNeg (defaultValue type) i) _ _ ⟨0, Nat.zero_le _, rfl, rfl⟩ ?_ ?_
  · rintro x rest s' d' acts' Q' ⟨i, hi, hl, rfl⟩ hnext
    have hlt : i < n.toNatClampNeg := by
      rcases Nat.lt_or_ge i n.toNatClampNeg with h | h
      · exact h
      · rw [show n.toNatClampNeg - i = 0 from by omega] at hl; simp at hl
    obtain ⟨rfl, hrest⟩ : x = i ∧ rest = List.range' (i + 1) (n.toNatClampNeg - (i + 1)) := by
      rw [show n.toNatClampNeg - i = (n.toNatClampNeg - (i + 1)) + 1 from by omega, List.range'_succ] at hl
      exact ⟨(List.cons.inj hl).1, (List.cons.inj hl).2⟩
    obtain ⟨f1, f2, f3, f4⟩ := own_fill3_facts s c c1 c2 n.toNatClampNeg m.toNatClampNeg q.toNatClampNeg (defaultValue type) x
    obtain ⟨o1, o2, o3⟩ := own_outer_facts c n.toNatClampNeg s.heap.size m.toNatClampNeg x
    have hmul : x * (m.toNatClampNeg + 1) + (m.toNatClampNeg + 1) ≤ n.toNatClampNeg * (m.toNatClampNeg + 1) := by
      have := Nat.mul_le_mul_right (m.toNatClampNeg + 1) (show x + 1 ≤ n.toNatClampNeg from hlt)
      rw [Nat.succ_mul] at this; exact this
    have hmul2 : x * (m.toNatClampNeg + m.toNatClampNeg * q.toNatClampNeg) + (m.toNatClampNeg + m.toNatClampNeg * q.toNatClampNeg) ≤ n.toNatClampNeg * (m.toNatClampNeg + m.toNatClampNeg * q.toNatClampNeg) := by
      have := Nat.mul_le_mul_right (m.toNatClampNeg + m.toNatClampNeg * q.toNatClampNeg) (show x + 1 ≤ n.toNatClampNeg from hlt)
      rw [Nat.succ_mul] at this; exact this
    simp only [wp_bind']
    refine wp_make2 (k := k1) (kc := k2) (comp := c2) (cc := cc) (t0 := t1) (type := type) (by rw [f3]; exact hk1) hkind1 href1 (by rw [f3]; exact hk2) hkind2 hm hq0 hl2 hh2 hl3 hh3 hdf hdd (by rw [f1]; omega) (by rw [f4]; omega) (fun d2 acts2 => ?_)
    have hlt0 : s.heap.size < (own_fill3 s c c1 c2 n.toNatClampNeg m.toNatClampNeg q.toNatClampNeg (defaultValue type) x).heap.size := by rw [f1]; omega
    obtain ⟨g1, g2, g3, g4⟩ := fill_facts (own_fill3 s c c1 c2 n.toNatClampNeg m.toNatClampNeg q.toNatClampNeg (defaultValue type) x) c1 c2 m.toNatClampNeg q.toNatClampNeg (defaultValue type) m.toNatClampNeg
    simp only [wp_bind', W.writeLoc, wp_pure']
    refine ⟨own_outer c n.toNatClampNeg s.heap.size m.toNatClampNeg x, by rw [fill_old _ _ _ _ _ _ hlt0]; exact f2, by rw [o2]; simp, by rw [o3]; exact hlt, ?_, hnext _ _ _ ⟨x + 1, hlt, hrest, ?_⟩⟩
    · rw [o1, o2]
      simp [State.fitsSlot, State.slotType?, g3, f3, hk, hkind, refFits href _ (Or.inr ⟨_, rfl⟩)]
    · rw [f1]; rfl
  · rintro s' d' acts' ⟨i, hi, hl, rfl⟩
    have hiN : i = n.toNatClampNeg := by
      rcases Nat.lt_or_ge i n.toNatClampNeg with h | h
      · rw [show n.toNatClampNeg - i = (n.toNatClampNeg - (i + 1)) + 1 from by omega, List.range'_succ] at hl; cases hl
      · omega
    subst hiN
    simp only [wp_pure']
    exact hq _ _
end
section
variable {p : Program} {l : Launch} {e : Env} {R : Room} {s : State} {m : MethodId} {args : Array Value} {below : List Frame} {meth : Method} {c : Code} {T : State} {locs : List Loc} {cells slots : Nat}
theorem own_filled3 (X : Stand p l e R s m args below meth c T locs cells slots) (cA c1 c2 : ClassId) (N M K : Nat) (dv : Value) :
    ∀ i, Stand p l e R s m args below meth c (own_fill3 T cA c1 c2 N M K dv i) locs (cells + 1 + i * (M + 1)) (slots + N + i * (M + M * K))
  | 0 => by
    have h := X.pushed (own_outer cA N T.heap.size M 0)
    rw [(own_outer_facts cA N T.heap.size M 0).2.2] at h
    simpa [own_fill3] using h
  | i + 1 => by
    have Xi := own_filled3 X cA c1 c2 N M K dv i
    obtain ⟨f1, f2, f3, f4⟩ := own_fill3_facts T cA c1 c2 N M K dv i
    have hlt0 : T.heap.size < (own_fill3 T cA c1 c2 N M K dv i).heap.size := by rw [f1]; omega
    have Xj := Xi.filled c1 c2 M K dv M
    have hcell : (Jvm.Free.Multi.fill (own_fill3 T cA c1 c2 N M K dv i) c1 c2 M K dv M).heap[T.heap.size]? = some (own_outer cA N T.heap.size M i) := by rw [fill_old _ _ _ _ _ _ hlt0]; exact f2
    have h := Xj.stored hcell i (.ref (T.heap.size + 1 + i * (M + 1)))
    have e3 : slots + N + (i + 1) * (M + M * K) = slots + N + i * (M + M * K) + M + M * K := by rw [Nat.succ_mul]; omega
    have e4 : cells + 1 + (i + 1) * (M + 1) = cells + 1 + i * (M + 1) + 1 + M := by rw [Nat.succ_mul]; omega
    rw [e3, e4]
    have h2 := h
    rw [List.append_assoc] at h2
    refine Stand.dropFresh h2 (fun x hx => ?_)
    rcases List.mem_append.mp hx with hx | hx
    · obtain ⟨j, -, rfl⟩ := List.mem_map.mp hx
      show s.heap.size ≤ (own_fill3 T cA c1 c2 N M K dv i).heap.size
      exact Nat.le_trans X.heapGrown (Nat.le_of_lt hlt0)
    · cases List.mem_singleton.mp hx
      exact X.heapGrown
theorem own_multi3 (X : Stand p l e R s m args below meth c T locs cells slots) (hexec : p.tables.exec = Jvm.exec) {own : String} {index : Nat} {ty : FieldType}
    (hown : s.vm.findClass own = some m.cls) (hclink : (Cond.classLink own index ("[" ++ (FieldType.array (.array ty)).toString)).before args s = true)
    (hover : (Cond.arrayOver (.array (.array ty))).before args s = true) (hover1 : (Cond.arrayOver (.array ty)).before args s = true) (harr : (Cond.arrayClass ty).before args s = true)
    {g : JFrame} (hg : g.method = m) (hdg : decode c.code g.pc = .ok (.multianewarray index 3, 4)) {n k q : Int32} {rest : List Value} (hstack : g.stack = .int q :: .int k :: .int n :: rest)
    (hn : ¬ n < 0) (hk : ¬ k < 0) (hq : ¬ q < 0) (hb1 : n.toNatClampNeg * 4 ≤ 536870912) (hb2 : k.toNatClampNeg * 4 ≤ 536870912) (hb3 : q.toNatClampNeg * componentBytes ty ≤ 536870912) (hb4 : q.toNatClampNeg ≤ 536870912)
    (hdf : fits ty (defaultValue ty) = true) (hdd : (defaultValue ty).isDefault = true)
    (hcells : cells + (1 + n.toNatClampNeg * (k.toNatClampNeg + 1)) ≤ R.cells) (hslots : slots + (n.toNatClampNeg + n.toNatClampNeg * (k.toNatClampNeg + k.toNatClampNeg * q.toNatClampNeg)) ≤ R.slots) :
    ∃ (vm₁ : Vm) (cA c1 c2 : ClassId), s.WarmedH vm₁ ∧
      (∀ N h0 M i, s.isArrayOf (own_outer cA N h0 M i) (.array (.array ty)) ∧ (own_outer cA N h0 M i).vm ≠ .unknown) ∧ (∀ N h0 i, s.isArrayOf (outerC c1 N h0 i) (.array ty) ∧ (outerC c1 N h0 i).vm ≠ .unknown) ∧ (∀ M dv, s.isArrayOf (innerC c2 M dv) ty ∧ (innerC c2 M dv).vm ≠ .unknown) ∧
      Stand p l e R s m args below meth c (own_fill3 (T.setVm vm₁) cA c1 c2 n.toNatClampNeg k.toNatClampNeg q.toNatClampNeg (defaultValue ty) n.toNatClampNeg) locs (cells + 1 + n.toNatClampNeg * (k.toNatClampNeg + 1)) (slots + n.toNatClampNeg + n.toNatClampNeg * (k.toNatClampNeg + k.toNatClampNeg * q.toNatClampNeg)) ∧
      ∀ target, Steps p.tables e below ((own_fill3 (T.setVm vm₁) cA c1 c2 n.toNatClampNeg k.toNatClampNeg q.toNatClampNeg (defaultValue ty) n.toNatClampNeg).setTop { g with pc := g.pc + 4, stack := .ref T.heap.size :: rest }) target →
        Steps p.tables e below (T.setTop g) target := by
  subst hg
  have hpl : e.platform.magicAccessors = ({} : Platform).magicAccessors := by rw [X.admits.platform]
  obtain ⟨c1, cA, kA, hcomp, hkA, hkindA, hnameA⟩ := Cond.arrayOver_specA hover
  obtain ⟨c2, c1', k1, hcomp1, hk1, hkind1, hname1⟩ := Cond.arrayOver_specA hover1
  obtain ⟨c2', k2, cc, hcomp2, hk2, hkind2⟩ := Cond.arrayClass_spec harr
  have ecomp : c2' = c2 := Option.some.inj (hcomp2.symm.trans hcomp1)
  subst ecomp
  have ecomp1 : c1' = c1 := Option.some.inj (hname1.symm.trans hcomp)
  subst ecomp1
  obtain ⟨c0, hfc0, hcl⟩ := Cond.classLink_spec hown hclink e.platform hpl
  cases hnameA.symm.trans hfc0
  obtain ⟨hg₁, hwarm₁, hready₁⟩ := State.classEntry (e := e) X.warmed hcl
  generalize T.vm.noted g.method.cls index (.cls cA) = vm₁ at hg₁ hwarm₁ hready₁
  have hal : s.vm.Alike vm₁ := hwarm₁.alike
  obtain ⟨kA₁, hkA₁, heA⟩ := hal.2.2 _ _ hkA
  obtain ⟨k1₁, hk1₁, he1⟩ := hal.2.2 _ _ hk1
  obtain ⟨k2₁, hk2₁, he2⟩ := hal.2.2 _ _ hk2
  have hkindA₁ : kA₁.kind = .array c1' (.array (.array ty)) := by rw [heA]; exact hkindA
  have hkind1₁ : k1₁.kind = .array c2' (.array ty) := by rw [he1]; exact hkind1
  have hkind2₁ : k2₁.kind = .array cc ty := by rw [he2]; exact hkind2
  have X₁ := X.noted hwarm₁
  obtain ⟨hr1, hr2⟩ := X.roomAbove hcells hslots
  refine ⟨vm₁, cA, c1', c2', hwarm₁, fun N h0 M i => ?_, fun N h0 i => ?_, fun M dv => ?_, own_filled3 X₁ cA c1' c2' _ _ _ _ _, fun target hrest => ?_⟩
  · obtain ⟨o1, o2, -⟩ := own_outer_facts cA N h0 M i
    exact ⟨⟨fun x => by rw [o2]; simp, kA, by rw [o1]; exact hkA, c1', hkindA⟩, by rw [o2]; simp⟩
  · obtain ⟨o1, o2, -⟩ := outerC_facts c1' N h0 i
    exact ⟨⟨fun x => by rw [o2]; simp, k1, by rw [o1]; exact hk1, c2', hkind1⟩, by rw [o2]; simp⟩
  · exact ⟨⟨fun x => by simp [innerC], k2, hk2, cc, hkind2⟩, by simp [innerC]⟩
  have hl1 : ¬ n.toNatClampNeg > e.platform.arrayLengthLimit := by rw [Launch.admits_arrayLengthLimit X.admits]; omega
  have hh1 : ¬ n.toNatClampNeg * componentBytes (.array (.array ty)) > e.platform.maxHeapBytes := by
    rw [Launch.admits_maxHeapBytes X.admits]; show ¬ n.toNatClampNeg * 4 > 536870912; omega
  have hl2 : ¬ k.toNatClampNeg > e.platform.arrayLengthLimit := by rw [Launch.admits_arrayLengthLimit X.admits]; omega
  have hh2 : ¬ k.toNatClampNeg * componentBytes (.array ty) > e.platform.maxHeapBytes := by
    rw [Launch.admits_maxHeapBytes X.admits]; show ¬ k.toNatClampNeg * 4 > 536870912; omega
  have hl3 : ¬ q.toNatClampNeg > e.platform.arrayLengthLimit := by rw [Launch.admits_arrayLengthLimit X.admits]; omega
  have hh3 : ¬ q.toNatClampNeg * componentBytes ty > e.platform.maxHeapBytes := by rw [Launch.admits_maxHeapBytes X.admits]; omega
  jvm_step X.here [hexec, hdg]
  simp only [multianewarray.sem, wp_bind', W.resolveClassAt_links (State.method?_setTop g X.here.top) hg₁]
  rw [W.popN, if_neg (by decide)]
  refine ⟨g, State.topJava?_setTop' (s := T.setVm vm₁) g X.here.top, [.int n, .int k, .int q], rest, rfl, hstack, ?_⟩
  simp only [List.mapM_cons, List.mapM_nil, wp_bind', wp_pure']
  refine own_make3 (k := kA₁) (k1 := k1₁) (k2 := k2₁) (c1 := c1') (c2 := c2') (cc := cc) (t0 := .array (.array ty)) (t1 := .array ty) (type := ty) hkA₁ hkindA₁ rfl hk1₁ hkind1₁ rfl hk2₁ hkind2₁ hn hk hq hl1 hh1 hl2 hh2 hl3 hh3 hdf hdd (by show T.heap.size + 1 + _ ≤ _; omega) (by show T.slotsUsed + _ + _ ≤ _; omega) (fun d' acts' => ?_)
  have XF := own_filled3 X₁ cA c1' c2' n.toNatClampNeg k.toNatClampNeg q.toNatClampNeg (defaultValue ty) n.toNatClampNeg
  have eS : ((T.setTop g).setVm vm₁).setTop { g with stack := rest } = (T.setVm vm₁).setTop { g with stack := rest } := by
    show ((T.setVm vm₁).setTop g).setTop _ = _
    rw [State.setTop_setTop]
  rw [eS, own_fill3_setTop]
  simp only [wp_bind', W.mark, W.pushRef, State.topJava?_setTop' _ XF.here.top, Option.some.injEq, exists_eq_left', State.setTop_setTop, State.heap_setTop]
  intro acts
  simp [jvm, XF.here.top]
  exact hrest
end
end OwnMulti

/-! ChoiceFunction: its arrays, by their places from the first one on -/
theorem own_three {c : Cell} {x y z : Value} (h : c.slots.size = 3) (h0 : c.slots[0]? = some x) (h1 : c.slots[1]? = some y) (h2 : c.slots[2]? = some z) : c.slots = [x, y, z].toArray := by
  apply Array.ext_getElem?
  intro j
  match j with
  | 0 => simpa using h0
  | 1 => simpa using h1
  | 2 => simpa using h2
  | j + 3 => rw [Array.getElem?_eq_none (by omega), Array.getElem?_eq_none (by simp)]
section OwnMath
open Jvm.Free.Fl Jvm.FP
def own_vals (g : Nat → UInt64) : List Value := (List.range 100).map fun i => .double (g i)
def own_term (v : UInt64) (i : Nat) (x : UInt64) : UInt64 := Jvm.FP.dadd v (Jvm.FP.dmul (Jvm.FP.ddiv (Jvm.FP.i2d (Int32.ofNat i)) (4636737291354636288 : UInt64)) x)
def own_upd (v : UInt64) (g : Nat → UInt64) (k i : Nat) : UInt64 := if 1 ≤ i ∧ i < k then own_term v i (g i) else g i
theorem own_vlen (g : Nat → UInt64) : (own_vals g).length = 100 := by simp [own_vals]
theorem own_vat (g : Nat → UInt64) {i : Nat} (hi : i < 100) : (own_vals g)[(Int32.ofNat i).toNatClampNeg]? = some (.double (g i)) := by
  rw [XT.n32 (by omega)]; simp [own_vals, hi]
theorem own_vset (g : Nat → UInt64) {i : Nat} (x : UInt64) : (own_vals g).set i (.double x) = own_vals (fun j => if j = i then x else g j) := by
  apply List.ext_getElem?
  intro j
  rw [List.getElem?_set]
  simp only [own_vals, List.length_map, List.length_range, List.getElem?_map]
  by_cases e : i = j
  · subst e
    by_cases q : i < 100
    · simp [q]
    · simp [q]
  · have e' : ¬ j = i := fun z => e z.symm
    rw [if_neg e]
    by_cases q : j < 100
    · simp [q, e']
    · simp [q]
theorem own_updI (v : UInt64) (g : Nat → UInt64) (i : Nat) : own_upd v g i i = g i := by unfold own_upd; rw [if_neg (by omega)]
theorem own_upd1 (v : UInt64) (g : Nat → UInt64) : own_upd v g 1 = g := by funext i; unfold own_upd; rw [if_neg (by omega)]
theorem own_updS (v : UInt64) (g : Nat → UInt64) {i : Nat} (hi : 1 ≤ i) : (fun j => if j = i then own_term v i (g i) else own_upd v g i j) = own_upd v g (i + 1) := by
  funext j
  unfold own_upd
  by_cases e : j = i
  · subst e; rw [if_pos rfl, if_pos (by omega)]
  · rw [if_neg e]
    by_cases q : 1 ≤ j ∧ j < i
    · rw [if_pos q, if_pos (by omega)]
    · rw [if_neg q, if_neg (by omega)]
theorem own_big : Jvm.RoadKit.Big64 1029 (4636737291354636288 : UInt64) := ⟨by decide +kernel, by decide +kernel⟩
theorem own_mag1 (i : Int32) : Mag64 1051 (Jvm.FP.ddiv (Jvm.FP.i2d i) (4636737291354636288 : UInt64)) := (Jvm.RoadKit.ddiv_mag (K := 1056) (L := 1029) (i2d_mag i) own_big (by omega) (by omega)).mono (by omega)
theorem own_mag2 {K : Nat} {x : UInt64} (i : Int32) (hx : Mag64 K x) (h1 : 1056 ≤ K) (h2 : K ≤ 1500) : Mag64 (K + 29) (Jvm.FP.dmul (Jvm.FP.ddiv (Jvm.FP.i2d i) (4636737291354636288 : UInt64)) x) := (dmul_mag (Ka := 1051) (Kb := K) (own_mag1 i) hx (by omega) (by omega)).mono (by omega)
theorem own_mag3 {K : Nat} {v x : UInt64} (i : Nat) (hv : Mag64 1056 v) (hx : Mag64 K x) (h1 : 1056 ≤ K) (h2 : K ≤ 1500) : Mag64 (K + 31) (own_term v i x) := (dadd_mag (hv.mono (by omega)) (own_mag2 (Int32.ofNat i) hx h1 h2) (by omega)).mono (by omega)
theorem own_magU {K k : Nat} {v : UInt64} {g : Nat → UInt64} (hv : Mag64 1056 v) (hg : ∀ i, Mag64 K (g i)) (h1 : 1056 ≤ K) (h2 : K ≤ 1500) (i : Nat) : Mag64 (K + 31) (own_upd v g k i) := by
  unfold own_upd
  split
  · exact own_mag3 i hv (hg i) h1 h2
  · exact (hg i).mono (by omega)
theorem own_nn1 (i : Int32) : NoNaN64 (Jvm.FP.ddiv (Jvm.FP.i2d i) (4636737291354636288 : UInt64)) := ((own_mag1 i).fin (by omega)).noNaN
theorem own_nnM {K : Nat} {x : UInt64} (h : Mag64 K x) (hK : K ≤ 2047) : NoNaN64 x := (h.fin hK).noNaN
theorem own_cmpself {x : UInt64} (h : NoNaN64 x) : cmpValue (Jvm.FP.dcmp x x) .l = (0 : Int32) := by
  rw [show Jvm.FP.dcmp x x = some .eq from Jvm.FP.Core.dcmp_self (val64_no.mp h)]; rfl
def own_sg (z : Int32) : Int32 := if z.toInt < 0 then -1 else if z.toInt = 0 then 0 else 1
theorem own_sgv (z : Int32) : cmpValue (Jvm.FP.dcmp (Jvm.FP.i2d z) (0 : UInt64)) .l = own_sg z := by
  have h0 : Jvm.FP.Core.DInt 0 (0 : UInt64) := by rw [show ((0 : UInt64)) = Jvm.FP.i2d 0 from by decide +kernel]; exact Jvm.FP.Core.i2d_int 0
  rw [show Jvm.FP.dcmp (Jvm.FP.i2d z) (0 : UInt64) = some (compare z.toInt 0) from Jvm.FP.Core.dcmp_int (Jvm.FP.Core.i2d_int z) h0, Jvm.FP.Core.compare_ite]
  unfold own_sg
  split
  · rfl
  · split <;> rfl
theorem own_sgp (z : Int32) : (0 : Int32) < own_sg z ↔ (0 : Int32) < z := by
  rw [Int32.lt_iff_toInt_lt (y := z)]
  have e0 : (0 : Int32).toInt = 0 := rfl
  rw [e0]
  unfold own_sg
  split
  · exact ⟨fun q => absurd q (by decide), fun q => by omega⟩
  · split
    · exact ⟨fun q => absurd q (by decide), fun q => by omega⟩
    · exact ⟨fun _ => by omega, fun _ => by decide⟩
def own_max (a b : Int32) : Int32 := if a < b then b else a
def own_next (mu z : Int32) : Int32 := if (0 : Int32) < z then (99 : Int32) else own_max (1 : Int32) (mu - (1 : Int32))
end OwnMath
def own_r3 (f : Nat → Nat) : List Value := [.ref (f 0), .ref (f 1), .ref (f 2)]
def own_l3 (f : Nat → Int64) : List Value := [.long (f 0), .long (f 1), .long (f 2)]
theorem own_r3at (f : Nat → Nat) {j : Nat} (hj : j < 3) : (own_r3 f)[(Int32.ofNat j).toNatClampNeg]? = some (.ref (f j)) := by
  rw [XT.n32 (by omega)]
  match j, hj with
  | 0, _ => rfl
  | 1, _ => rfl
  | 2, _ => rfl
theorem own_l3at (f : Nat → Int64) {j : Nat} (hj : j < 3) : (own_l3 f)[(Int32.ofNat j).toNatClampNeg]? = some (.long (f j)) := by
  rw [XT.n32 (by omega)]
  match j, hj with
  | 0, _ => rfl
  | 1, _ => rfl
  | 2, _ => rfl
theorem own_l3set (f : Nat → Int64) {j : Nat} (hj : j < 3) (x : Int64) : (own_l3 f).set (Int32.ofNat j).toNatClampNeg (.long x) = own_l3 (fun i => if i = j then x else f i) := by
  rw [XT.n32 (by omega)]
  match j, hj with
  | 0, _ => rfl
  | 1, _ => rfl
  | 2, _ => rfl
def own_isD (x : Nat) : Prop := (1 ≤ x ∧ x < 4) ∨ ∃ i j, i < 3 ∧ j < 3 ∧ x = 6 + 4 * i + j
def OwnM2 (Z : State) (h : Heap) (ob B : Nat) : Prop := ob < B ∧ OwnA Z h B (.array .double) (own_r3 (fun i => B + (1 + i))) ∧ ∀ x : Nat, 1 ≤ x → x < 4 → OwnA Z h (B + x) .double (own_vals (fun _ => 0))
def OwnM3 (Z : State) (h : Heap) (ob B : Nat) : Prop := ob < B ∧ OwnA Z h (B + 4) (.array (.array .double)) (own_r3 (fun i => B + (5 + 4 * i))) ∧ (∀ i : Nat, i < 3 → OwnA Z h (B + (5 + 4 * i)) (.array .double) (own_r3 (fun j => B + (6 + 4 * i + j)))) ∧ ∀ i j : Nat, i < 3 → j < 3 → OwnA Z h (B + (6 + 4 * i + j)) .double (own_vals (fun _ => 0))
def OwnAr (Z : State) (h : Heap) (ob B : Nat) (lst : Nat → Int64) (cont : Nat → Nat → UInt64) : Prop :=
  ob < B ∧ OwnA Z h B (.array .double) (own_r3 (fun i => B + (1 + i))) ∧ OwnA Z h (B + 4) (.array (.array .double)) (own_r3 (fun i => B + (5 + 4 * i))) ∧ (∀ i : Nat, i < 3 → OwnA Z h (B + (5 + 4 * i)) (.array .double) (own_r3 (fun j => B + (6 + 4 * i + j)))) ∧ OwnA Z h (B + 17) .long (own_l3 lst) ∧ ∀ x : Nat, own_isD x → OwnA Z h (B + x) .double (own_vals (cont x))
section OwnArL
variable {Z : State} {h h' : Heap} {ob B : Nat} {lst lst' : Nat → Int64} {cont : Nat → Nat → UInt64} {sl : Nat} {v : Value}
theorem own_wrsz {a : Addr} (W : Wr h h' a sl v) : h'.size = h.size := by obtain ⟨c0, -, -, -, rfl⟩ := W; simp
theorem OwnM2.ext (F : OwnM2 Z h ob B) (E : Ext h h') : OwnM2 Z h' ob B := ⟨F.1, F.2.1.ext E, fun x h1 h2 => (F.2.2 x h1 h2).ext E⟩
theorem OwnM2.wr (F : OwnM2 Z h ob B) (W : Wr h h' ob sl v) : OwnM2 Z h' ob B := ⟨F.1, F.2.1.other W (Nat.ne_of_gt F.1), fun x h1 h2 => (F.2.2 x h1 h2).other W (Nat.ne_of_gt (Nat.lt_of_lt_of_le F.1 (Nat.le_add_right ..)))⟩
theorem OwnM3.ext (F : OwnM3 Z h ob B) (E : Ext h h') : OwnM3 Z h' ob B := ⟨F.1, F.2.1.ext E, fun i h1 => (F.2.2.1 i h1).ext E, fun i j h1 h2 => (F.2.2.2 i j h1 h2).ext E⟩
theorem OwnM3.wr (F : OwnM3 Z h ob B) (W : Wr h h' ob sl v) : OwnM3 Z h' ob B :=
  ⟨F.1, F.2.1.other W (Nat.ne_of_gt (Nat.lt_of_lt_of_le F.1 (Nat.le_add_right ..))), fun i h1 => (F.2.2.1 i h1).other W (Nat.ne_of_gt (Nat.lt_of_lt_of_le F.1 (Nat.le_add_right ..))), fun i j h1 h2 => (F.2.2.2 i j h1 h2).other W (Nat.ne_of_gt (Nat.lt_of_lt_of_le F.1 (Nat.le_add_right ..)))⟩
theorem OwnAr.wr (F : OwnAr Z h ob B lst cont) (W : Wr h h' ob sl v) : OwnAr Z h' ob B lst cont :=
  ⟨F.1, F.2.1.other W (Nat.ne_of_gt F.1), F.2.2.1.other W (Nat.ne_of_gt (Nat.lt_of_lt_of_le F.1 (Nat.le_add_right ..))), fun i h1 => (F.2.2.2.1 i h1).other W (Nat.ne_of_gt (Nat.lt_of_lt_of_le F.1 (Nat.le_add_right ..))), F.2.2.2.2.1.other W (Nat.ne_of_gt (Nat.lt_of_lt_of_le F.1 (Nat.le_add_right ..))), fun x hx => (F.2.2.2.2.2 x hx).other W (Nat.ne_of_gt (Nat.lt_of_lt_of_le F.1 (Nat.le_add_right ..)))⟩
theorem OwnAr.ext (F : OwnAr Z h ob B lst cont) (E : Ext h h') : OwnAr Z h' ob B lst cont := ⟨F.1, F.2.1.ext E, F.2.2.1.ext E, fun i h1 => (F.2.2.2.1 i h1).ext E, F.2.2.2.2.1.ext E, fun x hx => (F.2.2.2.2.2 x hx).ext E⟩
theorem own_isD_ne {x : Nat} (hx : own_isD x) : x ≠ 0 ∧ x ≠ 4 ∧ (∀ i, i < 3 → 5 + 4 * i ≠ x) ∧ x ≠ 17 := by
  rcases hx with h | ⟨i, j, h1, h2, rfl⟩
  · exact ⟨by omega, by omega, fun i hi => by omega, by omega⟩
  · exact ⟨by omega, by omega, fun k hk => by omega, by omega⟩
theorem OwnAr.dbl {x0 : Nat} {g : Nat → UInt64} (F : OwnAr Z h ob B lst cont) (hx : own_isD x0) (K : Keep h h' [B + x0]) (V : OwnA Z h' (B + x0) .double (own_vals g)) : OwnAr Z h' ob B lst (fun x => if x = x0 then g else cont x) := by
  obtain ⟨n0, n4, nm, n17⟩ := own_isD_ne hx
  have ne : ∀ y, y ≠ x0 → B + y ∉ [B + x0] := fun y hy q => hy (Nat.add_left_cancel (List.mem_singleton.mp q))
  refine ⟨F.1, F.2.1.keep K (ne 0 (Ne.symm n0)), F.2.2.1.keep K (ne 4 (Ne.symm n4)), fun i hi => (F.2.2.2.1 i hi).keep K (ne _ (nm i hi)), F.2.2.2.2.1.keep K (ne 17 (Ne.symm n17)), fun x hx => ?_⟩
  show OwnA Z h' (B + x) .double (own_vals (if x = x0 then g else cont x))
  by_cases e : x = x0
  · subst e; rw [if_pos rfl]; exact V
  · rw [if_neg e]; exact (F.2.2.2.2.2 x hx).keep K (ne x e)
theorem OwnAr.last (F : OwnAr Z h ob B lst cont) (W : Wr h h' (B + 17) sl v) (V : OwnA Z h' (B + 17) .long (own_l3 lst')) : OwnAr Z h' ob B lst' cont := by
  have ne : ∀ y, y ≠ 17 → B + y ≠ B + 17 := fun y hy q => hy (Nat.add_left_cancel q)
  refine ⟨F.1, F.2.1.other W (ne 0 (by omega)), F.2.2.1.other W (ne 4 (by omega)), fun i hi => (F.2.2.2.1 i hi).other W (ne (5 + 4 * i) (by omega)), V, fun x hx => (F.2.2.2.2.2 x hx).other W (ne x (own_isD_ne hx).2.2.2)⟩
theorem OwnAr.of {lst : Nat → Int64} (F : OwnM2 Z h ob B) (G : OwnM3 Z h ob B) (V : OwnA Z h (B + 17) .long (own_l3 lst)) : OwnAr Z h ob B lst (fun _ _ => 0) :=
  ⟨F.1, F.2.1, G.2.1, G.2.2.1, V, fun x hx => by
    rcases hx with q | ⟨i, j, h1, h2, rfl⟩
    · exact F.2.2 x q.1 q.2
    · exact G.2.2.2 i j h1 h2⟩
end OwnArL
section OwnCfWalk
open Jvm.Free.Multi
variable {p : Program} {l : Launch} {e : Env} {R : Room} {s : State} {m : MethodId} {args : Array Value} {below : List Frame} {meth : Method} {c : Code} {T : State} {locs : List Loc} {cells slots : Nat} {a0 : Array Value} {Z : State} {h : Heap} {a : Addr} {vs : List Value} {ty : FieldType}
theorem own_aald (X : Stand p l e R s m args below meth c T locs cells slots) (hx : p.tables.exec = Jvm.exec) (hZ : Z.Warmed39 s.vm) (eT : T.heap = h) (A : OwnA Z h a ty vs) (hty : ty.isReference = true) {j : Int32} {v : Value} (h0 : ¬ j < 0) (hv : vs[j.toNatClampNeg]? = some v)
    {g : JFrame} (hg : g.method = m) {rest : List Value} (hs : g.stack = .int j :: .ref a :: rest) (hd : decode c.code g.pc = .ok (.aaload, 1)) :
    ∀ t, Steps p.tables e below (T.setTop { g with pc := g.pc + 1, stack := v :: rest }) t → Steps p.tables e below (T.setTop g) t := fun t k => by
  obtain ⟨c, A, r⟩ := A
  exact X.aaload hx (by rw [eT]; exact A.1) (State.isArrayOf_alike hZ.alike A.2.1) hty A.2.2 (own_hin r h0 (List.getElem?_eq_some_iff.mp hv).1) (by rw [r]; simpa using hv) hg hs hd t k
theorem own_grid2 (X : Stand p l e R s m args below meth c T locs cells slots) (hx : p.tables.exec = Jvm.exec) (hZ : Z.Warmed39 s.vm) {own : String} {index : Nat} (hown : s.vm.findClass own = some m.cls)
    (w1 : (Cond.classLink own index "[[D").before a0 Z = true) (w2 : (Cond.arrayOver (.array .double)).before a0 Z = true) (w3 : (Cond.arrayClass .double).before a0 Z = true) (eT : T.heap = h) {ob : Nat} (hob : ob < h.size) {g : JFrame} (hg : g.method = m) (hd : decode c.code g.pc = .ok (.multianewarray index 2, 4)) {rest : List Value} (hs : g.stack = .int 100 :: .int 3 :: rest) (hc : cells + 4 ≤ R.cells) (hl : slots + 303 ≤ R.slots) :
    ∃ (T' : State) (h' : Heap), Stand p l e R s m args below meth c T' locs (cells + 4) (slots + 303) ∧ T'.heap = h' ∧ Ext h h' ∧ h'.size = h.size + 4 ∧ OwnM2 Z h' ob h.size ∧
      ∀ t, Steps p.tables e below (T'.setTop { g with pc := g.pc + 4, stack := .ref h.size :: rest }) t → Steps p.tables e below (T.setTop g) t := by
  subst eT
  have es : "[" ++ (FieldType.array .double).toString = "[[D" := by decide
  obtain ⟨vm₁, cA, comp, hW, hfA, hfC, hO, hI, X1, st⟩ := X.multianewarray2F hx (ty := .double) hown (mv hZ (es.symm ▸ w1)) (arrayOver_alikeB hZ.alike w2) (mvA hZ w3) hg hd hs (by decide) (by decide) (by decide) (by decide) (by decide) rfl rfl (by show cells + (1 + 3) ≤ _; omega) (by show slots + (3 + 3 * 100) ≤ _; omega)
  obtain ⟨f1, f2, f3, f4⟩ := fill_facts (T.setVm vm₁) cA comp 3 100 (defaultValue .double) 3
  have fo := fun (a : Addr) (ha : a < T.heap.size) => fill_old (T.setVm vm₁) cA comp 3 100 (defaultValue .double) (a := a) ha 3
  have fi := fun (j : Nat) (hj : j < 3) => fill_inner (T.setVm vm₁) cA comp 3 100 (defaultValue .double) 3 j hj
  obtain ⟨o1, o2, o3⟩ := outerC_facts cA 3 (T.setVm vm₁).heap.size 3
  have os := fun (j : Nat) (hj : j < 3) => outerC_slot cA 3 (T.setVm vm₁).heap.size 3 j hj
  have back : ∀ {cl : Cell} {t : FieldType}, s.isArrayOf cl t → Z.isArrayOf cl t := fun q => State.isArrayOf_alike (T := Z) hZ.alike.symm q
  refine ⟨_, _, X1, rfl, ⟨?_, fun a c q => (fo a (Array.getElem?_eq_some_iff.mp q).1).trans q⟩, f1, ⟨hob, ⟨_, ⟨f2, back (hO _ _ _).1, (hO _ _ _).2⟩, ?_⟩, fun x x1 x2 => ?_⟩, st⟩
  · exact Nat.le_trans (show T.heap.size ≤ T.heap.size + 1 + 3 by omega) (Nat.le_of_eq f1.symm)
  · exact own_three o3 (by rw [os 0 (by decide)]; rfl) (by rw [os 1 (by decide)]; rfl) (by rw [os 2 (by decide)]; rfl)
  · obtain ⟨j, rfl⟩ : ∃ j, x = 1 + j := ⟨x - 1, by omega⟩
    have q := fi j (by omega)
    refine ⟨_, ⟨(by rw [← Nat.add_assoc]; exact q), back (hI _ _).1, (hI _ _).2⟩, ?_⟩
    rfl
theorem own_grid3 (X : Stand p l e R s m args below meth c T locs cells slots) (hx : p.tables.exec = Jvm.exec) (hZ : Z.Warmed39 s.vm) {own : String} {index : Nat} (hown : s.vm.findClass own = some m.cls)
    (w1 : (Cond.classLink own index "[[[D").before a0 Z = true) (w2 : (Cond.arrayOver (.array (.array .double))).before a0 Z = true) (w2' : (Cond.arrayOver (.array .double)).before a0 Z = true) (w3 : (Cond.arrayClass .double).before a0 Z = true) (eT : T.heap = h) {ob B : Nat} (hob : ob < B) (hB : h.size = B + 4) {g : JFrame} (hg : g.method = m) (hd : decode c.code g.pc = .ok (.multianewarray index 3, 4)) {rest : List Value} (hs : g.stack = .int 100 :: .int 3 :: .int 3 :: rest) (hc : cells + 13 ≤ R.cells) (hl : slots + 912 ≤ R.slots) :
    ∃ (T' : State) (h' : Heap), Stand p l e R s m args below meth c T' locs (cells + 13) (slots + 912) ∧ T'.heap = h' ∧ Ext h h' ∧ h'.size = B + 17 ∧ OwnM3 Z h' ob B ∧
      ∀ t, Steps p.tables e below (T'.setTop { g with pc := g.pc + 4, stack := .ref (B + 4) :: rest }) t → Steps p.tables e below (T.setTop g) t := by
  subst eT
  have es : "[" ++ (FieldType.array (.array .double)).toString = "[[[D" := by decide
  obtain ⟨vm₁, cA, c1, c2, hW, hO, hM, hI, X1, st⟩ := own_multi3 X hx (ty := .double) hown (mv hZ (es.symm ▸ w1)) (arrayOver_alikeB hZ.alike w2) (arrayOver_alikeB hZ.alike w2') (mvA hZ w3) hg hd hs (by decide) (by decide) (by decide) (by decide) (by decide) (by decide) (by decide) rfl rfl (by show cells + (1 + 3 * (3 + 1)) ≤ _; omega) (by show slots + (3 + 3 * (3 + 3 * 100)) ≤ _; omega)
  obtain ⟨f1, f2, f3, f4⟩ := own_fill3_facts (T.setVm vm₁) cA c1 c2 3 3 100 (defaultValue .double) 3
  have fo := fun (a : Addr) (ha : a < T.heap.size) => own_fill3_old (T.setVm vm₁) cA c1 c2 3 3 100 (defaultValue .double) (a := a) ha 3
  have fm := fun (j : Nat) (hj : j < 3) => own_fill3_mid (T.setVm vm₁) cA c1 c2 3 3 100 (defaultValue .double) 3 j hj
  have fi := fun (j t : Nat) (hj : j < 3) (ht : t < 3) => own_fill3_in (T.setVm vm₁) cA c1 c2 3 3 100 (defaultValue .double) 3 j t hj ht
  obtain ⟨o1, o2, o3⟩ := own_outer_facts cA 3 (B + 4) 3 3
  have os := fun (j : Nat) (hj : j < 3) => own_outer_slot cA 3 (B + 4) 3 3 j hj
  have back : ∀ {cl : Cell} {t : FieldType}, s.isArrayOf cl t → Z.isArrayOf cl t := fun q => State.isArrayOf_alike (T := Z) hZ.alike.symm q
  have eS : (T.setVm vm₁).heap.size = B + 4 := hB
  rw [eS] at f1 f2 fm fi
  rw [hB] at st
  refine ⟨_, _, X1, rfl, ⟨?_, fun a c q => (fo a (Array.getElem?_eq_some_iff.mp q).1).trans q⟩, f1, ⟨hob, ⟨_, ⟨f2, back (hO _ _ _ _).1, (hO _ _ _ _).2⟩, ?_⟩, fun i hi => ?_, fun i j hi hj => ?_⟩, st⟩
  · rw [hB]; exact Nat.le_trans (show B + 4 ≤ B + 4 + 1 + 3 * (3 + 1) by omega) (Nat.le_of_eq f1.symm)
  · exact own_three o3 (by rw [os 0 (by decide)]; rfl) (by rw [os 1 (by decide)]; rfl) (by rw [os 2 (by decide)]; rfl)
  · have q := fm i hi
    rw [show B + 4 + 1 + i * (3 + 1) = B + (5 + 4 * i) by omega] at q
    obtain ⟨p1, p2, p3⟩ := outerC_facts c1 3 (B + (5 + 4 * i)) 3
    have ps := fun (j : Nat) (hj : j < 3) => outerC_slot c1 3 (B + (5 + 4 * i)) 3 j hj
    refine ⟨_, ⟨q, back (hM _ _ _).1, (hM _ _ _).2⟩, own_three p3 ?_ ?_ ?_⟩
    · rw [ps 0 (by decide), if_pos (by decide)]; exact congrArg (fun z => some (Value.ref z)) (show B + (5 + 4 * i) + 1 + 0 = B + (6 + 4 * i + 0) by omega)
    · rw [ps 1 (by decide), if_pos (by decide)]; exact congrArg (fun z => some (Value.ref z)) (show B + (5 + 4 * i) + 1 + 1 = B + (6 + 4 * i + 1) by omega)
    · rw [ps 2 (by decide), if_pos (by decide)]; exact congrArg (fun z => some (Value.ref z)) (show B + (5 + 4 * i) + 1 + 2 = B + (6 + 4 * i + 2) by omega)
  · have q := fi i j hi hj
    rw [show B + 4 + 1 + i * (3 + 1) + 1 + j = B + (6 + 4 * i + j) by omega] at q
    refine ⟨_, ⟨q, back (hI _ _).1, (hI _ _).2⟩, ?_⟩
    rfl
end OwnCfWalk


def OwnL (Z : State) (h : Heap) (ob B : Nat) (lst : Nat → Int64) : Prop := ob < B ∧ OwnA Z h (B + 17) .long (own_l3 lst)
theorem OwnL.ext {Z : State} {h h' : Heap} {ob B : Nat} {lst : Nat → Int64} (F : OwnL Z h ob B lst) (E : Ext h h') : OwnL Z h' ob B lst := ⟨F.1, F.2.ext E⟩
theorem OwnL.wr {Z : State} {h h' : Heap} {ob B : Nat} {lst : Nat → Int64} {sl : Nat} {v : Value} (F : OwnL Z h ob B lst) (W : Wr h h' ob sl v) : OwnL Z h' ob B lst := ⟨F.1, F.2.other W (Nat.ne_of_gt (Nat.lt_of_lt_of_le F.1 (Nat.le_add_right ..)))⟩
def OwnCF (Z : State) (n0 : Nat) (h : Heap) (ob B : Nat) (prev mu : Int32) (cl : Int64) (lst : Nat → Int64) (cont : Nat → Nat → UInt64) : Prop :=
  Exa Z h ob "com/example/hyperloom/hyperloom/hyperheuristic/ChoiceFunction" ∧ Fld Z h ob "com/example/hyperloom/hyperloom/hyperheuristic/ChoiceFunction" "previous" "I" (.int prev) ∧ Fld Z h ob "com/example/hyperloom/hyperloom/hyperheuristic/ChoiceFunction" "mu" "I" (.int mu) ∧ Fld Z h ob "com/example/hyperloom/hyperloom/hyperheuristic/ChoiceFunction" "alone" "[[D" (.ref B) ∧ Fld Z h ob "com/example/hyperloom/hyperloom/hyperheuristic/ChoiceFunction" "after" "[[[D" (.ref (B + 4)) ∧ Fld Z h ob "com/example/hyperloom/hyperloom/hyperheuristic/ChoiceFunction" "calls" "J" (.long cl) ∧ Fld Z h ob "com/example/hyperloom/hyperloom/hyperheuristic/ChoiceFunction" "lastCalled" "[J" (.ref (B + 17)) ∧ OwnAr Z h ob B lst cont ∧ n0 ≤ ob
theorem OwnCF.sz {Z : State} {n0 : Nat} {h : Heap} {ob B : Nat} {prev mu : Int32} {cl : Int64} {lst : Nat → Int64} {cont : Nat → Nat → UInt64} (F : OwnCF Z n0 h ob B prev mu cl lst cont) : n0 ≤ h.size := Nat.le_trans F.2.2.2.2.2.2.2.2 (Nat.le_of_lt F.1.lt)
def own_c0 (cont : Nat → Nat → UInt64) (x0 : Nat) (v : UInt64) : Nat → Nat → UInt64 := fun x => if x = x0 then own_upd v (cont x0) 100 else cont x
theorem own_c0m {K : Nat} {cont : Nat → Nat → UInt64} {v : UInt64} (x0 : Nat) (hv : Jvm.Free.Fl.Mag64 1056 v) (hm : ∀ x i, Jvm.Free.Fl.Mag64 K (cont x i)) (h1 : 1056 ≤ K) (h2 : K ≤ 1500) : ∀ x i, Jvm.Free.Fl.Mag64 (K + 31) (own_c0 cont x0 v x i) := fun x i => by
  unfold own_c0
  by_cases e : x = x0
  · rw [if_pos e]; exact own_magU hv (hm x0) h1 h2 i
  · rw [if_neg e]; exact (hm x i).mono (by omega)

theorem d9_0 : decode jdk_29_method_65_code 0 = .ok (.iload_n 0, 1) := by decide +kernel
theorem d9_1 : decode jdk_29_method_65_code 1 = .ok (.iload_n 1, 1) := by decide +kernel
theorem d9_2 : decode jdk_29_method_65_code 2 = .ok (.if_icmp .lt 7, 3) := by decide +kernel
theorem d9_5 : decode jdk_29_method_65_code 5 = .ok (.iload_n 0, 1) := by decide +kernel
theorem d9_6 : decode jdk_29_method_65_code 6 = .ok (.goto 4, 3) := by decide +kernel
theorem d9_9 : decode jdk_29_method_65_code 9 = .ok (.iload_n 1, 1) := by decide +kernel
theorem d9_10 : decode jdk_29_method_65_code 10 = .ok (.ireturn, 1) := by decide +kernel
theorem d1_0 : decode prog_45_method_1_code 0 = .ok (.aload_n 0, 1) := by decide +kernel
theorem d1_1 : decode prog_45_method_1_code 1 = .ok (.invokespecial 1, 3) := by decide +kernel
theorem d1_4 : decode prog_45_method_1_code 4 = .ok (.aload_n 0, 1) := by decide +kernel
theorem d1_5 : decode prog_45_method_1_code 5 = .ok (.iconst (-1), 1) := by decide +kernel
theorem d1_6 : decode prog_45_method_1_code 6 = .ok (.putfield 7, 3) := by decide +kernel
theorem d1_9 : decode prog_45_method_1_code 9 = .ok (.aload_n 0, 1) := by decide +kernel
theorem d1_10 : decode prog_45_method_1_code 10 = .ok (.bipush 50, 2) := by decide +kernel
theorem d1_12 : decode prog_45_method_1_code 12 = .ok (.putfield 13, 3) := by decide +kernel
theorem d1_15 : decode prog_45_method_1_code 15 = .ok (.aload_n 0, 1) := by decide +kernel
theorem d1_16 : decode prog_45_method_1_code 16 = .ok (.iload_n 1, 1) := by decide +kernel
theorem d1_17 : decode prog_45_method_1_code 17 = .ok (.bipush 100, 2) := by decide +kernel
theorem d1_19 : decode prog_45_method_1_code 19 = .ok (.multianewarray 16 2, 4) := by decide +kernel
theorem d1_23 : decode prog_45_method_1_code 23 = .ok (.putfield 18, 3) := by decide +kernel
theorem d1_26 : decode prog_45_method_1_code 26 = .ok (.aload_n 0, 1) := by decide +kernel
theorem d1_27 : decode prog_45_method_1_code 27 = .ok (.iload_n 1, 1) := by decide +kernel
theorem d1_28 : decode prog_45_method_1_code 28 = .ok (.iload_n 1, 1) := by decide +kernel
theorem d1_29 : decode prog_45_method_1_code 29 = .ok (.bipush 100, 2) := by decide +kernel
theorem d1_31 : decode prog_45_method_1_code 31 = .ok (.multianewarray 21 3, 4) := by decide +kernel
theorem d1_35 : decode prog_45_method_1_code 35 = .ok (.putfield 23, 3) := by decide +kernel
theorem d1_38 : decode prog_45_method_1_code 38 = .ok (.aload_n 0, 1) := by decide +kernel
theorem d1_39 : decode prog_45_method_1_code 39 = .ok (.iload_n 1, 1) := by decide +kernel
theorem d1_40 : decode prog_45_method_1_code 40 = .ok (.newarray .long, 2) := by decide +kernel
theorem d1_42 : decode prog_45_method_1_code 42 = .ok (.putfield 26, 3) := by decide +kernel
theorem d1_45 : decode prog_45_method_1_code 45 = .ok (.aload_n 0, 1) := by decide +kernel
theorem d1_46 : decode prog_45_method_1_code 46 = .ok (.iload_n 1, 1) := by decide +kernel
theorem d1_47 : decode prog_45_method_1_code 47 = .ok (.newarray .double, 2) := by decide +kernel
theorem d1_49 : decode prog_45_method_1_code 49 = .ok (.putfield 30, 3) := by decide +kernel
theorem d1_52 : decode prog_45_method_1_code 52 = .ok (.return_, 1) := by decide +kernel
theorem d7_0 : decode prog_45_method_7_code 0 = .ok (.iconst 1, 1) := by decide +kernel
theorem d7_1 : decode prog_45_method_7_code 1 = .ok (.istore_n 3, 1) := by decide +kernel
theorem d7_2 : decode prog_45_method_7_code 2 = .ok (.iload_n 3, 1) := by decide +kernel
theorem d7_3 : decode prog_45_method_7_code 3 = .ok (.bipush 99, 2) := by decide +kernel
theorem d7_5 : decode prog_45_method_7_code 5 = .ok (.if_icmp .gt 24, 3) := by decide +kernel
theorem d7_8 : decode prog_45_method_7_code 8 = .ok (.aload_n 0, 1) := by decide +kernel
theorem d7_9 : decode prog_45_method_7_code 9 = .ok (.iload_n 3, 1) := by decide +kernel
theorem d7_10 : decode prog_45_method_7_code 10 = .ok (.dload_n 1, 1) := by decide +kernel
theorem d7_11 : decode prog_45_method_7_code 11 = .ok (.iload_n 3, 1) := by decide +kernel
theorem d7_12 : decode prog_45_method_7_code 12 = .ok (.i2d, 1) := by decide +kernel
theorem d7_13 : decode prog_45_method_7_code 13 = .ok (.ldc2_w 34, 3) := by decide +kernel
theorem d7_16 : decode prog_45_method_7_code 16 = .ok (.ddiv, 1) := by decide +kernel
theorem d7_17 : decode prog_45_method_7_code 17 = .ok (.aload_n 0, 1) := by decide +kernel
theorem d7_18 : decode prog_45_method_7_code 18 = .ok (.iload_n 3, 1) := by decide +kernel
theorem d7_19 : decode prog_45_method_7_code 19 = .ok (.daload, 1) := by decide +kernel
theorem d7_20 : decode prog_45_method_7_code 20 = .ok (.dmul, 1) := by decide +kernel
theorem d7_21 : decode prog_45_method_7_code 21 = .ok (.dadd, 1) := by decide +kernel
theorem d7_22 : decode prog_45_method_7_code 22 = .ok (.dastore, 1) := by decide +kernel
theorem d7_23 : decode prog_45_method_7_code 23 = .ok (.iinc 3 1, 3) := by decide +kernel
theorem d7_26 : decode prog_45_method_7_code 26 = .ok (.goto (-24), 3) := by decide +kernel
theorem d7_29 : decode prog_45_method_7_code 29 = .ok (.return_, 1) := by decide +kernel
theorem d6_0 : decode prog_45_method_6_code 0 = .ok (.aload_n 0, 1) := by decide +kernel
theorem d6_1 : decode prog_45_method_6_code 1 = .ok (.getfield 18, 3) := by decide +kernel
theorem d6_4 : decode prog_45_method_6_code 4 = .ok (.iload_n 1, 1) := by decide +kernel
theorem d6_5 : decode prog_45_method_6_code 5 = .ok (.aaload, 1) := by decide +kernel
theorem d6_6 : decode prog_45_method_6_code 6 = .ok (.dload_n 2, 1) := by decide +kernel
theorem d6_7 : decode prog_45_method_6_code 7 = .ok (.invokestatic 56, 3) := by decide +kernel
theorem d6_10 : decode prog_45_method_6_code 10 = .ok (.aload_n 0, 1) := by decide +kernel
theorem d6_11 : decode prog_45_method_6_code 11 = .ok (.getfield 7, 3) := by decide +kernel
theorem d6_14 : decode prog_45_method_6_code 14 = .ok (.ifCond .lt 18, 3) := by decide +kernel
theorem d6_17 : decode prog_45_method_6_code 17 = .ok (.aload_n 0, 1) := by decide +kernel
theorem d6_18 : decode prog_45_method_6_code 18 = .ok (.getfield 23, 3) := by decide +kernel
theorem d6_21 : decode prog_45_method_6_code 21 = .ok (.aload_n 0, 1) := by decide +kernel
theorem d6_22 : decode prog_45_method_6_code 22 = .ok (.getfield 7, 3) := by decide +kernel
theorem d6_25 : decode prog_45_method_6_code 25 = .ok (.aaload, 1) := by decide +kernel
theorem d6_26 : decode prog_45_method_6_code 26 = .ok (.iload_n 1, 1) := by decide +kernel
theorem d6_27 : decode prog_45_method_6_code 27 = .ok (.aaload, 1) := by decide +kernel
theorem d6_28 : decode prog_45_method_6_code 28 = .ok (.dload_n 2, 1) := by decide +kernel
theorem d6_29 : decode prog_45_method_6_code 29 = .ok (.invokestatic 56, 3) := by decide +kernel
theorem d6_32 : decode prog_45_method_6_code 32 = .ok (.aload_n 0, 1) := by decide +kernel
theorem d6_33 : decode prog_45_method_6_code 33 = .ok (.dup, 1) := by decide +kernel
theorem d6_34 : decode prog_45_method_6_code 34 = .ok (.getfield 36, 3) := by decide +kernel
theorem d6_37 : decode prog_45_method_6_code 37 = .ok (.lconst 1, 1) := by decide +kernel
theorem d6_38 : decode prog_45_method_6_code 38 = .ok (.ladd, 1) := by decide +kernel
theorem d6_39 : decode prog_45_method_6_code 39 = .ok (.putfield 36, 3) := by decide +kernel
theorem d6_42 : decode prog_45_method_6_code 42 = .ok (.aload_n 0, 1) := by decide +kernel
theorem d6_43 : decode prog_45_method_6_code 43 = .ok (.getfield 26, 3) := by decide +kernel
theorem d6_46 : decode prog_45_method_6_code 46 = .ok (.iload_n 1, 1) := by decide +kernel
theorem d6_47 : decode prog_45_method_6_code 47 = .ok (.aload_n 0, 1) := by decide +kernel
theorem d6_48 : decode prog_45_method_6_code 48 = .ok (.getfield 36, 3) := by decide +kernel
theorem d6_51 : decode prog_45_method_6_code 51 = .ok (.lastore, 1) := by decide +kernel
theorem d6_52 : decode prog_45_method_6_code 52 = .ok (.aload_n 0, 1) := by decide +kernel
theorem d6_53 : decode prog_45_method_6_code 53 = .ok (.iload_n 1, 1) := by decide +kernel
theorem d6_54 : decode prog_45_method_6_code 54 = .ok (.putfield 7, 3) := by decide +kernel
theorem d6_57 : decode prog_45_method_6_code 57 = .ok (.aload_n 0, 1) := by decide +kernel
theorem d6_58 : decode prog_45_method_6_code 58 = .ok (.dload_n 2, 1) := by decide +kernel
theorem d6_59 : decode prog_45_method_6_code 59 = .ok (.dconst 0, 1) := by decide +kernel
theorem d6_60 : decode prog_45_method_6_code 60 = .ok (.dcmp .l, 1) := by decide +kernel
theorem d6_61 : decode prog_45_method_6_code 61 = .ok (.ifCond .le 8, 3) := by decide +kernel
theorem d6_64 : decode prog_45_method_6_code 64 = .ok (.bipush 99, 2) := by decide +kernel
theorem d6_66 : decode prog_45_method_6_code 66 = .ok (.goto 13, 3) := by decide +kernel
theorem d6_69 : decode prog_45_method_6_code 69 = .ok (.iconst 1, 1) := by decide +kernel
theorem d6_70 : decode prog_45_method_6_code 70 = .ok (.aload_n 0, 1) := by decide +kernel
theorem d6_71 : decode prog_45_method_6_code 71 = .ok (.getfield 13, 3) := by decide +kernel
theorem d6_74 : decode prog_45_method_6_code 74 = .ok (.iconst 1, 1) := by decide +kernel
theorem d6_75 : decode prog_45_method_6_code 75 = .ok (.isub, 1) := by decide +kernel
theorem d6_76 : decode prog_45_method_6_code 76 = .ok (.invokestatic 60, 3) := by decide +kernel
theorem d6_79 : decode prog_45_method_6_code 79 = .ok (.putfield 13, 3) := by decide +kernel
theorem d6_82 : decode prog_45_method_6_code 82 = .ok (.return_, 1) := by decide +kernel
theorem d3_0 : decode prog_45_method_3_code 0 = .ok (.bipush 100, 2) := by decide +kernel
theorem d3_2 : decode prog_45_method_3_code 2 = .ok (.aload_n 0, 1) := by decide +kernel
theorem d3_3 : decode prog_45_method_3_code 3 = .ok (.getfield 13, 3) := by decide +kernel
theorem d3_6 : decode prog_45_method_3_code 6 = .ok (.isub, 1) := by decide +kernel
theorem d3_7 : decode prog_45_method_3_code 7 = .ok (.i2d, 1) := by decide +kernel
theorem d3_8 : decode prog_45_method_3_code 8 = .ok (.ldc2_w 34, 3) := by decide +kernel
theorem d3_11 : decode prog_45_method_3_code 11 = .ok (.ddiv, 1) := by decide +kernel
theorem d3_12 : decode prog_45_method_3_code 12 = .ok (.dreturn, 1) := by decide +kernel
def QI (r : Int32) (h0 : Heap) (n0 : Nat) (v : Option Value) (h : Heap) (L : List Loc) : Prop := v = some (.int r) ∧ Fr n0 L ∧ h = h0
def QD (r : UInt64) (h0 : Heap) (n0 : Nat) (v : Option Value) (h : Heap) (L : List Loc) : Prop := v = some (.double r) ∧ Fr n0 L ∧ h = h0
set_option maxRecDepth 65536 in
set_option maxHeartbeats 40000000 in
theorem rmMax (l : Launch) (Z : State) (a0 : Array Value) (hw : ∀ d ∈ tables_1, d.before a0 Z = true) (ws : List Jvm.Cond) (x y : Int32) (h0 : Heap) (n0 : Nat) (Z0 : n0 ≤ h0.size) :
    MetFree l (⟨"java/lang/Math", "max", "(II)I"⟩ : MethodName) (head1 (Jvm.Cond.code (⟨"java/lang/Math", "max", "(II)I"⟩ : MethodName) jdk_29_method_65_code 2 (some .int) :: ws) ({ frames := 0, cells := 0, slots := 0, locals := 0 } : Room)) (fun a U => a = #[(.int x), (.int y)] ∧ Z.Warmed39 U.vm ∧ U.heap = h0) (fun _ _ _ _ _ => True) (fun _ Uw_ ow_ Ue_ => ∃ vw_ Lw_, ow_ = .returned vw_ ∧ QI (own_max x y) h0 n0 vw_ Ue_.heap Lw_ ∧ FrameEnd Uw_ ow_ Ue_ Lw_ ({ frames := 0, cells := 0, slots := 0, locals := 0 } : Room).cells ({ frames := 0, cells := 0, slots := 0, locals := 0 } : Room).slots) := by
  refine MetFree.of_bodySF (Jvm.Free.JP.mathPlain rfl (by decide +kernel)) hisR ?_
  intro p e s m args below meth c s₁ Bd hml0 hP hK
  obtain ⟨rfl, hZ, hh⟩ := hP
  have hx := Bd.exec
  have hby := Bd.bytes
  have hml : c.maxLocals = 2 := hml0
  have hown : s.vm.findClass "java/lang/Math" = some m.cls := findClass_of_methodNamed Bd.named
  have hnm := (name_of_methodNamed Bd.named Bd.method).1
  have X0 : Stand p l e ({ frames := 0, cells := 0, slots := 0, locals := 0 } : Room) s m #[(.int x), (.int y)] below meth c s₁ [] 0 0 := Stand.of_body Bd
  have e0 : s₁.heap = h0 := by rw [← hh, Bd.state]; rfl
  have N0 := Fr.nil n0
  have ef : entryFrame m #[(.int x), (.int y)] 2 = (mkF m 0 #[.val (.int x), .val (.int y)] []) := by first | (simp [entryFrame, mkF, argsToLocals, Value.category]; done) | rfl
  show OwnGoes p e below (fun ow_ Ue_ => ∃ vw_ Lw_, ow_ = .returned vw_ ∧ QI (own_max x y) h0 n0 vw_ Ue_.heap Lw_ ∧ FrameEnd s ow_ Ue_ Lw_ ({ frames := 0, cells := 0, slots := 0, locals := 0 } : Room).cells ({ frames := 0, cells := 0, slots := 0, locals := 0 } : Room).slots) (s₁.setTop (entryFrame m #[(.int x), (.int y)] 2))
  refine own_pre (fun t k => castTop ef k) ?_
  show OwnGoes p e below _ (s₁.setTop (mkF m 0 #[.val (.int x), .val (.int y)] []))
  refine own_pre (fun _ kz_ => XS.iloadN X0.here hx rfl (hb hby d9_0) rfl kz_) ?_
  show OwnGoes p e below _ (s₁.setTop (mkF m 1 #[.val (.int x), .val (.int y)] [(.int x)]))
  refine own_pre (fun _ kz_ => XS.iloadN X0.here hx rfl (hb hby d9_1) rfl kz_) ?_
  show OwnGoes p e below _ (s₁.setTop (mkF m 2 #[.val (.int x), .val (.int y)] [(.int y), (.int x)]))
  by_cases h2 : x < y
  · refine own_pre (fun _ kz_ => XS.icmpYes X0.here hx rfl (pc0 := 2) (pc' := 9) rfl (hb hby d9_2) rfl (tlt h2).1 (by decide) (by decide) kz_) ?_
    show OwnGoes p e below _ (s₁.setTop (mkF m 9 #[.val (.int x), .val (.int y)] []))
    refine own_pre (fun _ kz_ => XS.iloadN X0.here hx rfl (hb hby d9_9) rfl kz_) ?_
    show OwnGoes p e below _ (s₁.setTop (mkF m 10 #[.val (.int x), .val (.int y)] [(.int y)]))
    exact own_ret X0 hx Bd.returns (rfl) (Or.inl ⟨rfl, by simp, _, rfl⟩) Bd.notSynchronized (hb hby d9_10) ⟨by unfold own_max; rw [if_pos h2], N0, e0⟩ (by decide) (by decide)
  · refine own_pre (fun _ kz_ => XS.icmpNo X0.here hx rfl (hb hby d9_2) rfl (flt h2).1 kz_) ?_
    show OwnGoes p e below _ (s₁.setTop (mkF m 5 #[.val (.int x), .val (.int y)] []))
    refine own_pre (fun _ kz_ => XS.iloadN X0.here hx rfl (hb hby d9_5) rfl kz_) ?_
    show OwnGoes p e below _ (s₁.setTop (mkF m 6 #[.val (.int x), .val (.int y)] [(.int x)]))
    refine own_pre (fun _ kz_ => XS.goto X0.here hx rfl (pc0 := 6) (pc' := 10) rfl (hb hby d9_6) (by decide) (by decide) kz_) ?_
    show OwnGoes p e below _ (s₁.setTop (mkF m 10 #[.val (.int x), .val (.int y)] [(.int x)]))
    exact own_ret X0 hx Bd.returns (rfl) (Or.inl ⟨rfl, by simp, _, rfl⟩) Bd.notSynchronized (hb hby d9_10) ⟨by unfold own_max; rw [if_neg h2], N0, e0⟩ (by decide) (by decide)
def QNew (Z : State) (ob : Nat) (h0 : Heap) (n0 : Nat) (v : Option Value) (h : Heap) (L : List Loc) : Prop := v = none ∧ Fr n0 L ∧ ∃ B : Nat, OwnCF Z n0 h ob B (-1 : Int32) (50 : Int32) (0 : Int64) (fun _ => 0) (fun _ _ => 0)
set_option maxRecDepth 65536 in
set_option maxHeartbeats 40000000 in
theorem rmNew (l : Launch) (Z : State) (a0 : Array Value) (hw : ∀ d ∈ tables_1, d.before a0 Z = true) (ws : List Jvm.Cond) (ob : Nat) (h0 : Heap) (n0 : Nat) (Z0 : n0 ≤ h0.size) (Eo : Exa Z h0 ob "com/example/hyperloom/hyperloom/hyperheuristic/ChoiceFunction") (F_previous : Fld Z h0 ob "com/example/hyperloom/hyperloom/hyperheuristic/ChoiceFunction" "previous" "I" (.int (0 : Int32))) (F_mu : Fld Z h0 ob "com/example/hyperloom/hyperloom/hyperheuristic/ChoiceFunction" "mu" "I" (.int (0 : Int32))) (F_alone : Fld Z h0 ob "com/example/hyperloom/hyperloom/hyperheuristic/ChoiceFunction" "alone" "[[D" .null) (F_after : Fld Z h0 ob "com/example/hyperloom/hyperloom/hyperheuristic/ChoiceFunction" "after" "[[[D" .null) (F_calls : Fld Z h0 ob "com/example/hyperloom/hyperloom/hyperheuristic/ChoiceFunction" "calls" "J" (.long (0 : Int64))) (F_lastCalled : Fld Z h0 ob "com/example/hyperloom/hyperloom/hyperheuristic/ChoiceFunction" "lastCalled" "[J" .null) (F_scores : Fld Z h0 ob "com/example/hyperloom/hyperloom/hyperheuristic/ChoiceFunction" "scores" "[D" .null) (g_ob : n0 ≤ ob) :
    MetFree l (⟨"com/example/hyperloom/hyperloom/hyperheuristic/ChoiceFunction", "<init>", "(I)V"⟩ : MethodName) (head1 (Jvm.Cond.code (⟨"com/example/hyperloom/hyperloom/hyperheuristic/ChoiceFunction", "<init>", "(I)V"⟩ : MethodName) prog_45_method_1_code 2 none :: ws) ({ frames := 1, cells := 19, slots := 1221, locals := 12 } : Room)) (fun a U => a = #[(.ref ob), (.int (3 : Int32))] ∧ Z.Warmed39 U.vm ∧ U.heap = h0) (fun _ _ _ _ _ => True) (fun _ Uw_ ow_ Ue_ => ∃ vw_ Lw_, ow_ = .returned vw_ ∧ QNew Z ob h0 n0 vw_ Ue_.heap Lw_ ∧ FrameEnd Uw_ ow_ Ue_ Lw_ ({ frames := 1, cells := 19, slots := 1221, locals := 12 } : Room).cells ({ frames := 1, cells := 19, slots := 1221, locals := 12 } : Room).slots) := by
  refine MetFree.of_bodySF (plainFor_of_name (by first | (simp [plainName, overriddenIn]; done) | decide +kernel)) hisR ?_
  intro p e s m args below meth c s₁ Bd hml0 hP hK
  obtain ⟨rfl, hZ, hh⟩ := hP
  have hx := Bd.exec
  have hby := Bd.bytes
  have hml : c.maxLocals = 2 := hml0
  have hown : s.vm.findClass "com/example/hyperloom/hyperloom/hyperheuristic/ChoiceFunction" = some m.cls := findClass_of_methodNamed Bd.named
  have hnm := (name_of_methodNamed Bd.named Bd.method).1
  have X0 : Stand p l e ({ frames := 1, cells := 19, slots := 1221, locals := 12 } : Room) s m #[(.ref ob), (.int (3 : Int32))] below meth c s₁ [] 0 0 := Stand.of_body Bd
  have e0 : s₁.heap = h0 := by rw [← hh, Bd.state]; rfl
  have N0 := Fr.nil n0
  have ef : entryFrame m #[(.ref ob), (.int (3 : Int32))] 2 = (mkF m 0 #[.val (.ref ob), .val (.int (3 : Int32))] []) := by first | (simp [entryFrame, mkF, argsToLocals, Value.category]; done) | rfl
  show OwnGoes p e below (fun ow_ Ue_ => ∃ vw_ Lw_, ow_ = .returned vw_ ∧ QNew Z ob h0 n0 vw_ Ue_.heap Lw_ ∧ FrameEnd s ow_ Ue_ Lw_ ({ frames := 1, cells := 19, slots := 1221, locals := 12 } : Room).cells ({ frames := 1, cells := 19, slots := 1221, locals := 12 } : Room).slots) (s₁.setTop (entryFrame m #[(.ref ob), (.int (3 : Int32))] 2))
  refine own_pre (fun t k => castTop ef k) ?_
  show OwnGoes p e below _ (s₁.setTop (mkF m 0 #[.val (.ref ob), .val (.int (3 : Int32))] []))
  refine own_pre (fun _ kz_ => XS.aloadN X0.here hx rfl (hb hby d1_0) rfl rfl kz_) ?_
  show OwnGoes p e below _ (s₁.setTop (mkF m 1 #[.val (.ref ob), .val (.int (3 : Int32))] [(.ref ob)]))
  obtain ⟨T1, X1, e1, st1⟩ := initO X0 hx hZ hown (hw _ (List.mem_of_getElem? (i := 7) rfl)) (hw _ (List.mem_of_getElem? (i := 8) rfl)) (hw _ (List.mem_of_getElem? (i := 9) rfl)) e0 (g := (mkF m 1 #[.val (.ref ob), .val (.int (3 : Int32))] [(.ref ob)])) rfl (by rw [hml]; rfl) rfl (hb hby d1_1) (by decide) (W := 0) (by show 2 * 0 + _ ≤ _; exact Nat.le_of_eq rfl) (by decide)
  refine own_pre st1 ?_
  show OwnGoes p e below _ (T1.setTop (mkF m 4 #[.val (.ref ob), .val (.int (3 : Int32))] []))
  refine own_pre (fun _ kz_ => XS.aloadN X1.here hx rfl (hb hby d1_4) rfl rfl kz_) ?_
  show OwnGoes p e below _ (T1.setTop (mkF m 5 #[.val (.ref ob), .val (.int (3 : Int32))] [(.ref ob)]))
  refine own_pre (fun _ kz_ => XS.iconst X1.here hx rfl (hb hby d1_5) kz_) ?_
  show OwnGoes p e below _ (T1.setTop (mkF m 6 #[.val (.ref ob), .val (.int (3 : Int32))] [(.int (-1 : Int32)), (.ref ob)]))
  obtain ⟨T2, h2, X2, e2, W2, st2⟩ := putF X1 hx hZ hown (host := "") (Or.inl (hw _ (List.mem_of_getElem? (i := 10) rfl))) Via.refl e1 F_previous Eo (Or.inl (hw _ (List.mem_of_getElem? (i := 11) rfl))) (hw _ (List.mem_of_getElem? (i := 2) rfl)) (ty := .int) (by decide) rfl rfl (g := (mkF m 6 #[.val (.ref ob), .val (.int (3 : Int32))] [(.int (-1 : Int32)), (.ref ob)])) rfl rfl (hb hby d1_6)
  have f2_8 := Eo.wr W2
  have f2_6 := F_mu.other W2 (Or.inr (slot_ne (Or.inl (hw _ (List.mem_of_getElem? (i := 13) rfl))) (Or.inl (hw _ (List.mem_of_getElem? (i := 11) rfl))) (by decide) (t := .int) (t' := .int) (by decide) (by decide)))
  have f2_5 := F_alone.other W2 (Or.inr (slot_ne (Or.inr (hw _ (List.mem_of_getElem? (i := 18) rfl))) (Or.inl (hw _ (List.mem_of_getElem? (i := 11) rfl))) (by decide) (t := (.array (.array .double))) (t' := .int) (by decide) (by decide)))
  have f2_4 := F_after.other W2 (Or.inr (slot_ne (Or.inr (hw _ (List.mem_of_getElem? (i := 22) rfl))) (Or.inl (hw _ (List.mem_of_getElem? (i := 11) rfl))) (by decide) (t := (.array (.array (.array .double)))) (t' := .int) (by decide) (by decide)))
  have f2_3 := F_calls.other W2 (Or.inr (slot_ne (Or.inl (hw _ (List.mem_of_getElem? (i := 51) rfl))) (Or.inl (hw _ (List.mem_of_getElem? (i := 11) rfl))) (by decide) (t := .long) (t' := .int) (by decide) (by decide)))
  have f2_2 := F_lastCalled.other W2 (Or.inr (slot_ne (Or.inr (hw _ (List.mem_of_getElem? (i := 25) rfl))) (Or.inl (hw _ (List.mem_of_getElem? (i := 11) rfl))) (by decide) (t := (.array .long)) (t' := .int) (by decide) (by decide)))
  have f2_1 := F_scores.other W2 (Or.inr (slot_ne (Or.inr (hw _ (List.mem_of_getElem? (i := 27) rfl))) (Or.inl (hw _ (List.mem_of_getElem? (i := 11) rfl))) (by decide) (t := (.array .double)) (t' := .int) (by decide) (by decide)))
  have K2 := ((Keep.refl h0 [ob])).wr W2 (Or.inl (List.mem_of_getElem? (i := 0) rfl))
  have Z2 := Nat.le_trans Z0 (Keep.of_wr W2).1
  have Fw2 := F_previous.same W2
  have N2 := Fr.snoc X2 N0 g_ob
  refine own_pre st2 ?_
  show OwnGoes p e below _ (T2.setTop (mkF m 9 #[.val (.ref ob), .val (.int (3 : Int32))] []))
  refine own_pre (fun _ kz_ => XS.aloadN X2.here hx rfl (hb hby d1_9) rfl rfl kz_) ?_
  show OwnGoes p e below _ (T2.setTop (mkF m 10 #[.val (.ref ob), .val (.int (3 : Int32))] [(.ref ob)]))
  refine own_pre (fun _ kz_ => XS.bipush X2.here hx rfl (hb hby d1_10) kz_) ?_
  show OwnGoes p e below _ (T2.setTop (mkF m 12 #[.val (.ref ob), .val (.int (3 : Int32))] [(.int (50 : Int32)), (.ref ob)]))
  obtain ⟨T3, h3, X3, e3, W3, st3⟩ := putF X2 hx hZ hown (host := "") (Or.inl (hw _ (List.mem_of_getElem? (i := 12) rfl))) Via.refl e2 f2_6 f2_8 (Or.inl (hw _ (List.mem_of_getElem? (i := 13) rfl))) (hw _ (List.mem_of_getElem? (i := 2) rfl)) (ty := .int) (by decide) rfl rfl (g := (mkF m 12 #[.val (.ref ob), .val (.int (3 : Int32))] [(.int (50 : Int32)), (.ref ob)])) rfl rfl (hb hby d1_12)
  have f3_8 := f2_8.wr W3
  have f3_7 := Fw2.other W3 (Or.inr (slot_ne (Or.inl (hw _ (List.mem_of_getElem? (i := 11) rfl))) (Or.inl (hw _ (List.mem_of_getElem? (i := 13) rfl))) (by decide) (t := .int) (t' := .int) (by decide) (by decide)))
  have f3_5 := f2_5.other W3 (Or.inr (slot_ne (Or.inr (hw _ (List.mem_of_getElem? (i := 18) rfl))) (Or.inl (hw _ (List.mem_of_getElem? (i := 13) rfl))) (by decide) (t := (.array (.array .double))) (t' := .int) (by decide) (by decide)))
  have f3_4 := f2_4.other W3 (Or.inr (slot_ne (Or.inr (hw _ (List.mem_of_getElem? (i := 22) rfl))) (Or.inl (hw _ (List.mem_of_getElem? (i := 13) rfl))) (by decide) (t := (.array (.array (.array .double)))) (t' := .int) (by decide) (by decide)))
  have f3_3 := f2_3.other W3 (Or.inr (slot_ne (Or.inl (hw _ (List.mem_of_getElem? (i := 51) rfl))) (Or.inl (hw _ (List.mem_of_getElem? (i := 13) rfl))) (by decide) (t := .long) (t' := .int) (by decide) (by decide)))
  have f3_2 := f2_2.other W3 (Or.inr (slot_ne (Or.inr (hw _ (List.mem_of_getElem? (i := 25) rfl))) (Or.inl (hw _ (List.mem_of_getElem? (i := 13) rfl))) (by decide) (t := (.array .long)) (t' := .int) (by decide) (by decide)))
  have f3_1 := f2_1.other W3 (Or.inr (slot_ne (Or.inr (hw _ (List.mem_of_getElem? (i := 27) rfl))) (Or.inl (hw _ (List.mem_of_getElem? (i := 13) rfl))) (by decide) (t := (.array .double)) (t' := .int) (by decide) (by decide)))
  have K3 := (K2).wr W3 (Or.inl (List.mem_of_getElem? (i := 0) rfl))
  have Z3 := Nat.le_trans Z2 (Keep.of_wr W3).1
  have Fw3 := f2_6.same W3
  have N3 := Fr.snoc X3 N2 g_ob
  refine own_pre st3 ?_
  show OwnGoes p e below _ (T3.setTop (mkF m 15 #[.val (.ref ob), .val (.int (3 : Int32))] []))
  refine own_pre (fun _ kz_ => XS.aloadN X3.here hx rfl (hb hby d1_15) rfl rfl kz_) ?_
  show OwnGoes p e below _ (T3.setTop (mkF m 16 #[.val (.ref ob), .val (.int (3 : Int32))] [(.ref ob)]))
  refine own_pre (fun _ kz_ => XS.iloadN X3.here hx rfl (hb hby d1_16) rfl kz_) ?_
  show OwnGoes p e below _ (T3.setTop (mkF m 17 #[.val (.ref ob), .val (.int (3 : Int32))] [(.int (3 : Int32)), (.ref ob)]))
  refine own_pre (fun _ kz_ => XS.bipush X3.here hx rfl (hb hby d1_17) kz_) ?_
  show OwnGoes p e below _ (T3.setTop (mkF m 19 #[.val (.ref ob), .val (.int (3 : Int32))] [(.int (100 : Int32)), (.int (3 : Int32)), (.ref ob)]))
  obtain ⟨T4, h4, X4, e4, E4, s4, M4, st4⟩ := own_grid2 X3 hx hZ hown (hw _ (List.mem_of_getElem? (i := 14) rfl)) (hw _ (List.mem_of_getElem? (i := 15) rfl)) (hw _ (List.mem_of_getElem? (i := 16) rfl)) e3 (ob := ob) (f3_8).lt (g := (mkF m 19 #[.val (.ref ob), .val (.int (3 : Int32))] [(.int (100 : Int32)), (.int (3 : Int32)), (.ref ob)])) rfl (hb hby d1_19) rfl (by decide) (by decide)
  obtain ⟨B, gB⟩ : ∃ z : Nat, z = h3.size := ⟨_, rfl⟩
  rw [← gB] at M4 s4 st4
  have f4_8 := f3_8.ext E4
  have f4_7 := f3_7.ext E4
  have f4_6 := Fw3.ext E4
  have f4_5 := f3_5.ext E4
  have f4_4 := f3_4.ext E4
  have f4_3 := f3_3.ext E4
  have f4_2 := f3_2.ext E4
  have f4_1 := f3_1.ext E4
  have K4 := (K3).ext E4
  have Z4 := Nat.le_trans Z3 E4.1
  refine own_pre st4 ?_
  show OwnGoes p e below _ (T4.setTop (mkF m 23 #[.val (.ref ob), .val (.int (3 : Int32))] [(.ref B), (.ref ob)]))
  obtain ⟨T5, h5, X5, e5, W5, st5⟩ := putF X4 hx hZ hown (host := "") (Or.inl (hw _ (List.mem_of_getElem? (i := 17) rfl))) Via.refl e4 f4_5 f4_8 (Or.inr ⟨(hw _ (List.mem_of_getElem? (i := 18) rfl)), rfl, hnm⟩) (hw _ (List.mem_of_getElem? (i := 2) rfl)) (ty := (.array (.array .double))) (by decide) rfl rfl (g := (mkF m 23 #[.val (.ref ob), .val (.int (3 : Int32))] [(.ref B), (.ref ob)])) rfl rfl (hb hby d1_23)
  have f5_9 := f4_8.wr W5
  have f5_8 := f4_7.other W5 (Or.inr (slot_ne (Or.inl (hw _ (List.mem_of_getElem? (i := 11) rfl))) (Or.inr (hw _ (List.mem_of_getElem? (i := 18) rfl))) (by decide) (t := .int) (t' := (.array (.array .double))) (by decide) (by decide)))
  have f5_7 := f4_6.other W5 (Or.inr (slot_ne (Or.inl (hw _ (List.mem_of_getElem? (i := 13) rfl))) (Or.inr (hw _ (List.mem_of_getElem? (i := 18) rfl))) (by decide) (t := .int) (t' := (.array (.array .double))) (by decide) (by decide)))
  have f5_5 := f4_4.other W5 (Or.inr (slot_ne (Or.inr (hw _ (List.mem_of_getElem? (i := 22) rfl))) (Or.inr (hw _ (List.mem_of_getElem? (i := 18) rfl))) (by decide) (t := (.array (.array (.array .double)))) (t' := (.array (.array .double))) (by decide) (by decide)))
  have f5_4 := f4_3.other W5 (Or.inr (slot_ne (Or.inl (hw _ (List.mem_of_getElem? (i := 51) rfl))) (Or.inr (hw _ (List.mem_of_getElem? (i := 18) rfl))) (by decide) (t := .long) (t' := (.array (.array .double))) (by decide) (by decide)))
  have f5_3 := f4_2.other W5 (Or.inr (slot_ne (Or.inr (hw _ (List.mem_of_getElem? (i := 25) rfl))) (Or.inr (hw _ (List.mem_of_getElem? (i := 18) rfl))) (by decide) (t := (.array .long)) (t' := (.array (.array .double))) (by decide) (by decide)))
  have f5_2 := f4_1.other W5 (Or.inr (slot_ne (Or.inr (hw _ (List.mem_of_getElem? (i := 27) rfl))) (Or.inr (hw _ (List.mem_of_getElem? (i := 18) rfl))) (by decide) (t := (.array .double)) (t' := (.array (.array .double))) (by decide) (by decide)))
  have f5_1 := M4.wr W5
  have K5 := (K4).wr W5 (Or.inl (List.mem_of_getElem? (i := 0) rfl))
  have Z5 := Nat.le_trans Z4 (Keep.of_wr W5).1
  have Fw5 := f4_5.same W5
  have N5 := Fr.snoc X5 N3 g_ob
  refine own_pre st5 ?_
  show OwnGoes p e below _ (T5.setTop (mkF m 26 #[.val (.ref ob), .val (.int (3 : Int32))] []))
  refine own_pre (fun _ kz_ => XS.aloadN X5.here hx rfl (hb hby d1_26) rfl rfl kz_) ?_
  show OwnGoes p e below _ (T5.setTop (mkF m 27 #[.val (.ref ob), .val (.int (3 : Int32))] [(.ref ob)]))
  refine own_pre (fun _ kz_ => XS.iloadN X5.here hx rfl (hb hby d1_27) rfl kz_) ?_
  show OwnGoes p e below _ (T5.setTop (mkF m 28 #[.val (.ref ob), .val (.int (3 : Int32))] [(.int (3 : Int32)), (.ref ob)]))
  refine own_pre (fun _ kz_ => XS.iloadN X5.here hx rfl (hb hby d1_28) rfl kz_) ?_
  show OwnGoes p e below _ (T5.setTop (mkF m 29 #[.val (.ref ob), .val (.int (3 : Int32))] [(.int (3 : Int32)), (.int (3 : Int32)), (.ref ob)]))
  refine own_pre (fun _ kz_ => XS.bipush X5.here hx rfl (hb hby d1_29) kz_) ?_
  show OwnGoes p e below _ (T5.setTop (mkF m 31 #[.val (.ref ob), .val (.int (3 : Int32))] [(.int (100 : Int32)), (.int (3 : Int32)), (.int (3 : Int32)), (.ref ob)]))
  obtain ⟨T6, h6, X6, e6, E6, s6, M6, st6⟩ := own_grid3 X5 hx hZ hown (hw _ (List.mem_of_getElem? (i := 19) rfl)) (hw _ (List.mem_of_getElem? (i := 20) rfl)) (hw _ (List.mem_of_getElem? (i := 15) rfl)) (hw _ (List.mem_of_getElem? (i := 16) rfl)) e5 (ob := ob) (B := B) f5_1.1 ((own_wrsz W5).trans s4) (g := (mkF m 31 #[.val (.ref ob), .val (.int (3 : Int32))] [(.int (100 : Int32)), (.int (3 : Int32)), (.int (3 : Int32)), (.ref ob)])) rfl (hb hby d1_31) rfl (by decide) (by decide)
  have f6_9 := f5_9.ext E6
  have f6_8 := f5_8.ext E6
  have f6_7 := f5_7.ext E6
  have f6_6 := Fw5.ext E6
  have f6_5 := f5_5.ext E6
  have f6_4 := f5_4.ext E6
  have f6_3 := f5_3.ext E6
  have f6_2 := f5_2.ext E6
  have f6_1 := f5_1.ext E6
  have K6 := (K5).ext E6
  have Z6 := Nat.le_trans Z5 E6.1
  refine own_pre st6 ?_
  show OwnGoes p e below _ (T6.setTop (mkF m 35 #[.val (.ref ob), .val (.int (3 : Int32))] [(.ref (B + 4)), (.ref ob)]))
  obtain ⟨T7, h7, X7, e7, W7, st7⟩ := putF X6 hx hZ hown (host := "") (Or.inl (hw _ (List.mem_of_getElem? (i := 21) rfl))) Via.refl e6 f6_5 f6_9 (Or.inr ⟨(hw _ (List.mem_of_getElem? (i := 22) rfl)), rfl, hnm⟩) (hw _ (List.mem_of_getElem? (i := 2) rfl)) (ty := (.array (.array (.array .double)))) (by decide) rfl rfl (g := (mkF m 35 #[.val (.ref ob), .val (.int (3 : Int32))] [(.ref (B + 4)), (.ref ob)])) rfl rfl (hb hby d1_35)
  have f7_10 := f6_9.wr W7
  have f7_9 := f6_8.other W7 (Or.inr (slot_ne (Or.inl (hw _ (List.mem_of_getElem? (i := 11) rfl))) (Or.inr (hw _ (List.mem_of_getElem? (i := 22) rfl))) (by decide) (t := .int) (t' := (.array (.array (.array .double)))) (by decide) (by decide)))
  have f7_8 := f6_7.other W7 (Or.inr (slot_ne (Or.inl (hw _ (List.mem_of_getElem? (i := 13) rfl))) (Or.inr (hw _ (List.mem_of_getElem? (i := 22) rfl))) (by decide) (t := .int) (t' := (.array (.array (.array .double)))) (by decide) (by decide)))
  have f7_7 := f6_6.other W7 (Or.inr (slot_ne (Or.inr (hw _ (List.mem_of_getElem? (i := 18) rfl))) (Or.inr (hw _ (List.mem_of_getElem? (i := 22) rfl))) (by decide) (t := (.array (.array .double))) (t' := (.array (.array (.array .double)))) (by decide) (by decide)))
  have f7_5 := f6_4.other W7 (Or.inr (slot_ne (Or.inl (hw _ (List.mem_of_getElem? (i := 51) rfl))) (Or.inr (hw _ (List.mem_of_getElem? (i := 22) rfl))) (by decide) (t := .long) (t' := (.array (.array (.array .double)))) (by decide) (by decide)))
  have f7_4 := f6_3.other W7 (Or.inr (slot_ne (Or.inr (hw _ (List.mem_of_getElem? (i := 25) rfl))) (Or.inr (hw _ (List.mem_of_getElem? (i := 22) rfl))) (by decide) (t := (.array .long)) (t' := (.array (.array (.array .double)))) (by decide) (by decide)))
  have f7_3 := f6_2.other W7 (Or.inr (slot_ne (Or.inr (hw _ (List.mem_of_getElem? (i := 27) rfl))) (Or.inr (hw _ (List.mem_of_getElem? (i := 22) rfl))) (by decide) (t := (.array .double)) (t' := (.array (.array (.array .double)))) (by decide) (by decide)))
  have f7_2 := f6_1.wr W7
  have f7_1 := M6.wr W7
  have K7 := (K6).wr W7 (Or.inl (List.mem_of_getElem? (i := 0) rfl))
  have Z7 := Nat.le_trans Z6 (Keep.of_wr W7).1
  have Fw7 := f6_5.same W7
  have N7 := Fr.snoc X7 N5 g_ob
  refine own_pre st7 ?_
  show OwnGoes p e below _ (T7.setTop (mkF m 38 #[.val (.ref ob), .val (.int (3 : Int32))] []))
  refine own_pre (fun _ kz_ => XS.aloadN X7.here hx rfl (hb hby d1_38) rfl rfl kz_) ?_
  show OwnGoes p e below _ (T7.setTop (mkF m 39 #[.val (.ref ob), .val (.int (3 : Int32))] [(.ref ob)]))
  refine own_pre (fun _ kz_ => XS.iloadN X7.here hx rfl (hb hby d1_39) rfl kz_) ?_
  show OwnGoes p e below _ (T7.setTop (mkF m 40 #[.val (.ref ob), .val (.int (3 : Int32))] [(.int (3 : Int32)), (.ref ob)]))
  obtain ⟨T8, h8, X8, e8, E8, V8, st8⟩ := own_newa X7 hx hZ (hw _ (List.mem_of_getElem? (i := 23) rfl)) e7 (g := (mkF m 40 #[.val (.ref ob), .val (.int (3 : Int32))] [(.int (3 : Int32)), (.ref ob)])) rfl (hb hby d1_40) rfl (by decide) (cap := 3) (by decide) (by decide) (by decide) (by decide)
  obtain ⟨lc, g8⟩ : ∃ z, z = h7.size := ⟨_, rfl⟩
  rw [← g8] at V8 st8
  have g_lc : n0 ≤ lc := Nat.le_trans Z7 (Nat.le_of_eq g8.symm)
  have sz_lc : h0.size ≤ lc := Nat.le_trans (K7).1 (Nat.le_of_eq g8.symm)
  have ne_ob_lc : ob ≠ lc := Nat.ne_of_lt (Nat.lt_of_lt_of_le f7_10.lt (Nat.le_of_eq g8.symm))
  have f8_10 := f7_10.ext E8
  have f8_9 := f7_9.ext E8
  have f8_8 := f7_8.ext E8
  have f8_7 := f7_7.ext E8
  have f8_6 := Fw7.ext E8
  have f8_5 := f7_5.ext E8
  have f8_4 := f7_4.ext E8
  have f8_3 := f7_3.ext E8
  have f8_2 := f7_2.ext E8
  have f8_1 := f7_1.ext E8
  have K8 := (K7).ext E8
  have Z8 := Nat.le_trans Z7 E8.1
  have Va8 : OwnA Z h8 lc .long [(.long (0 : Int64)), (.long (0 : Int64)), (.long (0 : Int64))] := V8
  refine own_pre st8 ?_
  show OwnGoes p e below _ (T8.setTop (mkF m 42 #[.val (.ref ob), .val (.int (3 : Int32))] [(.ref lc), (.ref ob)]))
  obtain rfl : lc = B + 17 := g8.trans ((own_wrsz W7).trans s6)
  have OL : OwnL Z h8 ob B (fun _ => 0) := ⟨f8_2.1, Va8⟩
  show OwnGoes p e below _ (T8.setTop (mkF m 42 #[.val (.ref ob), .val (.int (3 : Int32))] [(.ref (B + 17)), (.ref ob)]))
  obtain ⟨T9, h9, X9, e9, W9, st9⟩ := putF X8 hx hZ hown (host := "") (Or.inl (hw _ (List.mem_of_getElem? (i := 24) rfl))) Via.refl e8 f8_4 f8_10 (Or.inr ⟨(hw _ (List.mem_of_getElem? (i := 25) rfl)), rfl, hnm⟩) (hw _ (List.mem_of_getElem? (i := 2) rfl)) (ty := (.array .long)) (by decide) rfl rfl (g := (mkF m 42 #[.val (.ref ob), .val (.int (3 : Int32))] [(.ref (B + 17)), (.ref ob)])) rfl rfl (hb hby d1_42)
  have f9_11 := f8_10.wr W9
  have f9_10 := f8_9.other W9 (Or.inr (slot_ne (Or.inl (hw _ (List.mem_of_getElem? (i := 11) rfl))) (Or.inr (hw _ (List.mem_of_getElem? (i := 25) rfl))) (by decide) (t := .int) (t' := (.array .long)) (by decide) (by decide)))
  have f9_9 := f8_8.other W9 (Or.inr (slot_ne (Or.inl (hw _ (List.mem_of_getElem? (i := 13) rfl))) (Or.inr (hw _ (List.mem_of_getElem? (i := 25) rfl))) (by decide) (t := .int) (t' := (.array .long)) (by decide) (by decide)))
  have f9_8 := f8_7.other W9 (Or.inr (slot_ne (Or.inr (hw _ (List.mem_of_getElem? (i := 18) rfl))) (Or.inr (hw _ (List.mem_of_getElem? (i := 25) rfl))) (by decide) (t := (.array (.array .double))) (t' := (.array .long)) (by decide) (by decide)))
  have f9_7 := f8_6.other W9 (Or.inr (slot_ne (Or.inr (hw _ (List.mem_of_getElem? (i := 22) rfl))) (Or.inr (hw _ (List.mem_of_getElem? (i := 25) rfl))) (by decide) (t := (.array (.array (.array .double)))) (t' := (.array .long)) (by decide) (by decide)))
  have f9_6 := f8_5.other W9 (Or.inr (slot_ne (Or.inl (hw _ (List.mem_of_getElem? (i := 51) rfl))) (Or.inr (hw _ (List.mem_of_getElem? (i := 25) rfl))) (by decide) (t := .long) (t' := (.array .long)) (by decide) (by decide)))
  have f9_4 := f8_3.other W9 (Or.inr (slot_ne (Or.inr (hw _ (List.mem_of_getElem? (i := 27) rfl))) (Or.inr (hw _ (List.mem_of_getElem? (i := 25) rfl))) (by decide) (t := (.array .double)) (t' := (.array .long)) (by decide) (by decide)))
  have f9_3 := f8_2.wr W9
  have f9_2 := f8_1.wr W9
  have f9_1 := OL.wr W9
  have K9 := (K8).wr W9 (Or.inl (List.mem_of_getElem? (i := 0) rfl))
  have Z9 := Nat.le_trans Z8 (Keep.of_wr W9).1
  have Fw9 := f8_4.same W9
  have N9 := Fr.snoc X9 N7 g_ob
  refine own_pre st9 ?_
  show OwnGoes p e below _ (T9.setTop (mkF m 45 #[.val (.ref ob), .val (.int (3 : Int32))] []))
  refine own_pre (fun _ kz_ => XS.aloadN X9.here hx rfl (hb hby d1_45) rfl rfl kz_) ?_
  show OwnGoes p e below _ (T9.setTop (mkF m 46 #[.val (.ref ob), .val (.int (3 : Int32))] [(.ref ob)]))
  refine own_pre (fun _ kz_ => XS.iloadN X9.here hx rfl (hb hby d1_46) rfl kz_) ?_
  show OwnGoes p e below _ (T9.setTop (mkF m 47 #[.val (.ref ob), .val (.int (3 : Int32))] [(.int (3 : Int32)), (.ref ob)]))
  obtain ⟨T10, h10, X10, e10, E10, V10, st10⟩ := own_newa X9 hx hZ (hw _ (List.mem_of_getElem? (i := 16) rfl)) e9 (g := (mkF m 47 #[.val (.ref ob), .val (.int (3 : Int32))] [(.int (3 : Int32)), (.ref ob)])) rfl (hb hby d1_47) rfl (by decide) (cap := 3) (by decide) (by decide) (by decide) (by decide)
  obtain ⟨sc, g10⟩ : ∃ z, z = h9.size := ⟨_, rfl⟩
  rw [← g10] at V10 st10
  have g_sc : n0 ≤ sc := Nat.le_trans Z9 (Nat.le_of_eq g10.symm)
  have sz_sc : h0.size ≤ sc := Nat.le_trans (K9).1 (Nat.le_of_eq g10.symm)
  have ne_ob_sc : ob ≠ sc := Nat.ne_of_lt (Nat.lt_of_lt_of_le f9_11.lt (Nat.le_of_eq g10.symm))
  have f10_11 := f9_11.ext E10
  have f10_10 := f9_10.ext E10
  have f10_9 := f9_9.ext E10
  have f10_8 := f9_8.ext E10
  have f10_7 := f9_7.ext E10
  have f10_6 := f9_6.ext E10
  have f10_5 := Fw9.ext E10
  have f10_4 := f9_4.ext E10
  have f10_3 := f9_3.ext E10
  have f10_2 := f9_2.ext E10
  have f10_1 := f9_1.ext E10
  have K10 := (K9).ext E10
  have Z10 := Nat.le_trans Z9 E10.1
  have Va10 : OwnA Z h10 sc .double [(.double (0 : UInt64)), (.double (0 : UInt64)), (.double (0 : UInt64))] := V10
  refine own_pre st10 ?_
  show OwnGoes p e below _ (T10.setTop (mkF m 49 #[.val (.ref ob), .val (.int (3 : Int32))] [(.ref sc), (.ref ob)]))
  obtain ⟨T11, h11, X11, e11, W11, st11⟩ := putF X10 hx hZ hown (host := "") (Or.inl (hw _ (List.mem_of_getElem? (i := 26) rfl))) Via.refl e10 f10_4 f10_11 (Or.inr ⟨(hw _ (List.mem_of_getElem? (i := 27) rfl)), rfl, hnm⟩) (hw _ (List.mem_of_getElem? (i := 2) rfl)) (ty := (.array .double)) (by decide) rfl rfl (g := (mkF m 49 #[.val (.ref ob), .val (.int (3 : Int32))] [(.ref sc), (.ref ob)])) rfl rfl (hb hby d1_49)
  have f11_11 := f10_11.wr W11
  have f11_10 := f10_10.other W11 (Or.inr (slot_ne (Or.inl (hw _ (List.mem_of_getElem? (i := 11) rfl))) (Or.inr (hw _ (List.mem_of_getElem? (i := 27) rfl))) (by decide) (t := .int) (t' := (.array .double)) (by decide) (by decide)))
  have f11_9 := f10_9.other W11 (Or.inr (slot_ne (Or.inl (hw _ (List.mem_of_getElem? (i := 13) rfl))) (Or.inr (hw _ (List.mem_of_getElem? (i := 27) rfl))) (by decide) (t := .int) (t' := (.array .double)) (by decide) (by decide)))
  have f11_8 := f10_8.other W11 (Or.inr (slot_ne (Or.inr (hw _ (List.mem_of_getElem? (i := 18) rfl))) (Or.inr (hw _ (List.mem_of_getElem? (i := 27) rfl))) (by decide) (t := (.array (.array .double))) (t' := (.array .double)) (by decide) (by decide)))
  have f11_7 := f10_7.other W11 (Or.inr (slot_ne (Or.inr (hw _ (List.mem_of_getElem? (i := 22) rfl))) (Or.inr (hw _ (List.mem_of_getElem? (i := 27) rfl))) (by decide) (t := (.array (.array (.array .double)))) (t' := (.array .double)) (by decide) (by decide)))
  have f11_6 := f10_6.other W11 (Or.inr (slot_ne (Or.inl (hw _ (List.mem_of_getElem? (i := 51) rfl))) (Or.inr (hw _ (List.mem_of_getElem? (i := 27) rfl))) (by decide) (t := .long) (t' := (.array .double)) (by decide) (by decide)))
  have f11_5 := f10_5.other W11 (Or.inr (slot_ne (Or.inr (hw _ (List.mem_of_getElem? (i := 25) rfl))) (Or.inr (hw _ (List.mem_of_getElem? (i := 27) rfl))) (by decide) (t := (.array .long)) (t' := (.array .double)) (by decide) (by decide)))
  have f11_3 := f10_3.wr W11
  have f11_2 := f10_2.wr W11
  have f11_1 := f10_1.wr W11
  have K11 := (K10).wr W11 (Or.inl (List.mem_of_getElem? (i := 0) rfl))
  have Z11 := Nat.le_trans Z10 (Keep.of_wr W11).1
  have Fw11 := f10_4.same W11
  have N11 := Fr.snoc X11 N9 g_ob
  refine own_pre st11 ?_
  show OwnGoes p e below _ (T11.setTop (mkF m 52 #[.val (.ref ob), .val (.int (3 : Int32))] []))
  exact own_retV X11 hx Bd.returns Bd.notSynchronized (hb hby d1_52) ⟨rfl, N11, B, by rw [e11]; exact ⟨f11_11, f11_10, f11_9, f11_8, f11_7, f11_6, f11_5, OwnAr.of f11_3 f11_2 f11_1.2, g_ob⟩⟩ (by decide) (by decide)
def QAdd (Z : State) (b : Nat) (v_ : UInt64) (gf : Nat → UInt64) (h0 : Heap) (n0 : Nat) (v : Option Value) (h : Heap) (L : List Loc) : Prop := v = none ∧ Fr n0 L ∧ Keep h0 h [b] ∧ OwnA Z h b .double (own_vals (own_upd v_ gf 100))
theorem own_le99 {i : Nat} (h : i < 100) : ¬ (99 : Int32) < Int32.ofNat i := fun q => by
  have q2 := Int32.lt_iff_toInt_lt.mp q
  rw [Int32.toInt_ofNat_small (by omega)] at q2
  have e : (99 : Int32).toInt = 99 := rfl
  omega
set_option maxRecDepth 65536 in
set_option maxHeartbeats 40000000 in
theorem rmAdd (l : Launch) (Z : State) (a0 : Array Value) (hw : ∀ d ∈ tables_1, d.before a0 Z = true) (ws : List Jvm.Cond) (b : Nat) (v_ : UInt64) (gf : Nat → UInt64) (K_ : Nat) (h0 : Heap) (n0 : Nat) (Z0 : n0 ≤ h0.size) (VA : OwnA Z h0 b .double (own_vals gf)) (hv : Jvm.Free.Fl.Mag64 1056 v_) (hg : ∀ i, Jvm.Free.Fl.Mag64 K_ (gf i)) (hK1 : 1056 ≤ K_) (hK2 : K_ ≤ 1500) (g_b : n0 ≤ b) :
    MetFree l (⟨"com/example/hyperloom/hyperloom/hyperheuristic/ChoiceFunction", "add", "([DD)V"⟩ : MethodName) (head1 (Jvm.Cond.code (⟨"com/example/hyperloom/hyperloom/hyperheuristic/ChoiceFunction", "add", "([DD)V"⟩ : MethodName) prog_45_method_7_code 4 none :: ws) ({ frames := 0, cells := 0, slots := 0, locals := 0 } : Room)) (fun a U => a = #[(.ref b), (.double v_)] ∧ Z.Warmed39 U.vm ∧ U.heap = h0) (fun _ _ _ _ _ => True) (fun _ Uw_ ow_ Ue_ => ∃ vw_ Lw_, ow_ = .returned vw_ ∧ QAdd Z b v_ gf h0 n0 vw_ Ue_.heap Lw_ ∧ FrameEnd Uw_ ow_ Ue_ Lw_ ({ frames := 0, cells := 0, slots := 0, locals := 0 } : Room).cells ({ frames := 0, cells := 0, slots := 0, locals := 0 } : Room).slots) := by
  refine MetFree.of_bodySF (plainFor_of_name (by first | (simp [plainName, overriddenIn]; done) | decide +kernel)) hisR ?_
  intro p e s m args below meth c s₁ Bd hml0 hP hK
  obtain ⟨rfl, hZ, hh⟩ := hP
  have hx := Bd.exec
  have hby := Bd.bytes
  have hml : c.maxLocals = 4 := hml0
  have hown : s.vm.findClass "com/example/hyperloom/hyperloom/hyperheuristic/ChoiceFunction" = some m.cls := findClass_of_methodNamed Bd.named
  have hnm := (name_of_methodNamed Bd.named Bd.method).1
  have X0 : Stand p l e ({ frames := 0, cells := 0, slots := 0, locals := 0 } : Room) s m #[(.ref b), (.double v_)] below meth c s₁ [] 0 0 := Stand.of_body Bd
  have e0 : s₁.heap = h0 := by rw [← hh, Bd.state]; rfl
  have N0 := Fr.nil n0
  have ef : entryFrame m #[(.ref b), (.double v_)] 4 = (mkF m 0 #[.val (.ref b), .val (.double v_), .second, .unset] []) := by first | (simp [entryFrame, mkF, argsToLocals, Value.category]; done) | rfl
  show OwnGoes p e below (fun ow_ Ue_ => ∃ vw_ Lw_, ow_ = .returned vw_ ∧ QAdd Z b v_ gf h0 n0 vw_ Ue_.heap Lw_ ∧ FrameEnd s ow_ Ue_ Lw_ ({ frames := 0, cells := 0, slots := 0, locals := 0 } : Room).cells ({ frames := 0, cells := 0, slots := 0, locals := 0 } : Room).slots) (s₁.setTop (entryFrame m #[(.ref b), (.double v_)] 4))
  refine own_pre (fun t k => castTop ef k) ?_
  have loop : ∀ (k i : Nat) (Tj : State) (hj : Heap) (lj : List Loc) (Xj : Stand p l e ({ frames := 0, cells := 0, slots := 0, locals := 0 } : Room) s m #[(.ref b), (.double v_)] below meth c Tj lj 0 0) (ej : Tj.heap = hj) (Nj : Fr n0 lj) (Zj : n0 ≤ hj.size) (Kj : Keep h0 hj [b]) (Vj : OwnA Z hj b .double (own_vals (own_upd v_ gf i))) (hk : i + k = 100) (h1i : 1 ≤ i), OwnGoes p e below (fun ow_ Ue_ => ∃ vw_ Lw_, ow_ = .returned vw_ ∧ QAdd Z b v_ gf h0 n0 vw_ Ue_.heap Lw_ ∧ FrameEnd s ow_ Ue_ Lw_ ({ frames := 0, cells := 0, slots := 0, locals := 0 } : Room).cells ({ frames := 0, cells := 0, slots := 0, locals := 0 } : Room).slots) (Tj.setTop (mkF m 2 #[.val (.ref b), .val (.double v_), .second, .val (.int (Int32.ofNat i))] [])) := by
    intro k
    induction k with
    | zero =>
      intro i Tj hj lj Xj ej Nj Zj Kj Vj hk h1i
      show OwnGoes p e below _ (Tj.setTop (mkF m 2 #[.val (.ref b), .val (.double v_), .second, .val (.int (Int32.ofNat i))] []))
      refine own_pre (fun _ kz_ => XS.iloadN Xj.here hx rfl (hb hby d7_2) rfl kz_) ?_
      show OwnGoes p e below _ (Tj.setTop (mkF m 3 #[.val (.ref b), .val (.double v_), .second, .val (.int (Int32.ofNat i))] [(.int (Int32.ofNat i))]))
      refine own_pre (fun _ kz_ => XS.bipush Xj.here hx rfl (hb hby d7_3) kz_) ?_
      show OwnGoes p e below _ (Tj.setTop (mkF m 5 #[.val (.ref b), .val (.double v_), .second, .val (.int (Int32.ofNat i))] [(.int (99 : Int32)), (.int (Int32.ofNat i))]))
      refine own_pre (fun _ kz_ => XS.icmpYes Xj.here hx rfl (pc0 := 5) (pc' := 29) rfl (hb hby d7_5) rfl (tlt (by rw [show i = 100 by omega]; decide : (99 : Int32) < (Int32.ofNat i))).2.2.1 (by decide) (by decide) kz_) ?_
      show OwnGoes p e below _ (Tj.setTop (mkF m 29 #[.val (.ref b), .val (.double v_), .second, .val (.int (Int32.ofNat i))] []))
      exact own_retV Xj hx Bd.returns Bd.notSynchronized (hb hby d7_29) ⟨rfl, Nj, by rw [ej]; exact Kj, by rw [ej, ← (show i = 100 by omega)]; exact Vj⟩ (by decide) (by decide)
    | succ k ih =>
      intro i Tj hj lj Xj ej Nj Zj Kj Vj hk h1i
      have hi100 : i < 100 := by omega
      show OwnGoes p e below _ (Tj.setTop (mkF m 2 #[.val (.ref b), .val (.double v_), .second, .val (.int (Int32.ofNat i))] []))
      refine own_pre (fun _ kz_ => XS.iloadN Xj.here hx rfl (hb hby d7_2) rfl kz_) ?_
      show OwnGoes p e below _ (Tj.setTop (mkF m 3 #[.val (.ref b), .val (.double v_), .second, .val (.int (Int32.ofNat i))] [(.int (Int32.ofNat i))]))
      refine own_pre (fun _ kz_ => XS.bipush Xj.here hx rfl (hb hby d7_3) kz_) ?_
      show OwnGoes p e below _ (Tj.setTop (mkF m 5 #[.val (.ref b), .val (.double v_), .second, .val (.int (Int32.ofNat i))] [(.int (99 : Int32)), (.int (Int32.ofNat i))]))
      refine own_pre (fun _ kz_ => XS.icmpNo Xj.here hx rfl (hb hby d7_5) rfl (flt (own_le99 (by omega) : ¬ ((99 : Int32) < (Int32.ofNat i)))).2.2.1 kz_) ?_
      show OwnGoes p e below _ (Tj.setTop (mkF m 8 #[.val (.ref b), .val (.double v_), .second, .val (.int (Int32.ofNat i))] []))
      refine own_pre (fun _ kz_ => XS.aloadN Xj.here hx rfl (hb hby d7_8) rfl rfl kz_) ?_
      show OwnGoes p e below _ (Tj.setTop (mkF m 9 #[.val (.ref b), .val (.double v_), .second, .val (.int (Int32.ofNat i))] [(.ref b)]))
      refine own_pre (fun _ kz_ => XS.iloadN Xj.here hx rfl (hb hby d7_9) rfl kz_) ?_
      show OwnGoes p e below _ (Tj.setTop (mkF m 10 #[.val (.ref b), .val (.double v_), .second, .val (.int (Int32.ofNat i))] [(.int (Int32.ofNat i)), (.ref b)]))
      refine own_pre (fun _ kz_ => XS.dloadN Xj.here hx rfl (hb hby d7_10) rfl kz_) ?_
      show OwnGoes p e below _ (Tj.setTop (mkF m 11 #[.val (.ref b), .val (.double v_), .second, .val (.int (Int32.ofNat i))] [(.double v_), (.int (Int32.ofNat i)), (.ref b)]))
      refine own_pre (fun _ kz_ => XS.iloadN Xj.here hx rfl (hb hby d7_11) rfl kz_) ?_
      show OwnGoes p e below _ (Tj.setTop (mkF m 12 #[.val (.ref b), .val (.double v_), .second, .val (.int (Int32.ofNat i))] [(.int (Int32.ofNat i)), (.double v_), (.int (Int32.ofNat i)), (.ref b)]))
      refine own_pre (fun _ kz_ => XS.i2dS Xj.here hx rfl (hb hby d7_12) rfl rfl kz_) ?_
      show OwnGoes p e below _ (Tj.setTop (mkF m 13 #[.val (.ref b), .val (.double v_), .second, .val (.int (Int32.ofNat i))] [(.double (Jvm.FP.i2d (Int32.ofNat i))), (.double v_), (.int (Int32.ofNat i)), (.ref b)]))
      refine own_pre (fun _ kz_ => Xj.ldc2DoubleC hx hown (mvT hZ (hw _ (List.mem_of_getElem? (i := 33) rfl))) (g := (mkF m 13 #[.val (.ref b), .val (.double v_), .second, .val (.int (Int32.ofNat i))] [(.double (Jvm.FP.i2d (Int32.ofNat i))), (.double v_), (.int (Int32.ofNat i)), (.ref b)])) rfl (hb hby d7_13) _ kz_) ?_
      show OwnGoes p e below _ (Tj.setTop (mkF m 16 #[.val (.ref b), .val (.double v_), .second, .val (.int (Int32.ofNat i))] [(.double (4636737291354636288 : UInt64)), (.double (Jvm.FP.i2d (Int32.ofNat i))), (.double v_), (.int (Int32.ofNat i)), (.ref b)]))
      refine own_pre (fun _ kz_ => XS.ddivS Xj.here hx rfl (hb hby d7_16) rfl (own_nn1 _) rfl kz_) ?_
      show OwnGoes p e below _ (Tj.setTop (mkF m 17 #[.val (.ref b), .val (.double v_), .second, .val (.int (Int32.ofNat i))] [(.double (Jvm.FP.ddiv (Jvm.FP.i2d (Int32.ofNat i)) (4636737291354636288 : UInt64))), (.double v_), (.int (Int32.ofNat i)), (.ref b)]))
      refine own_pre (fun _ kz_ => XS.aloadN Xj.here hx rfl (hb hby d7_17) rfl rfl kz_) ?_
      show OwnGoes p e below _ (Tj.setTop (mkF m 18 #[.val (.ref b), .val (.double v_), .second, .val (.int (Int32.ofNat i))] [(.ref b), (.double (Jvm.FP.ddiv (Jvm.FP.i2d (Int32.ofNat i)) (4636737291354636288 : UInt64))), (.double v_), (.int (Int32.ofNat i)), (.ref b)]))
      refine own_pre (fun _ kz_ => XS.iloadN Xj.here hx rfl (hb hby d7_18) rfl kz_) ?_
      show OwnGoes p e below _ (Tj.setTop (mkF m 19 #[.val (.ref b), .val (.double v_), .second, .val (.int (Int32.ofNat i))] [(.int (Int32.ofNat i)), (.ref b), (.double (Jvm.FP.ddiv (Jvm.FP.i2d (Int32.ofNat i)) (4636737291354636288 : UInt64))), (.double v_), (.int (Int32.ofNat i)), (.ref b)]))
      refine own_pre (own_dald Xj hx hZ ej Vj (j := (Int32.ofNat i)) (v := (.double (gf i))) (Int32.ofNat_not_neg (by omega)) ((own_vat _ hi100).trans (congrArg (fun z => some (Value.double z)) (own_updI v_ gf i))) (g := (mkF m 19 #[.val (.ref b), .val (.double v_), .second, .val (.int (Int32.ofNat i))] [(.int (Int32.ofNat i)), (.ref b), (.double (Jvm.FP.ddiv (Jvm.FP.i2d (Int32.ofNat i)) (4636737291354636288 : UInt64))), (.double v_), (.int (Int32.ofNat i)), (.ref b)])) rfl rfl (hb hby d7_19)) ?_
      show OwnGoes p e below _ (Tj.setTop (mkF m 20 #[.val (.ref b), .val (.double v_), .second, .val (.int (Int32.ofNat i))] [(.double (gf i)), (.double (Jvm.FP.ddiv (Jvm.FP.i2d (Int32.ofNat i)) (4636737291354636288 : UInt64))), (.double v_), (.int (Int32.ofNat i)), (.ref b)]))
      refine own_pre (fun _ kz_ => XS.dmulS Xj.here hx rfl (hb hby d7_20) rfl (own_nnM (own_mag2 (Int32.ofNat i) (hg i) hK1 hK2) (by omega)) rfl kz_) ?_
      show OwnGoes p e below _ (Tj.setTop (mkF m 21 #[.val (.ref b), .val (.double v_), .second, .val (.int (Int32.ofNat i))] [(.double (Jvm.FP.dmul (Jvm.FP.ddiv (Jvm.FP.i2d (Int32.ofNat i)) (4636737291354636288 : UInt64)) (gf i))), (.double v_), (.int (Int32.ofNat i)), (.ref b)]))
      refine own_pre (fun _ kz_ => XS.daddS Xj.here hx rfl (hb hby d7_21) rfl (own_nnM (own_mag3 i hv (hg i) hK1 hK2) (by omega)) rfl kz_) ?_
      show OwnGoes p e below _ (Tj.setTop (mkF m 22 #[.val (.ref b), .val (.double v_), .second, .val (.int (Int32.ofNat i))] [(.double (own_term v_ i (gf i))), (.int (Int32.ofNat i)), (.ref b)]))
      obtain ⟨T1, h1, X1, e1, W1, V1, st1⟩ := own_dst Xj hx hZ ej Vj (j := (Int32.ofNat i)) (Int32.ofNat_not_neg (by omega)) (by rw [own_vlen, XT.n32 (by omega)]; exact hi100) (g := (mkF m 22 #[.val (.ref b), .val (.double v_), .second, .val (.int (Int32.ofNat i))] [(.double (own_term v_ i (gf i))), (.int (Int32.ofNat i)), (.ref b)])) rfl rfl (hb hby d7_22)
      have K1 := (Kj).wr W1 (Or.inl (List.mem_of_getElem? (i := 0) rfl))
      have Z1 := Nat.le_trans Zj (Keep.of_wr W1).1
      have N1 := Fr.snoc X1 Nj g_b
      refine own_pre st1 ?_
      show OwnGoes p e below _ (T1.setTop (mkF m 23 #[.val (.ref b), .val (.double v_), .second, .val (.int (Int32.ofNat i))] []))
      refine own_pre (fun _ kz_ => XS.iinc X1.here hx rfl (hb hby d7_23) rfl (l' := #[.val (.ref b), .val (.double v_), .second, .val (.int ((Int32.ofNat i) + (1 : Int32)))]) rfl kz_) ?_
      show OwnGoes p e below _ (T1.setTop (mkF m 26 #[.val (.ref b), .val (.double v_), .second, .val (.int ((Int32.ofNat i) + (1 : Int32)))] []))
      refine own_pre (fun _ kz_ => XS.goto X1.here hx rfl (pc0 := 26) (pc' := 2) rfl (hb hby d7_26) (by decide) (by decide) kz_) ?_
      show OwnGoes p e below _ (T1.setTop (mkF m 2 #[.val (.ref b), .val (.double v_), .second, .val (.int ((Int32.ofNat i) + (1 : Int32)))] []))
      rw [XT.succ32]
      exact ih (i + 1) _ _ _ X1 e1 N1 Z1 K1 (by have q := V1; rw [XT.n32 (by omega), own_vset, own_updS v_ gf h1i] at q; exact q) (by omega) (by omega)
  show OwnGoes p e below _ (s₁.setTop (mkF m 0 #[.val (.ref b), .val (.double v_), .second, .unset] []))
  refine own_pre (fun _ kz_ => XS.iconst X0.here hx rfl (hb hby d7_0) kz_) ?_
  show OwnGoes p e below _ (s₁.setTop (mkF m 1 #[.val (.ref b), .val (.double v_), .second, .unset] [(.int (1 : Int32))]))
  refine own_pre (fun _ kz_ => XS.istoreN X0.here hx rfl (hb hby d7_1) rfl (l' := #[.val (.ref b), .val (.double v_), .second, .val (.int (1 : Int32))]) rfl kz_) ?_
  show OwnGoes p e below _ (s₁.setTop (mkF m 2 #[.val (.ref b), .val (.double v_), .second, .val (.int (1 : Int32))] []))
  exact loop 99 1 _ _ _ X0 e0 N0 Z0 (Keep.refl _ _) (by rw [own_upd1]; exact VA) rfl (Nat.le_refl _)
def QRec0 (Z : State) (ob B jn : Nat) (z mu : Int32) (cl : Int64) (lst : Nat → Int64) (cont : Nat → Nat → UInt64) (h0 : Heap) (n0 : Nat) (v : Option Value) (h : Heap) (L : List Loc) : Prop := v = none ∧ Fr n0 L ∧ OwnCF Z n0 h ob B (Int32.ofNat jn) (own_next mu z) (cl + 1) (fun i => if i = jn then cl + 1 else lst i) (own_c0 cont (1 + jn) (Jvm.FP.i2d z))
set_option maxRecDepth 65536 in
set_option maxHeartbeats 40000000 in
theorem rmRec0 (l : Launch) (Z : State) (a0 : Array Value) (hw : ∀ d ∈ tables_1, d.before a0 Z = true) (ws : List Jvm.Cond) (ob B jn : Nat) (z mu : Int32) (cl : Int64) (lst : Nat → Int64) (cont : Nat → Nat → UInt64) (K_ : Nat) (h0 : Heap) (n0 : Nat) (Z0 : n0 ≤ h0.size) (I0 : OwnCF Z n0 h0 ob B (-1 : Int32) mu cl lst cont) (hj : jn < 3) (hm : ∀ x i, Jvm.Free.Fl.Mag64 K_ (cont x i)) (hK1 : 1056 ≤ K_) (hK2 : K_ ≤ 1400) :
    MetFree l (⟨"com/example/hyperloom/hyperloom/hyperheuristic/ChoiceFunction", "record", "(ID)V"⟩ : MethodName) (head1 (Jvm.Cond.code (⟨"com/example/hyperloom/hyperloom/hyperheuristic/ChoiceFunction", "record", "(ID)V"⟩ : MethodName) prog_45_method_6_code 4 none :: ws) ({ frames := 1, cells := 0, slots := 0, locals := 18 } : Room)) (fun a U => a = #[(.ref ob), (.int (Int32.ofNat jn)), (.double (Jvm.FP.i2d z))] ∧ Z.Warmed39 U.vm ∧ U.heap = h0) (fun _ _ _ _ _ => True) (fun _ Uw_ ow_ Ue_ => ∃ vw_ Lw_, ow_ = .returned vw_ ∧ QRec0 Z ob B jn z mu cl lst cont h0 n0 vw_ Ue_.heap Lw_ ∧ FrameEnd Uw_ ow_ Ue_ Lw_ ({ frames := 1, cells := 0, slots := 0, locals := 18 } : Room).cells ({ frames := 1, cells := 0, slots := 0, locals := 18 } : Room).slots) := by
  refine MetFree.of_bodySF (plainFor_of_name (by first | (simp [plainName, overriddenIn]; done) | decide +kernel)) hisR ?_
  intro p e s m args below meth c s₁ Bd hml0 hP hK
  obtain ⟨rfl, hZ, hh⟩ := hP
  have hx := Bd.exec
  have hby := Bd.bytes
  have hml : c.maxLocals = 4 := hml0
  have hown : s.vm.findClass "com/example/hyperloom/hyperloom/hyperheuristic/ChoiceFunction" = some m.cls := findClass_of_methodNamed Bd.named
  have hnm := (name_of_methodNamed Bd.named Bd.method).1
  have X0 : Stand p l e ({ frames := 1, cells := 0, slots := 0, locals := 18 } : Room) s m #[(.ref ob), (.int (Int32.ofNat jn)), (.double (Jvm.FP.i2d z))] below meth c s₁ [] 0 0 := Stand.of_body Bd
  have e0 : s₁.heap = h0 := by rw [← hh, Bd.state]; rfl
  have N0 := Fr.nil n0
  have ef : entryFrame m #[(.ref ob), (.int (Int32.ofNat jn)), (.double (Jvm.FP.i2d z))] 4 = (mkF m 0 #[.val (.ref ob), .val (.int (Int32.ofNat jn)), .val (.double (Jvm.FP.i2d z)), .second] []) := by first | (simp [entryFrame, mkF, argsToLocals, Value.category]; done) | rfl
  show OwnGoes p e below (fun ow_ Ue_ => ∃ vw_ Lw_, ow_ = .returned vw_ ∧ QRec0 Z ob B jn z mu cl lst cont h0 n0 vw_ Ue_.heap Lw_ ∧ FrameEnd s ow_ Ue_ Lw_ ({ frames := 1, cells := 0, slots := 0, locals := 18 } : Room).cells ({ frames := 1, cells := 0, slots := 0, locals := 18 } : Room).slots) (s₁.setTop (entryFrame m #[(.ref ob), (.int (Int32.ofNat jn)), (.double (Jvm.FP.i2d z))] 4))
  refine own_pre (fun t k => castTop ef k) ?_
  obtain ⟨Eo, Fp, Fm, Fa, Ff, Fc, Fl, AR, g_ob⟩ := I0
  show OwnGoes p e below _ (s₁.setTop (mkF m 0 #[.val (.ref ob), .val (.int (Int32.ofNat jn)), .val (.double (Jvm.FP.i2d z)), .second] []))
  refine own_pre (fun _ kz_ => XS.aloadN X0.here hx rfl (hb hby d6_0) rfl rfl kz_) ?_
  show OwnGoes p e below _ (s₁.setTop (mkF m 1 #[.val (.ref ob), .val (.int (Int32.ofNat jn)), .val (.double (Jvm.FP.i2d z)), .second] [(.ref ob)]))
  obtain ⟨T1, X1, e1, st1⟩ := getF X0 hx hZ hown (host := "") (Or.inl (hw _ (List.mem_of_getElem? (i := 17) rfl))) Via.refl e0 Fa (g := (mkF m 1 #[.val (.ref ob), .val (.int (Int32.ofNat jn)), .val (.double (Jvm.FP.i2d z)), .second] [(.ref ob)])) rfl rfl (hb hby d6_1)
  refine own_pre st1 ?_
  show OwnGoes p e below _ (T1.setTop (mkF m 4 #[.val (.ref ob), .val (.int (Int32.ofNat jn)), .val (.double (Jvm.FP.i2d z)), .second] [(.ref B)]))
  refine own_pre (fun _ kz_ => XS.iloadN X1.here hx rfl (hb hby d6_4) rfl kz_) ?_
  show OwnGoes p e below _ (T1.setTop (mkF m 5 #[.val (.ref ob), .val (.int (Int32.ofNat jn)), .val (.double (Jvm.FP.i2d z)), .second] [(.int (Int32.ofNat jn)), (.ref B)]))
  refine own_pre (own_aald X1 hx hZ e1 (AR).2.1 rfl (v := (.ref (B + (1 + jn)))) (Int32.ofNat_not_neg (by omega)) (own_r3at _ hj) (g := (mkF m 5 #[.val (.ref ob), .val (.int (Int32.ofNat jn)), .val (.double (Jvm.FP.i2d z)), .second] [(.int (Int32.ofNat jn)), (.ref B)])) rfl rfl (hb hby d6_5)) ?_
  show OwnGoes p e below _ (T1.setTop (mkF m 6 #[.val (.ref ob), .val (.int (Int32.ofNat jn)), .val (.double (Jvm.FP.i2d z)), .second] [(.ref (B + (1 + jn)))]))
  refine own_pre (fun _ kz_ => XS.dloadN X1.here hx rfl (hb hby d6_6) rfl kz_) ?_
  show OwnGoes p e below _ (T1.setTop (mkF m 7 #[.val (.ref ob), .val (.int (Int32.ofNat jn)), .val (.double (Jvm.FP.i2d z)), .second] [(.double (Jvm.FP.i2d z)), (.ref (B + (1 + jn)))]))
  obtain ⟨_, _, ⟨T2, L2, k2, n2⟩, -, X2, ⟨Lc2, hQ2, l2, y2, z2⟩, st2⟩ := Jvm.LawKit.callS X1 hx (y := (⟨"com/example/hyperloom/hyperloom/hyperheuristic/ChoiceFunction", "add", "([DD)V"⟩ : MethodName)) hown (mvT hZ (hw _ (List.mem_of_getElem? (i := 47) rfl))) (mvT hZ (hw _ (List.mem_of_getElem? (i := 48) rfl))) (mvT hZ (hw _ (List.mem_of_getElem? (i := 3) rfl))) (mvT hZ (hw _ (List.mem_of_getElem? (i := 49) rfl))) (by decide) (backOf (W := 0) (rmAdd l Z a0 hw [] (B + (1 + jn)) (Jvm.FP.i2d z) (cont (1 + jn)) K_ h0 n0 Z0 ((AR).2.2.2.2.2 _ (Or.inl ⟨by omega, by omega⟩)) (Jvm.Free.Fl.i2d_mag z) (hm _) hK1 (by omega) (Nat.le_trans (Nat.le_trans g_ob (Nat.le_of_lt AR.1)) (Nat.le_add_right _ _))) hZ (hw _ (List.mem_of_getElem? (i := 49) rfl)) (hw _ (List.mem_of_getElem? (i := 3) rfl)) (by decide) (by decide)) (g := (mkF m 7 #[.val (.ref ob), .val (.int (Int32.ofNat jn)), .val (.double (Jvm.FP.i2d z)), .second] [(.double (Jvm.FP.i2d z)), (.ref (B + (1 + jn)))])) rfl (by rw [hml]; rfl) (argsL := [(.ref (B + (1 + jn))), (.double (Jvm.FP.i2d z))]) (rest := []) (lenOf (d := "([DD)V") (ps := [(.array .double), .double]) (r := none) (by decide +kernel) rfl) rfl (by show 2 * 0 + _ ≤ _; exact Nat.le_of_eq rfl) (hb hby d6_7) (fun _ _ => ⟨rfl, e1, (by decide : 0 + 0 ≤ _), (by decide : 0 + 0 ≤ _)⟩)
  dsimp only [Pt.U, Pt.locs, Pt.cells, Pt.slots] at X2 l2 y2 z2 st2 hQ2
  subst l2 y2 z2
  obtain ⟨rfl, N2q, K2q, V2q⟩ := hQ2
  have N2 := Fr.app N0 N2q
  refine own_pre st2 ?_
  have f2_7 := Eo.keep K2q
  have f2_6 := Fp.keep K2q (fun q => (Nat.ne_of_lt (Nat.lt_of_lt_of_le AR.1 (Nat.le_add_right _ _))) (List.mem_singleton.mp q))
  have f2_5 := Fm.keep K2q (fun q => (Nat.ne_of_lt (Nat.lt_of_lt_of_le AR.1 (Nat.le_add_right _ _))) (List.mem_singleton.mp q))
  have f2_4 := Fa.keep K2q (fun q => (Nat.ne_of_lt (Nat.lt_of_lt_of_le AR.1 (Nat.le_add_right _ _))) (List.mem_singleton.mp q))
  have f2_3 := Ff.keep K2q (fun q => (Nat.ne_of_lt (Nat.lt_of_lt_of_le AR.1 (Nat.le_add_right _ _))) (List.mem_singleton.mp q))
  have f2_2 := Fc.keep K2q (fun q => (Nat.ne_of_lt (Nat.lt_of_lt_of_le AR.1 (Nat.le_add_right _ _))) (List.mem_singleton.mp q))
  have f2_1 := Fl.keep K2q (fun q => (Nat.ne_of_lt (Nat.lt_of_lt_of_le AR.1 (Nat.le_add_right _ _))) (List.mem_singleton.mp q))
  have Z2 := Nat.le_trans Z0 K2q.1
  have KK2 := ((Keep.refl h0 [(B + (1 + jn)), ob, ob, (B + 17)])).trans K2q (fun x hx => by simp only [List.mem_cons, List.not_mem_nil, or_false] at hx; rcases hx with rfl <;> first | exact Or.inl (List.mem_of_getElem? (i := 0) rfl) | exact Or.inl (List.mem_of_getElem? (i := 1) rfl) )
  have AR2 := (AR).dbl (Or.inl ⟨by omega, by omega⟩) K2q V2q
  show OwnGoes p e below _ (T2.setTop (mkF m 10 #[.val (.ref ob), .val (.int (Int32.ofNat jn)), .val (.double (Jvm.FP.i2d z)), .second] []))
  refine own_pre (fun _ kz_ => XS.aloadN X2.here hx rfl (hb hby d6_10) rfl rfl kz_) ?_
  show OwnGoes p e below _ (T2.setTop (mkF m 11 #[.val (.ref ob), .val (.int (Int32.ofNat jn)), .val (.double (Jvm.FP.i2d z)), .second] [(.ref ob)]))
  obtain ⟨T3, X3, e3, st3⟩ := getF X2 hx hZ hown (host := "") (Or.inl (hw _ (List.mem_of_getElem? (i := 10) rfl))) Via.refl rfl f2_6 (g := (mkF m 11 #[.val (.ref ob), .val (.int (Int32.ofNat jn)), .val (.double (Jvm.FP.i2d z)), .second] [(.ref ob)])) rfl rfl (hb hby d6_11)
  refine own_pre st3 ?_
  show OwnGoes p e below _ (T3.setTop (mkF m 14 #[.val (.ref ob), .val (.int (Int32.ofNat jn)), .val (.double (Jvm.FP.i2d z)), .second] [(.int (-1 : Int32))]))
  refine own_pre (fun _ kz_ => XS.ifYes X3.here hx rfl (pc0 := 14) (pc' := 32) rfl (hb hby d6_14) rfl ((if0 _ _).trans (tlt (by decide : (-1 : Int32) < (0 : Int32))).1) (by decide) (by decide) kz_) ?_
  show OwnGoes p e below _ (T3.setTop (mkF m 32 #[.val (.ref ob), .val (.int (Int32.ofNat jn)), .val (.double (Jvm.FP.i2d z)), .second] []))
  refine own_pre (fun _ kz_ => XS.aloadN X3.here hx rfl (hb hby d6_32) rfl rfl kz_) ?_
  show OwnGoes p e below _ (T3.setTop (mkF m 33 #[.val (.ref ob), .val (.int (Int32.ofNat jn)), .val (.double (Jvm.FP.i2d z)), .second] [(.ref ob)]))
  refine own_pre (fun _ kz_ => XS.dup X3.here hx rfl (hb hby d6_33) rfl rfl kz_) ?_
  show OwnGoes p e below _ (T3.setTop (mkF m 34 #[.val (.ref ob), .val (.int (Int32.ofNat jn)), .val (.double (Jvm.FP.i2d z)), .second] [(.ref ob), (.ref ob)]))
  obtain ⟨T4, X4, e4, st4⟩ := getF X3 hx hZ hown (host := "") (Or.inl (hw _ (List.mem_of_getElem? (i := 50) rfl))) Via.refl e3 f2_2 (g := (mkF m 34 #[.val (.ref ob), .val (.int (Int32.ofNat jn)), .val (.double (Jvm.FP.i2d z)), .second] [(.ref ob), (.ref ob)])) rfl rfl (hb hby d6_34)
  refine own_pre st4 ?_
  show OwnGoes p e below _ (T4.setTop (mkF m 37 #[.val (.ref ob), .val (.int (Int32.ofNat jn)), .val (.double (Jvm.FP.i2d z)), .second] [(.long cl), (.ref ob)]))
  refine own_pre (fun _ kz_ => XS.lconst X4.here hx rfl (hb hby d6_37) kz_) ?_
  show OwnGoes p e below _ (T4.setTop (mkF m 38 #[.val (.ref ob), .val (.int (Int32.ofNat jn)), .val (.double (Jvm.FP.i2d z)), .second] [(.long (1 : Int64)), (.long cl), (.ref ob)]))
  refine own_pre (fun _ kz_ => XS.ladd X4.here hx rfl (hb hby d6_38) rfl kz_) ?_
  show OwnGoes p e below _ (T4.setTop (mkF m 39 #[.val (.ref ob), .val (.int (Int32.ofNat jn)), .val (.double (Jvm.FP.i2d z)), .second] [(.long (cl + (1 : Int64))), (.ref ob)]))
  obtain ⟨T5, h5, X5, e5, W5, st5⟩ := putF X4 hx hZ hown (host := "") (Or.inl (hw _ (List.mem_of_getElem? (i := 50) rfl))) Via.refl e4 f2_2 f2_7 (Or.inl (hw _ (List.mem_of_getElem? (i := 51) rfl))) (hw _ (List.mem_of_getElem? (i := 2) rfl)) (ty := .long) (by decide) rfl rfl (g := (mkF m 39 #[.val (.ref ob), .val (.int (Int32.ofNat jn)), .val (.double (Jvm.FP.i2d z)), .second] [(.long (cl + (1 : Int64))), (.ref ob)])) rfl rfl (hb hby d6_39)
  have f5_8 := f2_7.wr W5
  have f5_7 := f2_6.other W5 (Or.inr (slot_ne (Or.inl (hw _ (List.mem_of_getElem? (i := 11) rfl))) (Or.inl (hw _ (List.mem_of_getElem? (i := 51) rfl))) (by decide) (t := .int) (t' := .long) (by decide) (by decide)))
  have f5_6 := f2_5.other W5 (Or.inr (slot_ne (Or.inl (hw _ (List.mem_of_getElem? (i := 13) rfl))) (Or.inl (hw _ (List.mem_of_getElem? (i := 51) rfl))) (by decide) (t := .int) (t' := .long) (by decide) (by decide)))
  have f5_5 := f2_4.other W5 (Or.inr (slot_ne (Or.inr (hw _ (List.mem_of_getElem? (i := 18) rfl))) (Or.inl (hw _ (List.mem_of_getElem? (i := 51) rfl))) (by decide) (t := (.array (.array .double))) (t' := .long) (by decide) (by decide)))
  have f5_4 := f2_3.other W5 (Or.inr (slot_ne (Or.inr (hw _ (List.mem_of_getElem? (i := 22) rfl))) (Or.inl (hw _ (List.mem_of_getElem? (i := 51) rfl))) (by decide) (t := (.array (.array (.array .double)))) (t' := .long) (by decide) (by decide)))
  have f5_2 := f2_1.other W5 (Or.inr (slot_ne (Or.inr (hw _ (List.mem_of_getElem? (i := 25) rfl))) (Or.inl (hw _ (List.mem_of_getElem? (i := 51) rfl))) (by decide) (t := (.array .long)) (t' := .long) (by decide) (by decide)))
  have f5_1 := AR2.wr W5
  have K5 := (KK2).wr W5 (Or.inl (List.mem_of_getElem? (i := 1) rfl))
  have Z5 := Nat.le_trans Z2 (Keep.of_wr W5).1
  have Fw5 := f2_2.same W5
  have N5 := Fr.snoc X5 N2 g_ob
  refine own_pre st5 ?_
  show OwnGoes p e below _ (T5.setTop (mkF m 42 #[.val (.ref ob), .val (.int (Int32.ofNat jn)), .val (.double (Jvm.FP.i2d z)), .second] []))
  refine own_pre (fun _ kz_ => XS.aloadN X5.here hx rfl (hb hby d6_42) rfl rfl kz_) ?_
  show OwnGoes p e below _ (T5.setTop (mkF m 43 #[.val (.ref ob), .val (.int (Int32.ofNat jn)), .val (.double (Jvm.FP.i2d z)), .second] [(.ref ob)]))
  obtain ⟨T6, X6, e6, st6⟩ := getF X5 hx hZ hown (host := "") (Or.inl (hw _ (List.mem_of_getElem? (i := 24) rfl))) Via.refl e5 f5_2 (g := (mkF m 43 #[.val (.ref ob), .val (.int (Int32.ofNat jn)), .val (.double (Jvm.FP.i2d z)), .second] [(.ref ob)])) rfl rfl (hb hby d6_43)
  refine own_pre st6 ?_
  show OwnGoes p e below _ (T6.setTop (mkF m 46 #[.val (.ref ob), .val (.int (Int32.ofNat jn)), .val (.double (Jvm.FP.i2d z)), .second] [(.ref (B + 17))]))
  refine own_pre (fun _ kz_ => XS.iloadN X6.here hx rfl (hb hby d6_46) rfl kz_) ?_
  show OwnGoes p e below _ (T6.setTop (mkF m 47 #[.val (.ref ob), .val (.int (Int32.ofNat jn)), .val (.double (Jvm.FP.i2d z)), .second] [(.int (Int32.ofNat jn)), (.ref (B + 17))]))
  refine own_pre (fun _ kz_ => XS.aloadN X6.here hx rfl (hb hby d6_47) rfl rfl kz_) ?_
  show OwnGoes p e below _ (T6.setTop (mkF m 48 #[.val (.ref ob), .val (.int (Int32.ofNat jn)), .val (.double (Jvm.FP.i2d z)), .second] [(.ref ob), (.int (Int32.ofNat jn)), (.ref (B + 17))]))
  obtain ⟨T7, X7, e7, st7⟩ := getF X6 hx hZ hown (host := "") (Or.inl (hw _ (List.mem_of_getElem? (i := 50) rfl))) Via.refl e6 Fw5 (g := (mkF m 48 #[.val (.ref ob), .val (.int (Int32.ofNat jn)), .val (.double (Jvm.FP.i2d z)), .second] [(.ref ob), (.int (Int32.ofNat jn)), (.ref (B + 17))])) rfl rfl (hb hby d6_48)
  refine own_pre st7 ?_
  show OwnGoes p e below _ (T7.setTop (mkF m 51 #[.val (.ref ob), .val (.int (Int32.ofNat jn)), .val (.double (Jvm.FP.i2d z)), .second] [(.long (cl + (1 : Int64))), (.int (Int32.ofNat jn)), (.ref (B + 17))]))
  obtain ⟨T8, h8, X8, e8, W8, V8, st8⟩ := own_jst X7 hx hZ e7 (f5_1).2.2.2.2.1 (j := (Int32.ofNat jn)) (Int32.ofNat_not_neg (by omega)) (by rw [XT.n32 (by omega)]; exact hj) (g := (mkF m 51 #[.val (.ref ob), .val (.int (Int32.ofNat jn)), .val (.double (Jvm.FP.i2d z)), .second] [(.long (cl + (1 : Int64))), (.int (Int32.ofNat jn)), (.ref (B + 17))])) rfl rfl (hb hby d6_51)
  have f8_7 := f5_8.wr W8
  have f8_6 := f5_7.other W8 (Or.inl (Nat.ne_of_lt (Nat.lt_of_lt_of_le AR.1 (Nat.le_add_right _ _))))
  have f8_5 := f5_6.other W8 (Or.inl (Nat.ne_of_lt (Nat.lt_of_lt_of_le AR.1 (Nat.le_add_right _ _))))
  have f8_4 := f5_5.other W8 (Or.inl (Nat.ne_of_lt (Nat.lt_of_lt_of_le AR.1 (Nat.le_add_right _ _))))
  have f8_3 := f5_4.other W8 (Or.inl (Nat.ne_of_lt (Nat.lt_of_lt_of_le AR.1 (Nat.le_add_right _ _))))
  have f8_2 := Fw5.other W8 (Or.inl (Nat.ne_of_lt (Nat.lt_of_lt_of_le AR.1 (Nat.le_add_right _ _))))
  have f8_1 := f5_2.other W8 (Or.inl (Nat.ne_of_lt (Nat.lt_of_lt_of_le AR.1 (Nat.le_add_right _ _))))
  have K8 := (K5).wr W8 (Or.inl (List.mem_of_getElem? (i := 3) rfl))
  have Z8 := Nat.le_trans Z5 (Keep.of_wr W8).1
  have AR8 := (f5_1).last W8 (by have q := V8; rw [own_l3set _ hj] at q; exact q)
  have N8 := Fr.snoc X8 N5 (Nat.le_trans (Nat.le_trans g_ob (Nat.le_of_lt AR.1)) (Nat.le_add_right _ _))
  refine own_pre st8 ?_
  show OwnGoes p e below _ (T8.setTop (mkF m 52 #[.val (.ref ob), .val (.int (Int32.ofNat jn)), .val (.double (Jvm.FP.i2d z)), .second] []))
  refine own_pre (fun _ kz_ => XS.aloadN X8.here hx rfl (hb hby d6_52) rfl rfl kz_) ?_
  show OwnGoes p e below _ (T8.setTop (mkF m 53 #[.val (.ref ob), .val (.int (Int32.ofNat jn)), .val (.double (Jvm.FP.i2d z)), .second] [(.ref ob)]))
  refine own_pre (fun _ kz_ => XS.iloadN X8.here hx rfl (hb hby d6_53) rfl kz_) ?_
  show OwnGoes p e below _ (T8.setTop (mkF m 54 #[.val (.ref ob), .val (.int (Int32.ofNat jn)), .val (.double (Jvm.FP.i2d z)), .second] [(.int (Int32.ofNat jn)), (.ref ob)]))
  obtain ⟨T9, h9, X9, e9, W9, st9⟩ := putF X8 hx hZ hown (host := "") (Or.inl (hw _ (List.mem_of_getElem? (i := 10) rfl))) Via.refl e8 f8_6 f8_7 (Or.inl (hw _ (List.mem_of_getElem? (i := 11) rfl))) (hw _ (List.mem_of_getElem? (i := 2) rfl)) (ty := .int) (by decide) rfl rfl (g := (mkF m 54 #[.val (.ref ob), .val (.int (Int32.ofNat jn)), .val (.double (Jvm.FP.i2d z)), .second] [(.int (Int32.ofNat jn)), (.ref ob)])) rfl rfl (hb hby d6_54)
  have f9_8 := f8_7.wr W9
  have f9_6 := f8_5.other W9 (Or.inr (slot_ne (Or.inl (hw _ (List.mem_of_getElem? (i := 13) rfl))) (Or.inl (hw _ (List.mem_of_getElem? (i := 11) rfl))) (by decide) (t := .int) (t' := .int) (by decide) (by decide)))
  have f9_5 := f8_4.other W9 (Or.inr (slot_ne (Or.inr (hw _ (List.mem_of_getElem? (i := 18) rfl))) (Or.inl (hw _ (List.mem_of_getElem? (i := 11) rfl))) (by decide) (t := (.array (.array .double))) (t' := .int) (by decide) (by decide)))
  have f9_4 := f8_3.other W9 (Or.inr (slot_ne (Or.inr (hw _ (List.mem_of_getElem? (i := 22) rfl))) (Or.inl (hw _ (List.mem_of_getElem? (i := 11) rfl))) (by decide) (t := (.array (.array (.array .double)))) (t' := .int) (by decide) (by decide)))
  have f9_3 := f8_2.other W9 (Or.inr (slot_ne (Or.inl (hw _ (List.mem_of_getElem? (i := 51) rfl))) (Or.inl (hw _ (List.mem_of_getElem? (i := 11) rfl))) (by decide) (t := .long) (t' := .int) (by decide) (by decide)))
  have f9_2 := f8_1.other W9 (Or.inr (slot_ne (Or.inr (hw _ (List.mem_of_getElem? (i := 25) rfl))) (Or.inl (hw _ (List.mem_of_getElem? (i := 11) rfl))) (by decide) (t := (.array .long)) (t' := .int) (by decide) (by decide)))
  have f9_1 := AR8.wr W9
  have K9 := (K8).wr W9 (Or.inl (List.mem_of_getElem? (i := 1) rfl))
  have Z9 := Nat.le_trans Z8 (Keep.of_wr W9).1
  have Fw9 := f8_6.same W9
  have N9 := Fr.snoc X9 N8 g_ob
  refine own_pre st9 ?_
  show OwnGoes p e below _ (T9.setTop (mkF m 57 #[.val (.ref ob), .val (.int (Int32.ofNat jn)), .val (.double (Jvm.FP.i2d z)), .second] []))
  refine own_pre (fun _ kz_ => XS.aloadN X9.here hx rfl (hb hby d6_57) rfl rfl kz_) ?_
  show OwnGoes p e below _ (T9.setTop (mkF m 58 #[.val (.ref ob), .val (.int (Int32.ofNat jn)), .val (.double (Jvm.FP.i2d z)), .second] [(.ref ob)]))
  refine own_pre (fun _ kz_ => XS.dloadN X9.here hx rfl (hb hby d6_58) rfl kz_) ?_
  show OwnGoes p e below _ (T9.setTop (mkF m 59 #[.val (.ref ob), .val (.int (Int32.ofNat jn)), .val (.double (Jvm.FP.i2d z)), .second] [(.double (Jvm.FP.i2d z)), (.ref ob)]))
  refine own_pre (fun _ kz_ => XS.dconst0 X9.here hx rfl (hb hby d6_59) (v := (0 : UInt64)) (by decide +kernel) kz_) ?_
  show OwnGoes p e below _ (T9.setTop (mkF m 60 #[.val (.ref ob), .val (.int (Int32.ofNat jn)), .val (.double (Jvm.FP.i2d z)), .second] [(.double (0 : UInt64)), (.double (Jvm.FP.i2d z)), (.ref ob)]))
  refine own_pre (fun _ kz_ => XS.dcmpS X9.here hx rfl (hb hby d6_60) rfl (v := (own_sg z)) (own_sgv z) kz_) ?_
  show OwnGoes p e below _ (T9.setTop (mkF m 61 #[.val (.ref ob), .val (.int (Int32.ofNat jn)), .val (.double (Jvm.FP.i2d z)), .second] [(.int (own_sg z)), (.ref ob)]))
  by_cases h61 : (0 : Int32) < (own_sg z)
  · refine own_pre (fun _ kz_ => XS.ifNo X9.here hx rfl (hb hby d6_61) rfl ((if0 _ _).trans (tlt h61).2.2.2) kz_) ?_
    show OwnGoes p e below _ (T9.setTop (mkF m 64 #[.val (.ref ob), .val (.int (Int32.ofNat jn)), .val (.double (Jvm.FP.i2d z)), .second] [(.ref ob)]))
    refine own_pre (fun _ kz_ => XS.bipush X9.here hx rfl (hb hby d6_64) kz_) ?_
    show OwnGoes p e below _ (T9.setTop (mkF m 66 #[.val (.ref ob), .val (.int (Int32.ofNat jn)), .val (.double (Jvm.FP.i2d z)), .second] [(.int (99 : Int32)), (.ref ob)]))
    refine own_pre (fun _ kz_ => XS.goto X9.here hx rfl (pc0 := 66) (pc' := 79) rfl (hb hby d6_66) (by decide) (by decide) kz_) ?_
    show OwnGoes p e below _ (T9.setTop (mkF m 79 #[.val (.ref ob), .val (.int (Int32.ofNat jn)), .val (.double (Jvm.FP.i2d z)), .second] [(.int (99 : Int32)), (.ref ob)]))
    obtain ⟨T10, h10, X10, e10, W10, st10⟩ := putF X9 hx hZ hown (host := "") (Or.inl (hw _ (List.mem_of_getElem? (i := 12) rfl))) Via.refl e9 f9_6 f9_8 (Or.inl (hw _ (List.mem_of_getElem? (i := 13) rfl))) (hw _ (List.mem_of_getElem? (i := 2) rfl)) (ty := .int) (by decide) rfl rfl (g := (mkF m 79 #[.val (.ref ob), .val (.int (Int32.ofNat jn)), .val (.double (Jvm.FP.i2d z)), .second] [(.int (99 : Int32)), (.ref ob)])) rfl rfl (hb hby d6_79)
    have f10_8 := f9_8.wr W10
    have f10_7 := Fw9.other W10 (Or.inr (slot_ne (Or.inl (hw _ (List.mem_of_getElem? (i := 11) rfl))) (Or.inl (hw _ (List.mem_of_getElem? (i := 13) rfl))) (by decide) (t := .int) (t' := .int) (by decide) (by decide)))
    have f10_5 := f9_5.other W10 (Or.inr (slot_ne (Or.inr (hw _ (List.mem_of_getElem? (i := 18) rfl))) (Or.inl (hw _ (List.mem_of_getElem? (i := 13) rfl))) (by decide) (t := (.array (.array .double))) (t' := .int) (by decide) (by decide)))
    have f10_4 := f9_4.other W10 (Or.inr (slot_ne (Or.inr (hw _ (List.mem_of_getElem? (i := 22) rfl))) (Or.inl (hw _ (List.mem_of_getElem? (i := 13) rfl))) (by decide) (t := (.array (.array (.array .double)))) (t' := .int) (by decide) (by decide)))
    have f10_3 := f9_3.other W10 (Or.inr (slot_ne (Or.inl (hw _ (List.mem_of_getElem? (i := 51) rfl))) (Or.inl (hw _ (List.mem_of_getElem? (i := 13) rfl))) (by decide) (t := .long) (t' := .int) (by decide) (by decide)))
    have f10_2 := f9_2.other W10 (Or.inr (slot_ne (Or.inr (hw _ (List.mem_of_getElem? (i := 25) rfl))) (Or.inl (hw _ (List.mem_of_getElem? (i := 13) rfl))) (by decide) (t := (.array .long)) (t' := .int) (by decide) (by decide)))
    have f10_1 := f9_1.wr W10
    have K10 := (K9).wr W10 (Or.inl (List.mem_of_getElem? (i := 1) rfl))
    have Z10 := Nat.le_trans Z9 (Keep.of_wr W10).1
    have Fw10 := f9_6.same W10
    have N10 := Fr.snoc X10 N9 g_ob
    refine own_pre st10 ?_
    show OwnGoes p e below _ (T10.setTop (mkF m 82 #[.val (.ref ob), .val (.int (Int32.ofNat jn)), .val (.double (Jvm.FP.i2d z)), .second] []))
    exact own_retV X10 hx Bd.returns Bd.notSynchronized (hb hby d6_82) ⟨rfl, N10, by rw [e10]; exact ⟨f10_8, f10_7, (by rw [show own_next mu z = (99 : Int32) from if_pos ((own_sgp z).mp h61)]; exact Fw10), f10_5, f10_4, f10_3, f10_2, f10_1, g_ob⟩⟩ (by decide) (by decide)
  · refine own_pre (fun _ kz_ => XS.ifYes X9.here hx rfl (pc0 := 61) (pc' := 69) rfl (hb hby d6_61) rfl ((if0 _ _).trans (flt h61).2.2.2) (by decide) (by decide) kz_) ?_
    show OwnGoes p e below _ (T9.setTop (mkF m 69 #[.val (.ref ob), .val (.int (Int32.ofNat jn)), .val (.double (Jvm.FP.i2d z)), .second] [(.ref ob)]))
    refine own_pre (fun _ kz_ => XS.iconst X9.here hx rfl (hb hby d6_69) kz_) ?_
    show OwnGoes p e below _ (T9.setTop (mkF m 70 #[.val (.ref ob), .val (.int (Int32.ofNat jn)), .val (.double (Jvm.FP.i2d z)), .second] [(.int (1 : Int32)), (.ref ob)]))
    refine own_pre (fun _ kz_ => XS.aloadN X9.here hx rfl (hb hby d6_70) rfl rfl kz_) ?_
    show OwnGoes p e below _ (T9.setTop (mkF m 71 #[.val (.ref ob), .val (.int (Int32.ofNat jn)), .val (.double (Jvm.FP.i2d z)), .second] [(.ref ob), (.int (1 : Int32)), (.ref ob)]))
    obtain ⟨T11, X11, e11, st11⟩ := getF X9 hx hZ hown (host := "") (Or.inl (hw _ (List.mem_of_getElem? (i := 12) rfl))) Via.refl e9 f9_6 (g := (mkF m 71 #[.val (.ref ob), .val (.int (Int32.ofNat jn)), .val (.double (Jvm.FP.i2d z)), .second] [(.ref ob), (.int (1 : Int32)), (.ref ob)])) rfl rfl (hb hby d6_71)
    refine own_pre st11 ?_
    show OwnGoes p e below _ (T11.setTop (mkF m 74 #[.val (.ref ob), .val (.int (Int32.ofNat jn)), .val (.double (Jvm.FP.i2d z)), .second] [(.int mu), (.int (1 : Int32)), (.ref ob)]))
    refine own_pre (fun _ kz_ => XS.iconst X11.here hx rfl (hb hby d6_74) kz_) ?_
    show OwnGoes p e below _ (T11.setTop (mkF m 75 #[.val (.ref ob), .val (.int (Int32.ofNat jn)), .val (.double (Jvm.FP.i2d z)), .second] [(.int (1 : Int32)), (.int mu), (.int (1 : Int32)), (.ref ob)]))
    refine own_pre (fun _ kz_ => XS.isub X11.here hx rfl (hb hby d6_75) rfl kz_) ?_
    show OwnGoes p e below _ (T11.setTop (mkF m 76 #[.val (.ref ob), .val (.int (Int32.ofNat jn)), .val (.double (Jvm.FP.i2d z)), .second] [(.int (mu - (1 : Int32))), (.int (1 : Int32)), (.ref ob)]))
    obtain ⟨_, _, ⟨T12, L12, k12, n12⟩, -, X12, ⟨Lc12, hQ12, l12, y12, z12⟩, st12⟩ := Jvm.LawKit.callS X11 hx (y := (⟨"java/lang/Math", "max", "(II)I"⟩ : MethodName)) hown (mvT hZ (hw _ (List.mem_of_getElem? (i := 55) rfl))) (mvT hZ (hw _ (List.mem_of_getElem? (i := 56) rfl))) (mvT hZ (hw _ (List.mem_of_getElem? (i := 57) rfl))) (mvT hZ (hw _ (List.mem_of_getElem? (i := 58) rfl))) (by decide) (backOf (W := 1) (rmMax l Z a0 hw [] (1 : Int32) (mu - (1 : Int32)) h9 n0 Z9) hZ (hw _ (List.mem_of_getElem? (i := 58) rfl)) (hw _ (List.mem_of_getElem? (i := 57) rfl)) (by decide) (by decide)) (g := (mkF m 76 #[.val (.ref ob), .val (.int (Int32.ofNat jn)), .val (.double (Jvm.FP.i2d z)), .second] [(.int (mu - (1 : Int32))), (.int (1 : Int32)), (.ref ob)])) rfl (by rw [hml]; rfl) (argsL := [(.int (1 : Int32)), (.int (mu - (1 : Int32)))]) (rest := [(.ref ob)]) (lenOf (d := "(II)I") (ps := [.int, .int]) (r := some .int) (by decide +kernel) rfl) rfl (by show 2 * 0 + _ ≤ _; exact Nat.le_of_eq rfl) (hb hby d6_76) (fun _ _ => ⟨rfl, e11, (by decide : 0 + 0 ≤ _), (by decide : 0 + 0 ≤ _)⟩)
    dsimp only [Pt.U, Pt.locs, Pt.cells, Pt.slots] at X12 l12 y12 z12 st12 hQ12
    subst l12 y12 z12
    obtain ⟨rfl, N12q, e12⟩ := hQ12
    have N12 := Fr.app N9 N12q
    refine own_pre st12 ?_
    show OwnGoes p e below _ (T12.setTop (mkF m 79 #[.val (.ref ob), .val (.int (Int32.ofNat jn)), .val (.double (Jvm.FP.i2d z)), .second] [(.int (own_max (1 : Int32) (mu - (1 : Int32)))), (.ref ob)]))
    obtain ⟨T13, h13, X13, e13, W13, st13⟩ := putF X12 hx hZ hown (host := "") (Or.inl (hw _ (List.mem_of_getElem? (i := 12) rfl))) Via.refl e12 f9_6 f9_8 (Or.inl (hw _ (List.mem_of_getElem? (i := 13) rfl))) (hw _ (List.mem_of_getElem? (i := 2) rfl)) (ty := .int) (by decide) rfl rfl (g := (mkF m 79 #[.val (.ref ob), .val (.int (Int32.ofNat jn)), .val (.double (Jvm.FP.i2d z)), .second] [(.int (own_max (1 : Int32) (mu - (1 : Int32)))), (.ref ob)])) rfl rfl (hb hby d6_79)
    have f13_8 := f9_8.wr W13
    have f13_7 := Fw9.other W13 (Or.inr (slot_ne (Or.inl (hw _ (List.mem_of_getElem? (i := 11) rfl))) (Or.inl (hw _ (List.mem_of_getElem? (i := 13) rfl))) (by decide) (t := .int) (t' := .int) (by decide) (by decide)))
    have f13_5 := f9_5.other W13 (Or.inr (slot_ne (Or.inr (hw _ (List.mem_of_getElem? (i := 18) rfl))) (Or.inl (hw _ (List.mem_of_getElem? (i := 13) rfl))) (by decide) (t := (.array (.array .double))) (t' := .int) (by decide) (by decide)))
    have f13_4 := f9_4.other W13 (Or.inr (slot_ne (Or.inr (hw _ (List.mem_of_getElem? (i := 22) rfl))) (Or.inl (hw _ (List.mem_of_getElem? (i := 13) rfl))) (by decide) (t := (.array (.array (.array .double)))) (t' := .int) (by decide) (by decide)))
    have f13_3 := f9_3.other W13 (Or.inr (slot_ne (Or.inl (hw _ (List.mem_of_getElem? (i := 51) rfl))) (Or.inl (hw _ (List.mem_of_getElem? (i := 13) rfl))) (by decide) (t := .long) (t' := .int) (by decide) (by decide)))
    have f13_2 := f9_2.other W13 (Or.inr (slot_ne (Or.inr (hw _ (List.mem_of_getElem? (i := 25) rfl))) (Or.inl (hw _ (List.mem_of_getElem? (i := 13) rfl))) (by decide) (t := (.array .long)) (t' := .int) (by decide) (by decide)))
    have f13_1 := f9_1.wr W13
    have K13 := (K9).wr W13 (Or.inl (List.mem_of_getElem? (i := 1) rfl))
    have Z13 := Nat.le_trans Z9 (Keep.of_wr W13).1
    have Fw13 := f9_6.same W13
    have N13 := Fr.snoc X13 N12 g_ob
    refine own_pre st13 ?_
    show OwnGoes p e below _ (T13.setTop (mkF m 82 #[.val (.ref ob), .val (.int (Int32.ofNat jn)), .val (.double (Jvm.FP.i2d z)), .second] []))
    exact own_retV X13 hx Bd.returns Bd.notSynchronized (hb hby d6_82) ⟨rfl, N13, by rw [e13]; exact ⟨f13_8, f13_7, (by rw [show own_next mu z = (own_max (1 : Int32) (mu - (1 : Int32))) from if_neg (fun qz => h61 ((own_sgp z).mpr qz))]; exact Fw13), f13_5, f13_4, f13_3, f13_2, f13_1, g_ob⟩⟩ (by decide) (by decide)
def QRec1 (Z : State) (ob B jn pn : Nat) (z mu : Int32) (cl : Int64) (lst : Nat → Int64) (cont : Nat → Nat → UInt64) (h0 : Heap) (n0 : Nat) (v : Option Value) (h : Heap) (L : List Loc) : Prop := v = none ∧ Fr n0 L ∧ OwnCF Z n0 h ob B (Int32.ofNat jn) (own_next mu z) (cl + 1) (fun i => if i = jn then cl + 1 else lst i) (own_c0 (own_c0 cont (1 + jn) (Jvm.FP.i2d z)) (6 + 4 * pn + jn) (Jvm.FP.i2d z))
set_option maxRecDepth 65536 in
set_option maxHeartbeats 40000000 in
theorem rmRec1 (l : Launch) (Z : State) (a0 : Array Value) (hw : ∀ d ∈ tables_1, d.before a0 Z = true) (ws : List Jvm.Cond) (ob B jn pn : Nat) (z mu : Int32) (cl : Int64) (lst : Nat → Int64) (cont : Nat → Nat → UInt64) (K_ : Nat) (h0 : Heap) (n0 : Nat) (Z0 : n0 ≤ h0.size) (I0 : OwnCF Z n0 h0 ob B (Int32.ofNat pn) mu cl lst cont) (hj : jn < 3) (hpn : pn < 3) (hm : ∀ x i, Jvm.Free.Fl.Mag64 K_ (cont x i)) (hK1 : 1056 ≤ K_) (hK2 : K_ ≤ 1400) :
    MetFree l (⟨"com/example/hyperloom/hyperloom/hyperheuristic/ChoiceFunction", "record", "(ID)V"⟩ : MethodName) (head1 (Jvm.Cond.code (⟨"com/example/hyperloom/hyperloom/hyperheuristic/ChoiceFunction", "record", "(ID)V"⟩ : MethodName) prog_45_method_6_code 4 none :: ws) ({ frames := 1, cells := 0, slots := 0, locals := 18 } : Room)) (fun a U => a = #[(.ref ob), (.int (Int32.ofNat jn)), (.double (Jvm.FP.i2d z))] ∧ Z.Warmed39 U.vm ∧ U.heap = h0) (fun _ _ _ _ _ => True) (fun _ Uw_ ow_ Ue_ => ∃ vw_ Lw_, ow_ = .returned vw_ ∧ QRec1 Z ob B jn pn z mu cl lst cont h0 n0 vw_ Ue_.heap Lw_ ∧ FrameEnd Uw_ ow_ Ue_ Lw_ ({ frames := 1, cells := 0, slots := 0, locals := 18 } : Room).cells ({ frames := 1, cells := 0, slots := 0, locals := 18 } : Room).slots) := by
  refine MetFree.of_bodySF (plainFor_of_name (by first | (simp [plainName, overriddenIn]; done) | decide +kernel)) hisR ?_
  intro p e s m args below meth c s₁ Bd hml0 hP hK
  obtain ⟨rfl, hZ, hh⟩ := hP
  have hx := Bd.exec
  have hby := Bd.bytes
  have hml : c.maxLocals = 4 := hml0
  have hown : s.vm.findClass "com/example/hyperloom/hyperloom/hyperheuristic/ChoiceFunction" = some m.cls := findClass_of_methodNamed Bd.named
  have hnm := (name_of_methodNamed Bd.named Bd.method).1
  have X0 : Stand p l e ({ frames := 1, cells := 0, slots := 0, locals := 18 } : Room) s m #[(.ref ob), (.int (Int32.ofNat jn)), (.double (Jvm.FP.i2d z))] below meth c s₁ [] 0 0 := Stand.of_body Bd
  have e0 : s₁.heap = h0 := by rw [← hh, Bd.state]; rfl
  have N0 := Fr.nil n0
  have ef : entryFrame m #[(.ref ob), (.int (Int32.ofNat jn)), (.double (Jvm.FP.i2d z))] 4 = (mkF m 0 #[.val (.ref ob), .val (.int (Int32.ofNat jn)), .val (.double (Jvm.FP.i2d z)), .second] []) := by first | (simp [entryFrame, mkF, argsToLocals, Value.category]; done) | rfl
  show OwnGoes p e below (fun ow_ Ue_ => ∃ vw_ Lw_, ow_ = .returned vw_ ∧ QRec1 Z ob B jn pn z mu cl lst cont h0 n0 vw_ Ue_.heap Lw_ ∧ FrameEnd s ow_ Ue_ Lw_ ({ frames := 1, cells := 0, slots := 0, locals := 18 } : Room).cells ({ frames := 1, cells := 0, slots := 0, locals := 18 } : Room).slots) (s₁.setTop (entryFrame m #[(.ref ob), (.int (Int32.ofNat jn)), (.double (Jvm.FP.i2d z))] 4))
  refine own_pre (fun t k => castTop ef k) ?_
  obtain ⟨Eo, Fp, Fm, Fa, Ff, Fc, Fl, AR, g_ob⟩ := I0
  show OwnGoes p e below _ (s₁.setTop (mkF m 0 #[.val (.ref ob), .val (.int (Int32.ofNat jn)), .val (.double (Jvm.FP.i2d z)), .second] []))
  refine own_pre (fun _ kz_ => XS.aloadN X0.here hx rfl (hb hby d6_0) rfl rfl kz_) ?_
  show OwnGoes p e below _ (s₁.setTop (mkF m 1 #[.val (.ref ob), .val (.int (Int32.ofNat jn)), .val (.double (Jvm.FP.i2d z)), .second] [(.ref ob)]))
  obtain ⟨T1, X1, e1, st1⟩ := getF X0 hx hZ hown (host := "") (Or.inl (hw _ (List.mem_of_getElem? (i := 17) rfl))) Via.refl e0 Fa (g := (mkF m 1 #[.val (.ref ob), .val (.int (Int32.ofNat jn)), .val (.double (Jvm.FP.i2d z)), .second] [(.ref ob)])) rfl rfl (hb hby d6_1)
  refine own_pre st1 ?_
  show OwnGoes p e below _ (T1.setTop (mkF m 4 #[.val (.ref ob), .val (.int (Int32.ofNat jn)), .val (.double (Jvm.FP.i2d z)), .second] [(.ref B)]))
  refine own_pre (fun _ kz_ => XS.iloadN X1.here hx rfl (hb hby d6_4) rfl kz_) ?_
  show OwnGoes p e below _ (T1.setTop (mkF m 5 #[.val (.ref ob), .val (.int (Int32.ofNat jn)), .val (.double (Jvm.FP.i2d z)), .second] [(.int (Int32.ofNat jn)), (.ref B)]))
  refine own_pre (own_aald X1 hx hZ e1 (AR).2.1 rfl (v := (.ref (B + (1 + jn)))) (Int32.ofNat_not_neg (by omega)) (own_r3at _ hj) (g := (mkF m 5 #[.val (.ref ob), .val (.int (Int32.ofNat jn)), .val (.double (Jvm.FP.i2d z)), .second] [(.int (Int32.ofNat jn)), (.ref B)])) rfl rfl (hb hby d6_5)) ?_
  show OwnGoes p e below _ (T1.setTop (mkF m 6 #[.val (.ref ob), .val (.int (Int32.ofNat jn)), .val (.double (Jvm.FP.i2d z)), .second] [(.ref (B + (1 + jn)))]))
  refine own_pre (fun _ kz_ => XS.dloadN X1.here hx rfl (hb hby d6_6) rfl kz_) ?_
  show OwnGoes p e below _ (T1.setTop (mkF m 7 #[.val (.ref ob), .val (.int (Int32.ofNat jn)), .val (.double (Jvm.FP.i2d z)), .second] [(.double (Jvm.FP.i2d z)), (.ref (B + (1 + jn)))]))
  obtain ⟨_, _, ⟨T2, L2, k2, n2⟩, -, X2, ⟨Lc2, hQ2, l2, y2, z2⟩, st2⟩ := Jvm.LawKit.callS X1 hx (y := (⟨"com/example/hyperloom/hyperloom/hyperheuristic/ChoiceFunction", "add", "([DD)V"⟩ : MethodName)) hown (mvT hZ (hw _ (List.mem_of_getElem? (i := 47) rfl))) (mvT hZ (hw _ (List.mem_of_getElem? (i := 48) rfl))) (mvT hZ (hw _ (List.mem_of_getElem? (i := 3) rfl))) (mvT hZ (hw _ (List.mem_of_getElem? (i := 49) rfl))) (by decide) (backOf (W := 0) (rmAdd l Z a0 hw [] (B + (1 + jn)) (Jvm.FP.i2d z) (cont (1 + jn)) K_ h0 n0 Z0 ((AR).2.2.2.2.2 _ (Or.inl ⟨by omega, by omega⟩)) (Jvm.Free.Fl.i2d_mag z) (hm _) hK1 (by omega) (Nat.le_trans (Nat.le_trans g_ob (Nat.le_of_lt AR.1)) (Nat.le_add_right _ _))) hZ (hw _ (List.mem_of_getElem? (i := 49) rfl)) (hw _ (List.mem_of_getElem? (i := 3) rfl)) (by decide) (by decide)) (g := (mkF m 7 #[.val (.ref ob), .val (.int (Int32.ofNat jn)), .val (.double (Jvm.FP.i2d z)), .second] [(.double (Jvm.FP.i2d z)), (.ref (B + (1 + jn)))])) rfl (by rw [hml]; rfl) (argsL := [(.ref (B + (1 + jn))), (.double (Jvm.FP.i2d z))]) (rest := []) (lenOf (d := "([DD)V") (ps := [(.array .double), .double]) (r := none) (by decide +kernel) rfl) rfl (by show 2 * 0 + _ ≤ _; exact Nat.le_of_eq rfl) (hb hby d6_7) (fun _ _ => ⟨rfl, e1, (by decide : 0 + 0 ≤ _), (by decide : 0 + 0 ≤ _)⟩)
  dsimp only [Pt.U, Pt.locs, Pt.cells, Pt.slots] at X2 l2 y2 z2 st2 hQ2
  subst l2 y2 z2
  obtain ⟨rfl, N2q, K2q, V2q⟩ := hQ2
  have N2 := Fr.app N0 N2q
  refine own_pre st2 ?_
  have f2_7 := Eo.keep K2q
  have f2_6 := Fp.keep K2q (fun q => (Nat.ne_of_lt (Nat.lt_of_lt_of_le AR.1 (Nat.le_add_right _ _))) (List.mem_singleton.mp q))
  have f2_5 := Fm.keep K2q (fun q => (Nat.ne_of_lt (Nat.lt_of_lt_of_le AR.1 (Nat.le_add_right _ _))) (List.mem_singleton.mp q))
  have f2_4 := Fa.keep K2q (fun q => (Nat.ne_of_lt (Nat.lt_of_lt_of_le AR.1 (Nat.le_add_right _ _))) (List.mem_singleton.mp q))
  have f2_3 := Ff.keep K2q (fun q => (Nat.ne_of_lt (Nat.lt_of_lt_of_le AR.1 (Nat.le_add_right _ _))) (List.mem_singleton.mp q))
  have f2_2 := Fc.keep K2q (fun q => (Nat.ne_of_lt (Nat.lt_of_lt_of_le AR.1 (Nat.le_add_right _ _))) (List.mem_singleton.mp q))
  have f2_1 := Fl.keep K2q (fun q => (Nat.ne_of_lt (Nat.lt_of_lt_of_le AR.1 (Nat.le_add_right _ _))) (List.mem_singleton.mp q))
  have Z2 := Nat.le_trans Z0 K2q.1
  have KK2 := ((Keep.refl h0 [(B + (1 + jn)), (B + (6 + 4 * pn + jn)), ob, (B + 17)])).trans K2q (fun x hx => by simp only [List.mem_cons, List.not_mem_nil, or_false] at hx; rcases hx with rfl <;> first | exact Or.inl (List.mem_of_getElem? (i := 0) rfl) | exact Or.inl (List.mem_of_getElem? (i := 1) rfl) )
  have AR2 := (AR).dbl (Or.inl ⟨by omega, by omega⟩) K2q V2q
  show OwnGoes p e below _ (T2.setTop (mkF m 10 #[.val (.ref ob), .val (.int (Int32.ofNat jn)), .val (.double (Jvm.FP.i2d z)), .second] []))
  refine own_pre (fun _ kz_ => XS.aloadN X2.here hx rfl (hb hby d6_10) rfl rfl kz_) ?_
  show OwnGoes p e below _ (T2.setTop (mkF m 11 #[.val (.ref ob), .val (.int (Int32.ofNat jn)), .val (.double (Jvm.FP.i2d z)), .second] [(.ref ob)]))
  obtain ⟨T3, X3, e3, st3⟩ := getF X2 hx hZ hown (host := "") (Or.inl (hw _ (List.mem_of_getElem? (i := 10) rfl))) Via.refl rfl f2_6 (g := (mkF m 11 #[.val (.ref ob), .val (.int (Int32.ofNat jn)), .val (.double (Jvm.FP.i2d z)), .second] [(.ref ob)])) rfl rfl (hb hby d6_11)
  refine own_pre st3 ?_
  show OwnGoes p e below _ (T3.setTop (mkF m 14 #[.val (.ref ob), .val (.int (Int32.ofNat jn)), .val (.double (Jvm.FP.i2d z)), .second] [(.int (Int32.ofNat pn))]))
  refine own_pre (fun _ kz_ => XS.ifNo X3.here hx rfl (hb hby d6_14) rfl ((if0 _ _).trans (flt (Int32.ofNat_not_neg (by omega) : ¬ ((Int32.ofNat pn) < (0 : Int32)))).1) kz_) ?_
  show OwnGoes p e below _ (T3.setTop (mkF m 17 #[.val (.ref ob), .val (.int (Int32.ofNat jn)), .val (.double (Jvm.FP.i2d z)), .second] []))
  refine own_pre (fun _ kz_ => XS.aloadN X3.here hx rfl (hb hby d6_17) rfl rfl kz_) ?_
  show OwnGoes p e below _ (T3.setTop (mkF m 18 #[.val (.ref ob), .val (.int (Int32.ofNat jn)), .val (.double (Jvm.FP.i2d z)), .second] [(.ref ob)]))
  obtain ⟨T4, X4, e4, st4⟩ := getF X3 hx hZ hown (host := "") (Or.inl (hw _ (List.mem_of_getElem? (i := 21) rfl))) Via.refl e3 f2_3 (g := (mkF m 18 #[.val (.ref ob), .val (.int (Int32.ofNat jn)), .val (.double (Jvm.FP.i2d z)), .second] [(.ref ob)])) rfl rfl (hb hby d6_18)
  refine own_pre st4 ?_
  show OwnGoes p e below _ (T4.setTop (mkF m 21 #[.val (.ref ob), .val (.int (Int32.ofNat jn)), .val (.double (Jvm.FP.i2d z)), .second] [(.ref (B + 4))]))
  refine own_pre (fun _ kz_ => XS.aloadN X4.here hx rfl (hb hby d6_21) rfl rfl kz_) ?_
  show OwnGoes p e below _ (T4.setTop (mkF m 22 #[.val (.ref ob), .val (.int (Int32.ofNat jn)), .val (.double (Jvm.FP.i2d z)), .second] [(.ref ob), (.ref (B + 4))]))
  obtain ⟨T5, X5, e5, st5⟩ := getF X4 hx hZ hown (host := "") (Or.inl (hw _ (List.mem_of_getElem? (i := 10) rfl))) Via.refl e4 f2_6 (g := (mkF m 22 #[.val (.ref ob), .val (.int (Int32.ofNat jn)), .val (.double (Jvm.FP.i2d z)), .second] [(.ref ob), (.ref (B + 4))])) rfl rfl (hb hby d6_22)
  refine own_pre st5 ?_
  show OwnGoes p e below _ (T5.setTop (mkF m 25 #[.val (.ref ob), .val (.int (Int32.ofNat jn)), .val (.double (Jvm.FP.i2d z)), .second] [(.int (Int32.ofNat pn)), (.ref (B + 4))]))
  refine own_pre (own_aald X5 hx hZ e5 (AR2).2.2.1 rfl (v := (.ref (B + (5 + 4 * pn)))) (Int32.ofNat_not_neg (by omega)) (own_r3at _ hpn) (g := (mkF m 25 #[.val (.ref ob), .val (.int (Int32.ofNat jn)), .val (.double (Jvm.FP.i2d z)), .second] [(.int (Int32.ofNat pn)), (.ref (B + 4))])) rfl rfl (hb hby d6_25)) ?_
  show OwnGoes p e below _ (T5.setTop (mkF m 26 #[.val (.ref ob), .val (.int (Int32.ofNat jn)), .val (.double (Jvm.FP.i2d z)), .second] [(.ref (B + (5 + 4 * pn)))]))
  refine own_pre (fun _ kz_ => XS.iloadN X5.here hx rfl (hb hby d6_26) rfl kz_) ?_
  show OwnGoes p e below _ (T5.setTop (mkF m 27 #[.val (.ref ob), .val (.int (Int32.ofNat jn)), .val (.double (Jvm.FP.i2d z)), .second] [(.int (Int32.ofNat jn)), (.ref (B + (5 + 4 * pn)))]))
  refine own_pre (own_aald X5 hx hZ e5 ((AR2).2.2.2.1 pn hpn) rfl (v := (.ref (B + (6 + 4 * pn + jn)))) (Int32.ofNat_not_neg (by omega)) (own_r3at _ hj) (g := (mkF m 27 #[.val (.ref ob), .val (.int (Int32.ofNat jn)), .val (.double (Jvm.FP.i2d z)), .second] [(.int (Int32.ofNat jn)), (.ref (B + (5 + 4 * pn)))])) rfl rfl (hb hby d6_27)) ?_
  show OwnGoes p e below _ (T5.setTop (mkF m 28 #[.val (.ref ob), .val (.int (Int32.ofNat jn)), .val (.double (Jvm.FP.i2d z)), .second] [(.ref (B + (6 + 4 * pn + jn)))]))
  refine own_pre (fun _ kz_ => XS.dloadN X5.here hx rfl (hb hby d6_28) rfl kz_) ?_
  show OwnGoes p e below _ (T5.setTop (mkF m 29 #[.val (.ref ob), .val (.int (Int32.ofNat jn)), .val (.double (Jvm.FP.i2d z)), .second] [(.double (Jvm.FP.i2d z)), (.ref (B + (6 + 4 * pn + jn)))]))
  obtain ⟨_, _, ⟨T6, L6, k6, n6⟩, -, X6, ⟨Lc6, hQ6, l6, y6, z6⟩, st6⟩ := Jvm.LawKit.callS X5 hx (y := (⟨"com/example/hyperloom/hyperloom/hyperheuristic/ChoiceFunction", "add", "([DD)V"⟩ : MethodName)) hown (mvT hZ (hw _ (List.mem_of_getElem? (i := 47) rfl))) (mvT hZ (hw _ (List.mem_of_getElem? (i := 48) rfl))) (mvT hZ (hw _ (List.mem_of_getElem? (i := 3) rfl))) (mvT hZ (hw _ (List.mem_of_getElem? (i := 49) rfl))) (by decide) (backOf (W := 0) (rmAdd l Z a0 hw [] (B + (6 + 4 * pn + jn)) (Jvm.FP.i2d z) ((own_c0 cont (1 + jn) (Jvm.FP.i2d z)) (6 + 4 * pn + jn)) (K_ + 31) T2.heap n0 Z2 ((AR2).2.2.2.2.2 _ (Or.inr ⟨pn, jn, hpn, hj, rfl⟩)) (Jvm.Free.Fl.i2d_mag z) ((own_c0m (1 + jn) (Jvm.Free.Fl.i2d_mag z) hm hK1 (by omega)) _) (by omega) (by omega) (Nat.le_trans (Nat.le_trans g_ob (Nat.le_of_lt AR.1)) (Nat.le_add_right _ _))) hZ (hw _ (List.mem_of_getElem? (i := 49) rfl)) (hw _ (List.mem_of_getElem? (i := 3) rfl)) (by decide) (by decide)) (g := (mkF m 29 #[.val (.ref ob), .val (.int (Int32.ofNat jn)), .val (.double (Jvm.FP.i2d z)), .second] [(.double (Jvm.FP.i2d z)), (.ref (B + (6 + 4 * pn + jn)))])) rfl (by rw [hml]; rfl) (argsL := [(.ref (B + (6 + 4 * pn + jn))), (.double (Jvm.FP.i2d z))]) (rest := []) (lenOf (d := "([DD)V") (ps := [(.array .double), .double]) (r := none) (by decide +kernel) rfl) rfl (by show 2 * 0 + _ ≤ _; exact Nat.le_of_eq rfl) (hb hby d6_29) (fun _ _ => ⟨rfl, e5, (by decide : 0 + 0 ≤ _), (by decide : 0 + 0 ≤ _)⟩)
  dsimp only [Pt.U, Pt.locs, Pt.cells, Pt.slots] at X6 l6 y6 z6 st6 hQ6
  subst l6 y6 z6
  obtain ⟨rfl, N6q, K6q, V6q⟩ := hQ6
  have N6 := Fr.app N2 N6q
  refine own_pre st6 ?_
  have f6_7 := f2_7.keep K6q
  have f6_6 := f2_6.keep K6q (fun q => (Nat.ne_of_lt (Nat.lt_of_lt_of_le AR.1 (Nat.le_add_right _ _))) (List.mem_singleton.mp q))
  have f6_5 := f2_5.keep K6q (fun q => (Nat.ne_of_lt (Nat.lt_of_lt_of_le AR.1 (Nat.le_add_right _ _))) (List.mem_singleton.mp q))
  have f6_4 := f2_4.keep K6q (fun q => (Nat.ne_of_lt (Nat.lt_of_lt_of_le AR.1 (Nat.le_add_right _ _))) (List.mem_singleton.mp q))
  have f6_3 := f2_3.keep K6q (fun q => (Nat.ne_of_lt (Nat.lt_of_lt_of_le AR.1 (Nat.le_add_right _ _))) (List.mem_singleton.mp q))
  have f6_2 := f2_2.keep K6q (fun q => (Nat.ne_of_lt (Nat.lt_of_lt_of_le AR.1 (Nat.le_add_right _ _))) (List.mem_singleton.mp q))
  have f6_1 := f2_1.keep K6q (fun q => (Nat.ne_of_lt (Nat.lt_of_lt_of_le AR.1 (Nat.le_add_right _ _))) (List.mem_singleton.mp q))
  have Z6 := Nat.le_trans Z2 K6q.1
  have KK6 := (KK2).trans K6q (fun x hx => by simp only [List.mem_cons, List.not_mem_nil, or_false] at hx; rcases hx with rfl <;> first | exact Or.inl (List.mem_of_getElem? (i := 0) rfl) | exact Or.inl (List.mem_of_getElem? (i := 1) rfl) )
  have AR6 := (AR2).dbl (Or.inr ⟨pn, jn, hpn, hj, rfl⟩) K6q V6q
  show OwnGoes p e below _ (T6.setTop (mkF m 32 #[.val (.ref ob), .val (.int (Int32.ofNat jn)), .val (.double (Jvm.FP.i2d z)), .second] []))
  refine own_pre (fun _ kz_ => XS.aloadN X6.here hx rfl (hb hby d6_32) rfl rfl kz_) ?_
  show OwnGoes p e below _ (T6.setTop (mkF m 33 #[.val (.ref ob), .val (.int (Int32.ofNat jn)), .val (.double (Jvm.FP.i2d z)), .second] [(.ref ob)]))
  refine own_pre (fun _ kz_ => XS.dup X6.here hx rfl (hb hby d6_33) rfl rfl kz_) ?_
  show OwnGoes p e below _ (T6.setTop (mkF m 34 #[.val (.ref ob), .val (.int (Int32.ofNat jn)), .val (.double (Jvm.FP.i2d z)), .second] [(.ref ob), (.ref ob)]))
  obtain ⟨T7, X7, e7, st7⟩ := getF X6 hx hZ hown (host := "") (Or.inl (hw _ (List.mem_of_getElem? (i := 50) rfl))) Via.refl rfl f6_2 (g := (mkF m 34 #[.val (.ref ob), .val (.int (Int32.ofNat jn)), .val (.double (Jvm.FP.i2d z)), .second] [(.ref ob), (.ref ob)])) rfl rfl (hb hby d6_34)
  refine own_pre st7 ?_
  show OwnGoes p e below _ (T7.setTop (mkF m 37 #[.val (.ref ob), .val (.int (Int32.ofNat jn)), .val (.double (Jvm.FP.i2d z)), .second] [(.long cl), (.ref ob)]))
  refine own_pre (fun _ kz_ => XS.lconst X7.here hx rfl (hb hby d6_37) kz_) ?_
  show OwnGoes p e below _ (T7.setTop (mkF m 38 #[.val (.ref ob), .val (.int (Int32.ofNat jn)), .val (.double (Jvm.FP.i2d z)), .second] [(.long (1 : Int64)), (.long cl), (.ref ob)]))
  refine own_pre (fun _ kz_ => XS.ladd X7.here hx rfl (hb hby d6_38) rfl kz_) ?_
  show OwnGoes p e below _ (T7.setTop (mkF m 39 #[.val (.ref ob), .val (.int (Int32.ofNat jn)), .val (.double (Jvm.FP.i2d z)), .second] [(.long (cl + (1 : Int64))), (.ref ob)]))
  obtain ⟨T8, h8, X8, e8, W8, st8⟩ := putF X7 hx hZ hown (host := "") (Or.inl (hw _ (List.mem_of_getElem? (i := 50) rfl))) Via.refl e7 f6_2 f6_7 (Or.inl (hw _ (List.mem_of_getElem? (i := 51) rfl))) (hw _ (List.mem_of_getElem? (i := 2) rfl)) (ty := .long) (by decide) rfl rfl (g := (mkF m 39 #[.val (.ref ob), .val (.int (Int32.ofNat jn)), .val (.double (Jvm.FP.i2d z)), .second] [(.long (cl + (1 : Int64))), (.ref ob)])) rfl rfl (hb hby d6_39)
  have f8_8 := f6_7.wr W8
  have f8_7 := f6_6.other W8 (Or.inr (slot_ne (Or.inl (hw _ (List.mem_of_getElem? (i := 11) rfl))) (Or.inl (hw _ (List.mem_of_getElem? (i := 51) rfl))) (by decide) (t := .int) (t' := .long) (by decide) (by decide)))
  have f8_6 := f6_5.other W8 (Or.inr (slot_ne (Or.inl (hw _ (List.mem_of_getElem? (i := 13) rfl))) (Or.inl (hw _ (List.mem_of_getElem? (i := 51) rfl))) (by decide) (t := .int) (t' := .long) (by decide) (by decide)))
  have f8_5 := f6_4.other W8 (Or.inr (slot_ne (Or.inr (hw _ (List.mem_of_getElem? (i := 18) rfl))) (Or.inl (hw _ (List.mem_of_getElem? (i := 51) rfl))) (by decide) (t := (.array (.array .double))) (t' := .long) (by decide) (by decide)))
  have f8_4 := f6_3.other W8 (Or.inr (slot_ne (Or.inr (hw _ (List.mem_of_getElem? (i := 22) rfl))) (Or.inl (hw _ (List.mem_of_getElem? (i := 51) rfl))) (by decide) (t := (.array (.array (.array .double)))) (t' := .long) (by decide) (by decide)))
  have f8_2 := f6_1.other W8 (Or.inr (slot_ne (Or.inr (hw _ (List.mem_of_getElem? (i := 25) rfl))) (Or.inl (hw _ (List.mem_of_getElem? (i := 51) rfl))) (by decide) (t := (.array .long)) (t' := .long) (by decide) (by decide)))
  have f8_1 := AR6.wr W8
  have K8 := (KK6).wr W8 (Or.inl (List.mem_of_getElem? (i := 2) rfl))
  have Z8 := Nat.le_trans Z6 (Keep.of_wr W8).1
  have Fw8 := f6_2.same W8
  have N8 := Fr.snoc X8 N6 g_ob
  refine own_pre st8 ?_
  show OwnGoes p e below _ (T8.setTop (mkF m 42 #[.val (.ref ob), .val (.int (Int32.ofNat jn)), .val (.double (Jvm.FP.i2d z)), .second] []))
  refine own_pre (fun _ kz_ => XS.aloadN X8.here hx rfl (hb hby d6_42) rfl rfl kz_) ?_
  show OwnGoes p e below _ (T8.setTop (mkF m 43 #[.val (.ref ob), .val (.int (Int32.ofNat jn)), .val (.double (Jvm.FP.i2d z)), .second] [(.ref ob)]))
  obtain ⟨T9, X9, e9, st9⟩ := getF X8 hx hZ hown (host := "") (Or.inl (hw _ (List.mem_of_getElem? (i := 24) rfl))) Via.refl e8 f8_2 (g := (mkF m 43 #[.val (.ref ob), .val (.int (Int32.ofNat jn)), .val (.double (Jvm.FP.i2d z)), .second] [(.ref ob)])) rfl rfl (hb hby d6_43)
  refine own_pre st9 ?_
  show OwnGoes p e below _ (T9.setTop (mkF m 46 #[.val (.ref ob), .val (.int (Int32.ofNat jn)), .val (.double (Jvm.FP.i2d z)), .second] [(.ref (B + 17))]))
  refine own_pre (fun _ kz_ => XS.iloadN X9.here hx rfl (hb hby d6_46) rfl kz_) ?_
  show OwnGoes p e below _ (T9.setTop (mkF m 47 #[.val (.ref ob), .val (.int (Int32.ofNat jn)), .val (.double (Jvm.FP.i2d z)), .second] [(.int (Int32.ofNat jn)), (.ref (B + 17))]))
  refine own_pre (fun _ kz_ => XS.aloadN X9.here hx rfl (hb hby d6_47) rfl rfl kz_) ?_
  show OwnGoes p e below _ (T9.setTop (mkF m 48 #[.val (.ref ob), .val (.int (Int32.ofNat jn)), .val (.double (Jvm.FP.i2d z)), .second] [(.ref ob), (.int (Int32.ofNat jn)), (.ref (B + 17))]))
  obtain ⟨T10, X10, e10, st10⟩ := getF X9 hx hZ hown (host := "") (Or.inl (hw _ (List.mem_of_getElem? (i := 50) rfl))) Via.refl e9 Fw8 (g := (mkF m 48 #[.val (.ref ob), .val (.int (Int32.ofNat jn)), .val (.double (Jvm.FP.i2d z)), .second] [(.ref ob), (.int (Int32.ofNat jn)), (.ref (B + 17))])) rfl rfl (hb hby d6_48)
  refine own_pre st10 ?_
  show OwnGoes p e below _ (T10.setTop (mkF m 51 #[.val (.ref ob), .val (.int (Int32.ofNat jn)), .val (.double (Jvm.FP.i2d z)), .second] [(.long (cl + (1 : Int64))), (.int (Int32.ofNat jn)), (.ref (B + 17))]))
  obtain ⟨T11, h11, X11, e11, W11, V11, st11⟩ := own_jst X10 hx hZ e10 (f8_1).2.2.2.2.1 (j := (Int32.ofNat jn)) (Int32.ofNat_not_neg (by omega)) (by rw [XT.n32 (by omega)]; exact hj) (g := (mkF m 51 #[.val (.ref ob), .val (.int (Int32.ofNat jn)), .val (.double (Jvm.FP.i2d z)), .second] [(.long (cl + (1 : Int64))), (.int (Int32.ofNat jn)), (.ref (B + 17))])) rfl rfl (hb hby d6_51)
  have f11_7 := f8_8.wr W11
  have f11_6 := f8_7.other W11 (Or.inl (Nat.ne_of_lt (Nat.lt_of_lt_of_le AR.1 (Nat.le_add_right _ _))))
  have f11_5 := f8_6.other W11 (Or.inl (Nat.ne_of_lt (Nat.lt_of_lt_of_le AR.1 (Nat.le_add_right _ _))))
  have f11_4 := f8_5.other W11 (Or.inl (Nat.ne_of_lt (Nat.lt_of_lt_of_le AR.1 (Nat.le_add_right _ _))))
  have f11_3 := f8_4.other W11 (Or.inl (Nat.ne_of_lt (Nat.lt_of_lt_of_le AR.1 (Nat.le_add_right _ _))))
  have f11_2 := Fw8.other W11 (Or.inl (Nat.ne_of_lt (Nat.lt_of_lt_of_le AR.1 (Nat.le_add_right _ _))))
  have f11_1 := f8_2.other W11 (Or.inl (Nat.ne_of_lt (Nat.lt_of_lt_of_le AR.1 (Nat.le_add_right _ _))))
  have K11 := (K8).wr W11 (Or.inl (List.mem_of_getElem? (i := 3) rfl))
  have Z11 := Nat.le_trans Z8 (Keep.of_wr W11).1
  have AR11 := (f8_1).last W11 (by have q := V11; rw [own_l3set _ hj] at q; exact q)
  have N11 := Fr.snoc X11 N8 (Nat.le_trans (Nat.le_trans g_ob (Nat.le_of_lt AR.1)) (Nat.le_add_right _ _))
  refine own_pre st11 ?_
  show OwnGoes p e below _ (T11.setTop (mkF m 52 #[.val (.ref ob), .val (.int (Int32.ofNat jn)), .val (.double (Jvm.FP.i2d z)), .second] []))
  refine own_pre (fun _ kz_ => XS.aloadN X11.here hx rfl (hb hby d6_52) rfl rfl kz_) ?_
  show OwnGoes p e below _ (T11.setTop (mkF m 53 #[.val (.ref ob), .val (.int (Int32.ofNat jn)), .val (.double (Jvm.FP.i2d z)), .second] [(.ref ob)]))
  refine own_pre (fun _ kz_ => XS.iloadN X11.here hx rfl (hb hby d6_53) rfl kz_) ?_
  show OwnGoes p e below _ (T11.setTop (mkF m 54 #[.val (.ref ob), .val (.int (Int32.ofNat jn)), .val (.double (Jvm.FP.i2d z)), .second] [(.int (Int32.ofNat jn)), (.ref ob)]))
  obtain ⟨T12, h12, X12, e12, W12, st12⟩ := putF X11 hx hZ hown (host := "") (Or.inl (hw _ (List.mem_of_getElem? (i := 10) rfl))) Via.refl e11 f11_6 f11_7 (Or.inl (hw _ (List.mem_of_getElem? (i := 11) rfl))) (hw _ (List.mem_of_getElem? (i := 2) rfl)) (ty := .int) (by decide) rfl rfl (g := (mkF m 54 #[.val (.ref ob), .val (.int (Int32.ofNat jn)), .val (.double (Jvm.FP.i2d z)), .second] [(.int (Int32.ofNat jn)), (.ref ob)])) rfl rfl (hb hby d6_54)
  have f12_8 := f11_7.wr W12
  have f12_6 := f11_5.other W12 (Or.inr (slot_ne (Or.inl (hw _ (List.mem_of_getElem? (i := 13) rfl))) (Or.inl (hw _ (List.mem_of_getElem? (i := 11) rfl))) (by decide) (t := .int) (t' := .int) (by decide) (by decide)))
  have f12_5 := f11_4.other W12 (Or.inr (slot_ne (Or.inr (hw _ (List.mem_of_getElem? (i := 18) rfl))) (Or.inl (hw _ (List.mem_of_getElem? (i := 11) rfl))) (by decide) (t := (.array (.array .double))) (t' := .int) (by decide) (by decide)))
  have f12_4 := f11_3.other W12 (Or.inr (slot_ne (Or.inr (hw _ (List.mem_of_getElem? (i := 22) rfl))) (Or.inl (hw _ (List.mem_of_getElem? (i := 11) rfl))) (by decide) (t := (.array (.array (.array .double)))) (t' := .int) (by decide) (by decide)))
  have f12_3 := f11_2.other W12 (Or.inr (slot_ne (Or.inl (hw _ (List.mem_of_getElem? (i := 51) rfl))) (Or.inl (hw _ (List.mem_of_getElem? (i := 11) rfl))) (by decide) (t := .long) (t' := .int) (by decide) (by decide)))
  have f12_2 := f11_1.other W12 (Or.inr (slot_ne (Or.inr (hw _ (List.mem_of_getElem? (i := 25) rfl))) (Or.inl (hw _ (List.mem_of_getElem? (i := 11) rfl))) (by decide) (t := (.array .long)) (t' := .int) (by decide) (by decide)))
  have f12_1 := AR11.wr W12
  have K12 := (K11).wr W12 (Or.inl (List.mem_of_getElem? (i := 2) rfl))
  have Z12 := Nat.le_trans Z11 (Keep.of_wr W12).1
  have Fw12 := f11_6.same W12
  have N12 := Fr.snoc X12 N11 g_ob
  refine own_pre st12 ?_
  show OwnGoes p e below _ (T12.setTop (mkF m 57 #[.val (.ref ob), .val (.int (Int32.ofNat jn)), .val (.double (Jvm.FP.i2d z)), .second] []))
  refine own_pre (fun _ kz_ => XS.aloadN X12.here hx rfl (hb hby d6_57) rfl rfl kz_) ?_
  show OwnGoes p e below _ (T12.setTop (mkF m 58 #[.val (.ref ob), .val (.int (Int32.ofNat jn)), .val (.double (Jvm.FP.i2d z)), .second] [(.ref ob)]))
  refine own_pre (fun _ kz_ => XS.dloadN X12.here hx rfl (hb hby d6_58) rfl kz_) ?_
  show OwnGoes p e below _ (T12.setTop (mkF m 59 #[.val (.ref ob), .val (.int (Int32.ofNat jn)), .val (.double (Jvm.FP.i2d z)), .second] [(.double (Jvm.FP.i2d z)), (.ref ob)]))
  refine own_pre (fun _ kz_ => XS.dconst0 X12.here hx rfl (hb hby d6_59) (v := (0 : UInt64)) (by decide +kernel) kz_) ?_
  show OwnGoes p e below _ (T12.setTop (mkF m 60 #[.val (.ref ob), .val (.int (Int32.ofNat jn)), .val (.double (Jvm.FP.i2d z)), .second] [(.double (0 : UInt64)), (.double (Jvm.FP.i2d z)), (.ref ob)]))
  refine own_pre (fun _ kz_ => XS.dcmpS X12.here hx rfl (hb hby d6_60) rfl (v := (own_sg z)) (own_sgv z) kz_) ?_
  show OwnGoes p e below _ (T12.setTop (mkF m 61 #[.val (.ref ob), .val (.int (Int32.ofNat jn)), .val (.double (Jvm.FP.i2d z)), .second] [(.int (own_sg z)), (.ref ob)]))
  by_cases h61 : (0 : Int32) < (own_sg z)
  · refine own_pre (fun _ kz_ => XS.ifNo X12.here hx rfl (hb hby d6_61) rfl ((if0 _ _).trans (tlt h61).2.2.2) kz_) ?_
    show OwnGoes p e below _ (T12.setTop (mkF m 64 #[.val (.ref ob), .val (.int (Int32.ofNat jn)), .val (.double (Jvm.FP.i2d z)), .second] [(.ref ob)]))
    refine own_pre (fun _ kz_ => XS.bipush X12.here hx rfl (hb hby d6_64) kz_) ?_
    show OwnGoes p e below _ (T12.setTop (mkF m 66 #[.val (.ref ob), .val (.int (Int32.ofNat jn)), .val (.double (Jvm.FP.i2d z)), .second] [(.int (99 : Int32)), (.ref ob)]))
    refine own_pre (fun _ kz_ => XS.goto X12.here hx rfl (pc0 := 66) (pc' := 79) rfl (hb hby d6_66) (by decide) (by decide) kz_) ?_
    show OwnGoes p e below _ (T12.setTop (mkF m 79 #[.val (.ref ob), .val (.int (Int32.ofNat jn)), .val (.double (Jvm.FP.i2d z)), .second] [(.int (99 : Int32)), (.ref ob)]))
    obtain ⟨T13, h13, X13, e13, W13, st13⟩ := putF X12 hx hZ hown (host := "") (Or.inl (hw _ (List.mem_of_getElem? (i := 12) rfl))) Via.refl e12 f12_6 f12_8 (Or.inl (hw _ (List.mem_of_getElem? (i := 13) rfl))) (hw _ (List.mem_of_getElem? (i := 2) rfl)) (ty := .int) (by decide) rfl rfl (g := (mkF m 79 #[.val (.ref ob), .val (.int (Int32.ofNat jn)), .val (.double (Jvm.FP.i2d z)), .second] [(.int (99 : Int32)), (.ref ob)])) rfl rfl (hb hby d6_79)
    have f13_8 := f12_8.wr W13
    have f13_7 := Fw12.other W13 (Or.inr (slot_ne (Or.inl (hw _ (List.mem_of_getElem? (i := 11) rfl))) (Or.inl (hw _ (List.mem_of_getElem? (i := 13) rfl))) (by decide) (t := .int) (t' := .int) (by decide) (by decide)))
    have f13_5 := f12_5.other W13 (Or.inr (slot_ne (Or.inr (hw _ (List.mem_of_getElem? (i := 18) rfl))) (Or.inl (hw _ (List.mem_of_getElem? (i := 13) rfl))) (by decide) (t := (.array (.array .double))) (t' := .int) (by decide) (by decide)))
    have f13_4 := f12_4.other W13 (Or.inr (slot_ne (Or.inr (hw _ (List.mem_of_getElem? (i := 22) rfl))) (Or.inl (hw _ (List.mem_of_getElem? (i := 13) rfl))) (by decide) (t := (.array (.array (.array .double)))) (t' := .int) (by decide) (by decide)))
    have f13_3 := f12_3.other W13 (Or.inr (slot_ne (Or.inl (hw _ (List.mem_of_getElem? (i := 51) rfl))) (Or.inl (hw _ (List.mem_of_getElem? (i := 13) rfl))) (by decide) (t := .long) (t' := .int) (by decide) (by decide)))
    have f13_2 := f12_2.other W13 (Or.inr (slot_ne (Or.inr (hw _ (List.mem_of_getElem? (i := 25) rfl))) (Or.inl (hw _ (List.mem_of_getElem? (i := 13) rfl))) (by decide) (t := (.array .long)) (t' := .int) (by decide) (by decide)))
    have f13_1 := f12_1.wr W13
    have K13 := (K12).wr W13 (Or.inl (List.mem_of_getElem? (i := 2) rfl))
    have Z13 := Nat.le_trans Z12 (Keep.of_wr W13).1
    have Fw13 := f12_6.same W13
    have N13 := Fr.snoc X13 N12 g_ob
    refine own_pre st13 ?_
    show OwnGoes p e below _ (T13.setTop (mkF m 82 #[.val (.ref ob), .val (.int (Int32.ofNat jn)), .val (.double (Jvm.FP.i2d z)), .second] []))
    exact own_retV X13 hx Bd.returns Bd.notSynchronized (hb hby d6_82) ⟨rfl, N13, by rw [e13]; exact ⟨f13_8, f13_7, (by rw [show own_next mu z = (99 : Int32) from if_pos ((own_sgp z).mp h61)]; exact Fw13), f13_5, f13_4, f13_3, f13_2, f13_1, g_ob⟩⟩ (by decide) (by decide)
  · refine own_pre (fun _ kz_ => XS.ifYes X12.here hx rfl (pc0 := 61) (pc' := 69) rfl (hb hby d6_61) rfl ((if0 _ _).trans (flt h61).2.2.2) (by decide) (by decide) kz_) ?_
    show OwnGoes p e below _ (T12.setTop (mkF m 69 #[.val (.ref ob), .val (.int (Int32.ofNat jn)), .val (.double (Jvm.FP.i2d z)), .second] [(.ref ob)]))
    refine own_pre (fun _ kz_ => XS.iconst X12.here hx rfl (hb hby d6_69) kz_) ?_
    show OwnGoes p e below _ (T12.setTop (mkF m 70 #[.val (.ref ob), .val (.int (Int32.ofNat jn)), .val (.double (Jvm.FP.i2d z)), .second] [(.int (1 : Int32)), (.ref ob)]))
    refine own_pre (fun _ kz_ => XS.aloadN X12.here hx rfl (hb hby d6_70) rfl rfl kz_) ?_
    show OwnGoes p e below _ (T12.setTop (mkF m 71 #[.val (.ref ob), .val (.int (Int32.ofNat jn)), .val (.double (Jvm.FP.i2d z)), .second] [(.ref ob), (.int (1 : Int32)), (.ref ob)]))
    obtain ⟨T14, X14, e14, st14⟩ := getF X12 hx hZ hown (host := "") (Or.inl (hw _ (List.mem_of_getElem? (i := 12) rfl))) Via.refl e12 f12_6 (g := (mkF m 71 #[.val (.ref ob), .val (.int (Int32.ofNat jn)), .val (.double (Jvm.FP.i2d z)), .second] [(.ref ob), (.int (1 : Int32)), (.ref ob)])) rfl rfl (hb hby d6_71)
    refine own_pre st14 ?_
    show OwnGoes p e below _ (T14.setTop (mkF m 74 #[.val (.ref ob), .val (.int (Int32.ofNat jn)), .val (.double (Jvm.FP.i2d z)), .second] [(.int mu), (.int (1 : Int32)), (.ref ob)]))
    refine own_pre (fun _ kz_ => XS.iconst X14.here hx rfl (hb hby d6_74) kz_) ?_
    show OwnGoes p e below _ (T14.setTop (mkF m 75 #[.val (.ref ob), .val (.int (Int32.ofNat jn)), .val (.double (Jvm.FP.i2d z)), .second] [(.int (1 : Int32)), (.int mu), (.int (1 : Int32)), (.ref ob)]))
    refine own_pre (fun _ kz_ => XS.isub X14.here hx rfl (hb hby d6_75) rfl kz_) ?_
    show OwnGoes p e below _ (T14.setTop (mkF m 76 #[.val (.ref ob), .val (.int (Int32.ofNat jn)), .val (.double (Jvm.FP.i2d z)), .second] [(.int (mu - (1 : Int32))), (.int (1 : Int32)), (.ref ob)]))
    obtain ⟨_, _, ⟨T15, L15, k15, n15⟩, -, X15, ⟨Lc15, hQ15, l15, y15, z15⟩, st15⟩ := Jvm.LawKit.callS X14 hx (y := (⟨"java/lang/Math", "max", "(II)I"⟩ : MethodName)) hown (mvT hZ (hw _ (List.mem_of_getElem? (i := 55) rfl))) (mvT hZ (hw _ (List.mem_of_getElem? (i := 56) rfl))) (mvT hZ (hw _ (List.mem_of_getElem? (i := 57) rfl))) (mvT hZ (hw _ (List.mem_of_getElem? (i := 58) rfl))) (by decide) (backOf (W := 1) (rmMax l Z a0 hw [] (1 : Int32) (mu - (1 : Int32)) h12 n0 Z12) hZ (hw _ (List.mem_of_getElem? (i := 58) rfl)) (hw _ (List.mem_of_getElem? (i := 57) rfl)) (by decide) (by decide)) (g := (mkF m 76 #[.val (.ref ob), .val (.int (Int32.ofNat jn)), .val (.double (Jvm.FP.i2d z)), .second] [(.int (mu - (1 : Int32))), (.int (1 : Int32)), (.ref ob)])) rfl (by rw [hml]; rfl) (argsL := [(.int (1 : Int32)), (.int (mu - (1 : Int32)))]) (rest := [(.ref ob)]) (lenOf (d := "(II)I") (ps := [.int, .int]) (r := some .int) (by decide +kernel) rfl) rfl (by show 2 * 0 + _ ≤ _; exact Nat.le_of_eq rfl) (hb hby d6_76) (fun _ _ => ⟨rfl, e14, (by decide : 0 + 0 ≤ _), (by decide : 0 + 0 ≤ _)⟩)
    dsimp only [Pt.U, Pt.locs, Pt.cells, Pt.slots] at X15 l15 y15 z15 st15 hQ15
    subst l15 y15 z15
    obtain ⟨rfl, N15q, e15⟩ := hQ15
    have N15 := Fr.app N12 N15q
    refine own_pre st15 ?_
    show OwnGoes p e below _ (T15.setTop (mkF m 79 #[.val (.ref ob), .val (.int (Int32.ofNat jn)), .val (.double (Jvm.FP.i2d z)), .second] [(.int (own_max (1 : Int32) (mu - (1 : Int32)))), (.ref ob)]))
    obtain ⟨T16, h16, X16, e16, W16, st16⟩ := putF X15 hx hZ hown (host := "") (Or.inl (hw _ (List.mem_of_getElem? (i := 12) rfl))) Via.refl e15 f12_6 f12_8 (Or.inl (hw _ (List.mem_of_getElem? (i := 13) rfl))) (hw _ (List.mem_of_getElem? (i := 2) rfl)) (ty := .int) (by decide) rfl rfl (g := (mkF m 79 #[.val (.ref ob), .val (.int (Int32.ofNat jn)), .val (.double (Jvm.FP.i2d z)), .second] [(.int (own_max (1 : Int32) (mu - (1 : Int32)))), (.ref ob)])) rfl rfl (hb hby d6_79)
    have f16_8 := f12_8.wr W16
    have f16_7 := Fw12.other W16 (Or.inr (slot_ne (Or.inl (hw _ (List.mem_of_getElem? (i := 11) rfl))) (Or.inl (hw _ (List.mem_of_getElem? (i := 13) rfl))) (by decide) (t := .int) (t' := .int) (by decide) (by decide)))
    have f16_5 := f12_5.other W16 (Or.inr (slot_ne (Or.inr (hw _ (List.mem_of_getElem? (i := 18) rfl))) (Or.inl (hw _ (List.mem_of_getElem? (i := 13) rfl))) (by decide) (t := (.array (.array .double))) (t' := .int) (by decide) (by decide)))
    have f16_4 := f12_4.other W16 (Or.inr (slot_ne (Or.inr (hw _ (List.mem_of_getElem? (i := 22) rfl))) (Or.inl (hw _ (List.mem_of_getElem? (i := 13) rfl))) (by decide) (t := (.array (.array (.array .double)))) (t' := .int) (by decide) (by decide)))
    have f16_3 := f12_3.other W16 (Or.inr (slot_ne (Or.inl (hw _ (List.mem_of_getElem? (i := 51) rfl))) (Or.inl (hw _ (List.mem_of_getElem? (i := 13) rfl))) (by decide) (t := .long) (t' := .int) (by decide) (by decide)))
    have f16_2 := f12_2.other W16 (Or.inr (slot_ne (Or.inr (hw _ (List.mem_of_getElem? (i := 25) rfl))) (Or.inl (hw _ (List.mem_of_getElem? (i := 13) rfl))) (by decide) (t := (.array .long)) (t' := .int) (by decide) (by decide)))
    have f16_1 := f12_1.wr W16
    have K16 := (K12).wr W16 (Or.inl (List.mem_of_getElem? (i := 2) rfl))
    have Z16 := Nat.le_trans Z12 (Keep.of_wr W16).1
    have Fw16 := f12_6.same W16
    have N16 := Fr.snoc X16 N15 g_ob
    refine own_pre st16 ?_
    show OwnGoes p e below _ (T16.setTop (mkF m 82 #[.val (.ref ob), .val (.int (Int32.ofNat jn)), .val (.double (Jvm.FP.i2d z)), .second] []))
    exact own_retV X16 hx Bd.returns Bd.notSynchronized (hb hby d6_82) ⟨rfl, N16, by rw [e16]; exact ⟨f16_8, f16_7, (by rw [show own_next mu z = (own_max (1 : Int32) (mu - (1 : Int32))) from if_neg (fun qz => h61 ((own_sgp z).mpr qz))]; exact Fw16), f16_5, f16_4, f16_3, f16_2, f16_1, g_ob⟩⟩ (by decide) (by decide)
set_option maxRecDepth 65536 in
set_option maxHeartbeats 40000000 in
theorem rmDl (l : Launch) (Z : State) (a0 : Array Value) (hw : ∀ d ∈ tables_1, d.before a0 Z = true) (ws : List Jvm.Cond) (ob : Nat) (mu : Int32) (h0 : Heap) (n0 : Nat) (Z0 : n0 ≤ h0.size) (Fm : Fld Z h0 ob "com/example/hyperloom/hyperloom/hyperheuristic/ChoiceFunction" "mu" "I" (.int mu)) :
    MetFree l (⟨"com/example/hyperloom/hyperloom/hyperheuristic/ChoiceFunction", "delta", "()D"⟩ : MethodName) (head1 (Jvm.Cond.code (⟨"com/example/hyperloom/hyperloom/hyperheuristic/ChoiceFunction", "delta", "()D"⟩ : MethodName) prog_45_method_3_code 1 (some .double) :: ws) ({ frames := 0, cells := 0, slots := 0, locals := 0 } : Room)) (fun a U => a = #[(.ref ob)] ∧ Z.Warmed39 U.vm ∧ U.heap = h0) (fun _ _ _ _ _ => True) (fun _ Uw_ ow_ Ue_ => ∃ vw_ Lw_, ow_ = .returned vw_ ∧ QD (Jvm.FP.ddiv (Jvm.FP.i2d ((100 : Int32) - mu)) (4636737291354636288 : UInt64)) h0 n0 vw_ Ue_.heap Lw_ ∧ FrameEnd Uw_ ow_ Ue_ Lw_ ({ frames := 0, cells := 0, slots := 0, locals := 0 } : Room).cells ({ frames := 0, cells := 0, slots := 0, locals := 0 } : Room).slots) := by
  refine MetFree.of_bodySF (plainFor_of_name (by first | (simp [plainName, overriddenIn]; done) | decide +kernel)) hisR ?_
  intro p e s m args below meth c s₁ Bd hml0 hP hK
  obtain ⟨rfl, hZ, hh⟩ := hP
  have hx := Bd.exec
  have hby := Bd.bytes
  have hml : c.maxLocals = 1 := hml0
  have hown : s.vm.findClass "com/example/hyperloom/hyperloom/hyperheuristic/ChoiceFunction" = some m.cls := findClass_of_methodNamed Bd.named
  have hnm := (name_of_methodNamed Bd.named Bd.method).1
  have X0 : Stand p l e ({ frames := 0, cells := 0, slots := 0, locals := 0 } : Room) s m #[(.ref ob)] below meth c s₁ [] 0 0 := Stand.of_body Bd
  have e0 : s₁.heap = h0 := by rw [← hh, Bd.state]; rfl
  have N0 := Fr.nil n0
  have ef : entryFrame m #[(.ref ob)] 1 = (mkF m 0 #[.val (.ref ob)] []) := by first | (simp [entryFrame, mkF, argsToLocals, Value.category]; done) | rfl
  show OwnGoes p e below (fun ow_ Ue_ => ∃ vw_ Lw_, ow_ = .returned vw_ ∧ QD (Jvm.FP.ddiv (Jvm.FP.i2d ((100 : Int32) - mu)) (4636737291354636288 : UInt64)) h0 n0 vw_ Ue_.heap Lw_ ∧ FrameEnd s ow_ Ue_ Lw_ ({ frames := 0, cells := 0, slots := 0, locals := 0 } : Room).cells ({ frames := 0, cells := 0, slots := 0, locals := 0 } : Room).slots) (s₁.setTop (entryFrame m #[(.ref ob)] 1))
  refine own_pre (fun t k => castTop ef k) ?_
  show OwnGoes p e below _ (s₁.setTop (mkF m 0 #[.val (.ref ob)] []))
  refine own_pre (fun _ kz_ => XS.bipush X0.here hx rfl (hb hby d3_0) kz_) ?_
  show OwnGoes p e below _ (s₁.setTop (mkF m 2 #[.val (.ref ob)] [(.int (100 : Int32))]))
  refine own_pre (fun _ kz_ => XS.aloadN X0.here hx rfl (hb hby d3_2) rfl rfl kz_) ?_
  show OwnGoes p e below _ (s₁.setTop (mkF m 3 #[.val (.ref ob)] [(.ref ob), (.int (100 : Int32))]))
  obtain ⟨T1, X1, e1, st1⟩ := getF X0 hx hZ hown (host := "") (Or.inl (hw _ (List.mem_of_getElem? (i := 12) rfl))) Via.refl e0 Fm (g := (mkF m 3 #[.val (.ref ob)] [(.ref ob), (.int (100 : Int32))])) rfl rfl (hb hby d3_3)
  refine own_pre st1 ?_
  show OwnGoes p e below _ (T1.setTop (mkF m 6 #[.val (.ref ob)] [(.int mu), (.int (100 : Int32))]))
  refine own_pre (fun _ kz_ => XS.isub X1.here hx rfl (hb hby d3_6) rfl kz_) ?_
  show OwnGoes p e below _ (T1.setTop (mkF m 7 #[.val (.ref ob)] [(.int ((100 : Int32) - mu))]))
  refine own_pre (fun _ kz_ => XS.i2dS X1.here hx rfl (hb hby d3_7) rfl rfl kz_) ?_
  show OwnGoes p e below _ (T1.setTop (mkF m 8 #[.val (.ref ob)] [(.double (Jvm.FP.i2d ((100 : Int32) - mu)))]))
  refine own_pre (fun _ kz_ => X1.ldc2DoubleC hx hown (mvT hZ (hw _ (List.mem_of_getElem? (i := 33) rfl))) (g := (mkF m 8 #[.val (.ref ob)] [(.double (Jvm.FP.i2d ((100 : Int32) - mu)))])) rfl (hb hby d3_8) _ kz_) ?_
  show OwnGoes p e below _ (T1.setTop (mkF m 11 #[.val (.ref ob)] [(.double (4636737291354636288 : UInt64)), (.double (Jvm.FP.i2d ((100 : Int32) - mu)))]))
  refine own_pre (fun _ kz_ => XS.ddivS X1.here hx rfl (hb hby d3_11) rfl (own_nn1 _) rfl kz_) ?_
  show OwnGoes p e below _ (T1.setTop (mkF m 12 #[.val (.ref ob)] [(.double (Jvm.FP.ddiv (Jvm.FP.i2d ((100 : Int32) - mu)) (4636737291354636288 : UInt64)))]))
  exact own_ret X1 hx Bd.returns (rfl) (Or.inr (Or.inr (Or.inl ⟨rfl, rfl, _, rfl⟩))) Bd.notSynchronized (hb hby d3_12) ⟨rfl, N0, e1⟩ (by decide) (by decide)
theorem d4_0 : decode method_3_code 0 = .ok (.iload_n 0, 1) := by decide +kernel
theorem d4_1 : decode method_3_code 1 = .ok (.bipush 8, 2) := by decide +kernel
theorem d4_3 : decode method_3_code 3 = .ok (.iload_n 1, 1) := by decide +kernel
theorem d4_4 : decode method_3_code 4 = .ok (.imul, 1) := by decide +kernel
theorem d4_5 : decode method_3_code 5 = .ok (.iushr, 1) := by decide +kernel
theorem d4_6 : decode method_3_code 6 = .ok (.sipush 255, 3) := by decide +kernel
theorem d4_9 : decode method_3_code 9 = .ok (.iand, 1) := by decide +kernel
theorem d4_10 : decode method_3_code 10 = .ok (.iconst 3, 1) := by decide +kernel
theorem d4_11 : decode method_3_code 11 = .ok (.irem, 1) := by decide +kernel
theorem d4_12 : decode method_3_code 12 = .ok (.ireturn, 1) := by decide +kernel
theorem d5_0 : decode method_4_code 0 = .ok (.iload_n 0, 1) := by decide +kernel
theorem d5_1 : decode method_4_code 1 = .ok (.sipush 1000, 3) := by decide +kernel
theorem d5_4 : decode method_4_code 4 = .ok (.irem, 1) := by decide +kernel
theorem d5_5 : decode method_4_code 5 = .ok (.i2d, 1) := by decide +kernel
theorem d5_6 : decode method_4_code 6 = .ok (.dreturn, 1) := by decide +kernel
theorem d8_0 : decode method_5_code 0 = .ok (.iload_n 1, 1) := by decide +kernel
theorem d8_1 : decode method_5_code 1 = .ok (.ifCond .le 6, 3) := by decide +kernel
theorem d8_4 : decode method_5_code 4 = .ok (.bipush 99, 2) := by decide +kernel
theorem d8_6 : decode method_5_code 6 = .ok (.ireturn, 1) := by decide +kernel
theorem d8_7 : decode method_5_code 7 = .ok (.iconst 1, 1) := by decide +kernel
theorem d8_8 : decode method_5_code 8 = .ok (.iload_n 0, 1) := by decide +kernel
theorem d8_9 : decode method_5_code 9 = .ok (.iconst 1, 1) := by decide +kernel
theorem d8_10 : decode method_5_code 10 = .ok (.isub, 1) := by decide +kernel
theorem d8_11 : decode method_5_code 11 = .ok (.invokestatic 36, 3) := by decide +kernel
theorem d8_14 : decode method_5_code 14 = .ok (.ireturn, 1) := by decide +kernel

theorem own_p3 (y : Int32) : ∃ jn : Nat, jn < 3 ∧ (y &&& (255 : Int32)) % (3 : Int32) = Int32.ofNat jn := by
  have h1 := c_mask y 255 8 (by decide) (by decide)
  have h2 := (c_irem (y &&& 255) (3 : Int32) 3 (by decide)).1 (by rw [h1]; omega)
  have h3 : ((y &&& 255) % (3 : Int32)).toInt = 0 ∨ ((y &&& 255) % (3 : Int32)).toInt = 1 ∨ ((y &&& 255) % (3 : Int32)).toInt = 2 := by omega
  rcases h3 with h | h | h
  · exact ⟨0, by decide, Int32.toInt_inj.mp h⟩
  · exact ⟨1, by decide, Int32.toInt_inj.mp h⟩
  · exact ⟨2, by decide, Int32.toInt_inj.mp h⟩

def QPk  (h0 : Heap) (n0 : Nat) (v : Option Value) (h : Heap) (L : List Loc) : Prop := ∃ jn : Nat, jn < 3 ∧ v = some (.int (Int32.ofNat jn)) ∧ Fr n0 L ∧ h = h0
set_option maxRecDepth 65536 in
set_option maxHeartbeats 40000000 in
theorem rmPk (l : Launch) (Z : State) (a0 : Array Value) (hw : ∀ d ∈ tables_1, d.before a0 Z = true) (ws : List Jvm.Cond) (x i : Int32) (h0 : Heap) (n0 : Nat) (Z0 : n0 ≤ h0.size) :
    MetFree l (⟨"com/example/hyperloom/hyperloom/hyperheuristic/ChoiceFunctionDeltaPinLaw", "pick", "(II)I"⟩ : MethodName) (head1 (Jvm.Cond.code (⟨"com/example/hyperloom/hyperloom/hyperheuristic/ChoiceFunctionDeltaPinLaw", "pick", "(II)I"⟩ : MethodName) method_3_code 2 (some .int) :: ws) ({ frames := 0, cells := 0, slots := 0, locals := 0 } : Room)) (fun a U => a = #[(.int x), (.int i)] ∧ Z.Warmed39 U.vm ∧ U.heap = h0) (fun _ _ _ _ _ => True) (fun _ Uw_ ow_ Ue_ => ∃ vw_ Lw_, ow_ = .returned vw_ ∧ QPk h0 n0 vw_ Ue_.heap Lw_ ∧ FrameEnd Uw_ ow_ Ue_ Lw_ ({ frames := 0, cells := 0, slots := 0, locals := 0 } : Room).cells ({ frames := 0, cells := 0, slots := 0, locals := 0 } : Room).slots) := by
  refine MetFree.of_bodySF (plainFor_of_name (by first | (simp [plainName, overriddenIn]; done) | decide +kernel)) hisR ?_
  intro p e s m args below meth c s₁ Bd hml0 hP hK
  obtain ⟨rfl, hZ, hh⟩ := hP
  have hx := Bd.exec
  have hby := Bd.bytes
  have hml : c.maxLocals = 2 := hml0
  have hown : s.vm.findClass "com/example/hyperloom/hyperloom/hyperheuristic/ChoiceFunctionDeltaPinLaw" = some m.cls := findClass_of_methodNamed Bd.named
  have hnm := (name_of_methodNamed Bd.named Bd.method).1
  have X0 : Stand p l e ({ frames := 0, cells := 0, slots := 0, locals := 0 } : Room) s m #[(.int x), (.int i)] below meth c s₁ [] 0 0 := Stand.of_body Bd
  have e0 : s₁.heap = h0 := by rw [← hh, Bd.state]; rfl
  have N0 := Fr.nil n0
  have ef : entryFrame m #[(.int x), (.int i)] 2 = (mkF m 0 #[.val (.int x), .val (.int i)] []) := by first | (simp [entryFrame, mkF, argsToLocals, Value.category]; done) | rfl
  show OwnGoes p e below (fun ow_ Ue_ => ∃ vw_ Lw_, ow_ = .returned vw_ ∧ QPk h0 n0 vw_ Ue_.heap Lw_ ∧ FrameEnd s ow_ Ue_ Lw_ ({ frames := 0, cells := 0, slots := 0, locals := 0 } : Room).cells ({ frames := 0, cells := 0, slots := 0, locals := 0 } : Room).slots) (s₁.setTop (entryFrame m #[(.int x), (.int i)] 2))
  refine own_pre (fun t k => castTop ef k) ?_
  show OwnGoes p e below _ (s₁.setTop (mkF m 0 #[.val (.int x), .val (.int i)] []))
  refine own_pre (fun _ kz_ => XS.iloadN X0.here hx rfl (hb hby d4_0) rfl kz_) ?_
  show OwnGoes p e below _ (s₁.setTop (mkF m 1 #[.val (.int x), .val (.int i)] [(.int x)]))
  refine own_pre (fun _ kz_ => XS.bipush X0.here hx rfl (hb hby d4_1) kz_) ?_
  show OwnGoes p e below _ (s₁.setTop (mkF m 3 #[.val (.int x), .val (.int i)] [(.int (8 : Int32)), (.int x)]))
  refine own_pre (fun _ kz_ => XS.iloadN X0.here hx rfl (hb hby d4_3) rfl kz_) ?_
  show OwnGoes p e below _ (s₁.setTop (mkF m 4 #[.val (.int x), .val (.int i)] [(.int i), (.int (8 : Int32)), (.int x)]))
  refine own_pre (fun _ kz_ => XS.imul X0.here hx rfl (hb hby d4_4) rfl kz_) ?_
  show OwnGoes p e below _ (s₁.setTop (mkF m 5 #[.val (.int x), .val (.int i)] [(.int ((8 : Int32) * i)), (.int x)]))
  refine own_pre (fun _ kz_ => XS.iushr X0.here hx rfl (hb hby d4_5) rfl kz_) ?_
  show OwnGoes p e below _ (s₁.setTop (mkF m 6 #[.val (.int x), .val (.int i)] [(.int ((x.toUInt32 >>> (((8 : Int32) * i) &&& 31).toUInt32).toInt32))]))
  refine own_pre (fun _ kz_ => XS.sipush X0.here hx rfl (hb hby d4_6) kz_) ?_
  show OwnGoes p e below _ (s₁.setTop (mkF m 9 #[.val (.int x), .val (.int i)] [(.int (255 : Int32)), (.int ((x.toUInt32 >>> (((8 : Int32) * i) &&& 31).toUInt32).toInt32))]))
  refine own_pre (fun _ kz_ => XS.iand X0.here hx rfl (hb hby d4_9) rfl kz_) ?_
  show OwnGoes p e below _ (s₁.setTop (mkF m 10 #[.val (.int x), .val (.int i)] [(.int (((x.toUInt32 >>> (((8 : Int32) * i) &&& 31).toUInt32).toInt32) &&& (255 : Int32)))]))
  refine own_pre (fun _ kz_ => XS.iconst X0.here hx rfl (hb hby d4_10) kz_) ?_
  show OwnGoes p e below _ (s₁.setTop (mkF m 11 #[.val (.int x), .val (.int i)] [(.int (3 : Int32)), (.int (((x.toUInt32 >>> (((8 : Int32) * i) &&& 31).toUInt32).toInt32) &&& (255 : Int32)))]))
  refine own_pre (fun _ kz_ => iremM X0 hx rfl (hb hby d4_11) rfl (by decide) kz_) ?_
  show OwnGoes p e below _ (s₁.setTop (mkF m 12 #[.val (.int x), .val (.int i)] [(.int ((((x.toUInt32 >>> (((8 : Int32) * i) &&& 31).toUInt32).toInt32) &&& (255 : Int32)) % (3 : Int32)))]))
  exact own_ret X0 hx Bd.returns (rfl) (Or.inl ⟨rfl, by simp, _, rfl⟩) Bd.notSynchronized (hb hby d4_12) (by obtain ⟨jn, hj, q⟩ := own_p3 _; exact ⟨jn, hj, congrArg (fun z => some (Value.int z)) q, N0, e0⟩) (by decide) (by decide)
set_option maxRecDepth 65536 in
set_option maxHeartbeats 40000000 in
theorem rmIm (l : Launch) (Z : State) (a0 : Array Value) (hw : ∀ d ∈ tables_1, d.before a0 Z = true) (ws : List Jvm.Cond) (x : Int32) (h0 : Heap) (n0 : Nat) (Z0 : n0 ≤ h0.size) :
    MetFree l (⟨"com/example/hyperloom/hyperloom/hyperheuristic/ChoiceFunctionDeltaPinLaw", "imp", "(I)D"⟩ : MethodName) (head1 (Jvm.Cond.code (⟨"com/example/hyperloom/hyperloom/hyperheuristic/ChoiceFunctionDeltaPinLaw", "imp", "(I)D"⟩ : MethodName) method_4_code 1 (some .double) :: ws) ({ frames := 0, cells := 0, slots := 0, locals := 0 } : Room)) (fun a U => a = #[(.int x)] ∧ Z.Warmed39 U.vm ∧ U.heap = h0) (fun _ _ _ _ _ => True) (fun _ Uw_ ow_ Ue_ => ∃ vw_ Lw_, ow_ = .returned vw_ ∧ QD (Jvm.FP.i2d (x % (1000 : Int32))) h0 n0 vw_ Ue_.heap Lw_ ∧ FrameEnd Uw_ ow_ Ue_ Lw_ ({ frames := 0, cells := 0, slots := 0, locals := 0 } : Room).cells ({ frames := 0, cells := 0, slots := 0, locals := 0 } : Room).slots) := by
  refine MetFree.of_bodySF (plainFor_of_name (by first | (simp [plainName, overriddenIn]; done) | decide +kernel)) hisR ?_
  intro p e s m args below meth c s₁ Bd hml0 hP hK
  obtain ⟨rfl, hZ, hh⟩ := hP
  have hx := Bd.exec
  have hby := Bd.bytes
  have hml : c.maxLocals = 1 := hml0
  have hown : s.vm.findClass "com/example/hyperloom/hyperloom/hyperheuristic/ChoiceFunctionDeltaPinLaw" = some m.cls := findClass_of_methodNamed Bd.named
  have hnm := (name_of_methodNamed Bd.named Bd.method).1
  have X0 : Stand p l e ({ frames := 0, cells := 0, slots := 0, locals := 0 } : Room) s m #[(.int x)] below meth c s₁ [] 0 0 := Stand.of_body Bd
  have e0 : s₁.heap = h0 := by rw [← hh, Bd.state]; rfl
  have N0 := Fr.nil n0
  have ef : entryFrame m #[(.int x)] 1 = (mkF m 0 #[.val (.int x)] []) := by first | (simp [entryFrame, mkF, argsToLocals, Value.category]; done) | rfl
  show OwnGoes p e below (fun ow_ Ue_ => ∃ vw_ Lw_, ow_ = .returned vw_ ∧ QD (Jvm.FP.i2d (x % (1000 : Int32))) h0 n0 vw_ Ue_.heap Lw_ ∧ FrameEnd s ow_ Ue_ Lw_ ({ frames := 0, cells := 0, slots := 0, locals := 0 } : Room).cells ({ frames := 0, cells := 0, slots := 0, locals := 0 } : Room).slots) (s₁.setTop (entryFrame m #[(.int x)] 1))
  refine own_pre (fun t k => castTop ef k) ?_
  show OwnGoes p e below _ (s₁.setTop (mkF m 0 #[.val (.int x)] []))
  refine own_pre (fun _ kz_ => XS.iloadN X0.here hx rfl (hb hby d5_0) rfl kz_) ?_
  show OwnGoes p e below _ (s₁.setTop (mkF m 1 #[.val (.int x)] [(.int x)]))
  refine own_pre (fun _ kz_ => XS.sipush X0.here hx rfl (hb hby d5_1) kz_) ?_
  show OwnGoes p e below _ (s₁.setTop (mkF m 4 #[.val (.int x)] [(.int (1000 : Int32)), (.int x)]))
  refine own_pre (fun _ kz_ => iremM X0 hx rfl (hb hby d5_4) rfl (by decide) kz_) ?_
  show OwnGoes p e below _ (s₁.setTop (mkF m 5 #[.val (.int x)] [(.int (x % (1000 : Int32)))]))
  refine own_pre (fun _ kz_ => XS.i2dS X0.here hx rfl (hb hby d5_5) rfl rfl kz_) ?_
  show OwnGoes p e below _ (s₁.setTop (mkF m 6 #[.val (.int x)] [(.double (Jvm.FP.i2d (x % (1000 : Int32))))]))
  exact own_ret X0 hx Bd.returns (rfl) (Or.inr (Or.inr (Or.inl ⟨rfl, rfl, _, rfl⟩))) Bd.notSynchronized (hb hby d5_6) ⟨rfl, N0, e0⟩ (by decide) (by decide)
set_option maxRecDepth 65536 in
set_option maxHeartbeats 40000000 in
theorem rmNx (l : Launch) (Z : State) (a0 : Array Value) (hw : ∀ d ∈ tables_1, d.before a0 Z = true) (ws : List Jvm.Cond) (mu x : Int32) (h0 : Heap) (n0 : Nat) (Z0 : n0 ≤ h0.size) :
    MetFree l (⟨"com/example/hyperloom/hyperloom/hyperheuristic/ChoiceFunctionDeltaPinLaw", "next", "(II)I"⟩ : MethodName) (head1 (Jvm.Cond.code (⟨"com/example/hyperloom/hyperloom/hyperheuristic/ChoiceFunctionDeltaPinLaw", "next", "(II)I"⟩ : MethodName) method_5_code 2 (some .int) :: ws) ({ frames := 1, cells := 0, slots := 0, locals := 13 } : Room)) (fun a U => a = #[(.int mu), (.int x)] ∧ Z.Warmed39 U.vm ∧ U.heap = h0) (fun _ _ _ _ _ => True) (fun _ Uw_ ow_ Ue_ => ∃ vw_ Lw_, ow_ = .returned vw_ ∧ QI (own_next mu x) h0 n0 vw_ Ue_.heap Lw_ ∧ FrameEnd Uw_ ow_ Ue_ Lw_ ({ frames := 1, cells := 0, slots := 0, locals := 13 } : Room).cells ({ frames := 1, cells := 0, slots := 0, locals := 13 } : Room).slots) := by
  refine MetFree.of_bodySF (plainFor_of_name (by first | (simp [plainName, overriddenIn]; done) | decide +kernel)) hisR ?_
  intro p e s m args below meth c s₁ Bd hml0 hP hK
  obtain ⟨rfl, hZ, hh⟩ := hP
  have hx := Bd.exec
  have hby := Bd.bytes
  have hml : c.maxLocals = 2 := hml0
  have hown : s.vm.findClass "com/example/hyperloom/hyperloom/hyperheuristic/ChoiceFunctionDeltaPinLaw" = some m.cls := findClass_of_methodNamed Bd.named
  have hnm := (name_of_methodNamed Bd.named Bd.method).1
  have X0 : Stand p l e ({ frames := 1, cells := 0, slots := 0, locals := 13 } : Room) s m #[(.int mu), (.int x)] below meth c s₁ [] 0 0 := Stand.of_body Bd
  have e0 : s₁.heap = h0 := by rw [← hh, Bd.state]; rfl
  have N0 := Fr.nil n0
  have ef : entryFrame m #[(.int mu), (.int x)] 2 = (mkF m 0 #[.val (.int mu), .val (.int x)] []) := by first | (simp [entryFrame, mkF, argsToLocals, Value.category]; done) | rfl
  show OwnGoes p e below (fun ow_ Ue_ => ∃ vw_ Lw_, ow_ = .returned vw_ ∧ QI (own_next mu x) h0 n0 vw_ Ue_.heap Lw_ ∧ FrameEnd s ow_ Ue_ Lw_ ({ frames := 1, cells := 0, slots := 0, locals := 13 } : Room).cells ({ frames := 1, cells := 0, slots := 0, locals := 13 } : Room).slots) (s₁.setTop (entryFrame m #[(.int mu), (.int x)] 2))
  refine own_pre (fun t k => castTop ef k) ?_
  show OwnGoes p e below _ (s₁.setTop (mkF m 0 #[.val (.int mu), .val (.int x)] []))
  refine own_pre (fun _ kz_ => XS.iloadN X0.here hx rfl (hb hby d8_0) rfl kz_) ?_
  show OwnGoes p e below _ (s₁.setTop (mkF m 1 #[.val (.int mu), .val (.int x)] [(.int x)]))
  by_cases h1 : (0 : Int32) < x
  · refine own_pre (fun _ kz_ => XS.ifNo X0.here hx rfl (hb hby d8_1) rfl ((if0 _ _).trans (tlt h1).2.2.2) kz_) ?_
    show OwnGoes p e below _ (s₁.setTop (mkF m 4 #[.val (.int mu), .val (.int x)] []))
    refine own_pre (fun _ kz_ => XS.bipush X0.here hx rfl (hb hby d8_4) kz_) ?_
    show OwnGoes p e below _ (s₁.setTop (mkF m 6 #[.val (.int mu), .val (.int x)] [(.int (99 : Int32))]))
    exact own_ret X0 hx Bd.returns (rfl) (Or.inl ⟨rfl, by simp, _, rfl⟩) Bd.notSynchronized (hb hby d8_6) ⟨by unfold own_next; rw [if_pos h1], N0, e0⟩ (by decide) (by decide)
  · refine own_pre (fun _ kz_ => XS.ifYes X0.here hx rfl (pc0 := 1) (pc' := 7) rfl (hb hby d8_1) rfl ((if0 _ _).trans (flt h1).2.2.2) (by decide) (by decide) kz_) ?_
    show OwnGoes p e below _ (s₁.setTop (mkF m 7 #[.val (.int mu), .val (.int x)] []))
    refine own_pre (fun _ kz_ => XS.iconst X0.here hx rfl (hb hby d8_7) kz_) ?_
    show OwnGoes p e below _ (s₁.setTop (mkF m 8 #[.val (.int mu), .val (.int x)] [(.int (1 : Int32))]))
    refine own_pre (fun _ kz_ => XS.iloadN X0.here hx rfl (hb hby d8_8) rfl kz_) ?_
    show OwnGoes p e below _ (s₁.setTop (mkF m 9 #[.val (.int mu), .val (.int x)] [(.int mu), (.int (1 : Int32))]))
    refine own_pre (fun _ kz_ => XS.iconst X0.here hx rfl (hb hby d8_9) kz_) ?_
    show OwnGoes p e below _ (s₁.setTop (mkF m 10 #[.val (.int mu), .val (.int x)] [(.int (1 : Int32)), (.int mu), (.int (1 : Int32))]))
    refine own_pre (fun _ kz_ => XS.isub X0.here hx rfl (hb hby d8_10) rfl kz_) ?_
    show OwnGoes p e below _ (s₁.setTop (mkF m 11 #[.val (.int mu), .val (.int x)] [(.int (mu - (1 : Int32))), (.int (1 : Int32))]))
    obtain ⟨_, _, ⟨T1, L1, k1, n1⟩, -, X1, ⟨Lc1, hQ1, l1, y1, z1⟩, st1⟩ := Jvm.LawKit.callS X0 hx (y := (⟨"java/lang/Math", "max", "(II)I"⟩ : MethodName)) hown (mvT hZ (hw _ (List.mem_of_getElem? (i := 59) rfl))) (mvT hZ (hw _ (List.mem_of_getElem? (i := 56) rfl))) (mvT hZ (hw _ (List.mem_of_getElem? (i := 57) rfl))) (mvT hZ (hw _ (List.mem_of_getElem? (i := 58) rfl))) (by decide) (backOf (W := 0) (rmMax l Z a0 hw [] (1 : Int32) (mu - (1 : Int32)) h0 n0 Z0) hZ (hw _ (List.mem_of_getElem? (i := 58) rfl)) (hw _ (List.mem_of_getElem? (i := 57) rfl)) (by decide) (by decide)) (g := (mkF m 11 #[.val (.int mu), .val (.int x)] [(.int (mu - (1 : Int32))), (.int (1 : Int32))])) rfl (by rw [hml]; rfl) (argsL := [(.int (1 : Int32)), (.int (mu - (1 : Int32)))]) (rest := []) (lenOf (d := "(II)I") (ps := [.int, .int]) (r := some .int) (by decide +kernel) rfl) rfl (by show 2 * 0 + _ ≤ _; exact Nat.le_of_eq rfl) (hb hby d8_11) (fun _ _ => ⟨rfl, e0, (by decide : 0 + 0 ≤ _), (by decide : 0 + 0 ≤ _)⟩)
    dsimp only [Pt.U, Pt.locs, Pt.cells, Pt.slots] at X1 l1 y1 z1 st1 hQ1
    subst l1 y1 z1
    obtain ⟨rfl, N1q, e1⟩ := hQ1
    have N1 := Fr.app N0 N1q
    refine own_pre st1 ?_
    show OwnGoes p e below _ (T1.setTop (mkF m 14 #[.val (.int mu), .val (.int x)] [(.int (own_max (1 : Int32) (mu - (1 : Int32))))]))
    exact own_ret X1 hx Bd.returns (rfl) (Or.inl ⟨rfl, by simp, _, rfl⟩) Bd.notSynchronized (hb hby d8_14) ⟨by unfold own_next; rw [if_neg h1], N1, e1⟩ (by decide) (by decide)
def Q0  (h0 : Heap) (n0 : Nat) (v : Option Value) (h : Heap) (L : List Loc) : Prop := v = some (.int (1 : Int32)) ∧ Fr n0 L
theorem own_m0 : ∀ (x i : Nat), Jvm.Free.Fl.Mag64 1056 ((fun (_ _ : Nat) => (0 : UInt64)) x i) := fun _ _ => by show (0 : UInt64).toNat % 9223372036854775808 < 1056 * 4503599627370496; decide +kernel
set_option maxRecDepth 65536 in
set_option maxHeartbeats 40000000 in
theorem rm0 (l : Launch) (Z : State) (a0 : Array Value) (hw : ∀ d ∈ tables_1, d.before a0 Z = true) (ws : List Jvm.Cond) (p0 p1 p2 p3 p4 p5 : Int32) (h0 : Heap) (n0 : Nat) (Z0 : n0 ≤ h0.size) :
    MetFree l x (head1 (Jvm.Cond.code x code maxLocals ret :: ws) room_1) (fun a U => a = #[(.int p0), (.int p1), (.int p2), (.int p3), (.int p4), (.int p5)] ∧ Z.Warmed39 U.vm ∧ U.heap = h0) (fun _ _ _ _ _ => True) (fun _ Uw_ ow_ Ue_ => ∃ vw_ Lw_, ow_ = .returned vw_ ∧ Q0 h0 n0 vw_ Ue_.heap Lw_ ∧ FrameEnd Uw_ ow_ Ue_ Lw_ room_1.cells room_1.slots) := by
  refine MetFree.of_bodySF (plainFor_of_name (by first | (simp [plainName, overriddenIn]; done) | decide +kernel)) hisR ?_
  intro p e s m args below meth c s₁ Bd hml0 hP hK
  obtain ⟨rfl, hZ, hh⟩ := hP
  have hx := Bd.exec
  have hby := Bd.bytes
  have hml : c.maxLocals = 11 := hml0
  have hown : s.vm.findClass "com/example/hyperloom/hyperloom/hyperheuristic/ChoiceFunctionDeltaPinLaw" = some m.cls := findClass_of_methodNamed Bd.named
  have hnm := (name_of_methodNamed Bd.named Bd.method).1
  have X0 : Stand p l e room_1 s m #[(.int p0), (.int p1), (.int p2), (.int p3), (.int p4), (.int p5)] below meth c s₁ [] 0 0 := Stand.of_body Bd
  have e0 : s₁.heap = h0 := by rw [← hh, Bd.state]; rfl
  have N0 := Fr.nil n0
  have ef : entryFrame m #[(.int p0), (.int p1), (.int p2), (.int p3), (.int p4), (.int p5)] maxLocals = (mkF m 0 #[.val (.int p0), .val (.int p1), .val (.int p2), .val (.int p3), .val (.int p4), .val (.int p5), .unset, .unset, .unset, .unset, .unset] []) := by first | (simp [entryFrame, mkF, argsToLocals, Value.category, maxLocals]; done) | rfl
  show OwnGoes p e below (fun ow_ Ue_ => ∃ vw_ Lw_, ow_ = .returned vw_ ∧ Q0 h0 n0 vw_ Ue_.heap Lw_ ∧ FrameEnd s ow_ Ue_ Lw_ room_1.cells room_1.slots) (s₁.setTop (entryFrame m #[(.int p0), (.int p1), (.int p2), (.int p3), (.int p4), (.int p5)] maxLocals))
  refine own_pre (fun t k => castTop ef k) ?_
  show OwnGoes p e below _ (s₁.setTop (mkF m 0 #[.val (.int p0), .val (.int p1), .val (.int p2), .val (.int p3), .val (.int p4), .val (.int p5), .unset, .unset, .unset, .unset, .unset] []))
  refine own_pre (fun _ kz_ => XS.iloadN X0.here hx rfl (hb hby at_0) rfl kz_) ?_
  show OwnGoes p e below _ (s₁.setTop (mkF m 1 #[.val (.int p0), .val (.int p1), .val (.int p2), .val (.int p3), .val (.int p4), .val (.int p5), .unset, .unset, .unset, .unset, .unset] [(.int p0)]))
  refine own_pre (fun _ kz_ => X0.ldcInt hx hown (mvT hZ (hw _ (List.mem_of_getElem? (i := 0) rfl))) (g := (mkF m 1 #[.val (.int p0), .val (.int p1), .val (.int p2), .val (.int p3), .val (.int p4), .val (.int p5), .unset, .unset, .unset, .unset, .unset] [(.int p0)])) rfl (hb hby at_1) _ kz_) ?_
  show OwnGoes p e below _ (s₁.setTop (mkF m 3 #[.val (.int p0), .val (.int p1), .val (.int p2), .val (.int p3), .val (.int p4), .val (.int p5), .unset, .unset, .unset, .unset, .unset] [(.int (2147483647 : Int32)), (.int p0)]))
  refine own_pre (fun _ kz_ => XS.iand X0.here hx rfl (hb hby at_3) rfl kz_) ?_
  show OwnGoes p e below _ (s₁.setTop (mkF m 4 #[.val (.int p0), .val (.int p1), .val (.int p2), .val (.int p3), .val (.int p4), .val (.int p5), .unset, .unset, .unset, .unset, .unset] [(.int (p0 &&& (2147483647 : Int32)))]))
  refine own_pre (fun _ kz_ => XS.iconst X0.here hx rfl (hb hby at_4) kz_) ?_
  show OwnGoes p e below _ (s₁.setTop (mkF m 5 #[.val (.int p0), .val (.int p1), .val (.int p2), .val (.int p3), .val (.int p4), .val (.int p5), .unset, .unset, .unset, .unset, .unset] [(.int (5 : Int32)), (.int (p0 &&& (2147483647 : Int32)))]))
  refine own_pre (fun _ kz_ => iremM X0 hx rfl (hb hby at_5) rfl (by decide) kz_) ?_
  show OwnGoes p e below _ (s₁.setTop (mkF m 6 #[.val (.int p0), .val (.int p1), .val (.int p2), .val (.int p3), .val (.int p4), .val (.int p5), .unset, .unset, .unset, .unset, .unset] [(.int ((p0 &&& (2147483647 : Int32)) % (5 : Int32)))]))
  refine own_pre (fun _ kz_ => XS.istore X0.here hx rfl (hb hby at_6) rfl (l' := #[.val (.int p0), .val (.int p1), .val (.int p2), .val (.int p3), .val (.int p4), .val (.int p5), .val (.int ((p0 &&& (2147483647 : Int32)) % (5 : Int32))), .unset, .unset, .unset, .unset]) rfl kz_) ?_
  show OwnGoes p e below _ (s₁.setTop (mkF m 8 #[.val (.int p0), .val (.int p1), .val (.int p2), .val (.int p3), .val (.int p4), .val (.int p5), .val (.int ((p0 &&& (2147483647 : Int32)) % (5 : Int32))), .unset, .unset, .unset, .unset] []))
  obtain ⟨T1, h1, X1, e1, E1, A1, D1, -, st1⟩ := newO X0 hx hZ hown (hw _ (List.mem_of_getElem? (i := 1) rfl)) (hw _ (List.mem_of_getElem? (i := 2) rfl)) (hw _ (List.mem_of_getElem? (i := 3) rfl)) e0 (g := (mkF m 8 #[.val (.int p0), .val (.int p1), .val (.int p2), .val (.int p3), .val (.int p4), .val (.int p5), .val (.int ((p0 &&& (2147483647 : Int32)) % (5 : Int32))), .unset, .unset, .unset, .unset] [])) rfl (hb hby at_8) (by decide) (by decide)
  obtain ⟨ob, g1⟩ : ∃ z, z = h0.size := ⟨_, rfl⟩
  rw [← g1] at A1 D1 st1
  have g_ob : n0 ≤ ob := Nat.le_trans Z0 (Nat.le_of_eq g1.symm)
  have sz_ob : h0.size ≤ ob := Nat.le_trans ((Keep.refl h0 [])).1 (Nat.le_of_eq g1.symm)
  have K1 := ((Keep.refl h0 [])).ext E1
  have Z1 := Nat.le_trans Z0 E1.1
  have F1_previous : Fld Z h1 ob "com/example/hyperloom/hyperloom/hyperheuristic/ChoiceFunction" "previous" "I" (.int (0 : Int32)) := D1 (Or.inl (hw _ (List.mem_of_getElem? (i := 11) rfl))) (ty := .int) (by decide)
  have F1_mu : Fld Z h1 ob "com/example/hyperloom/hyperloom/hyperheuristic/ChoiceFunction" "mu" "I" (.int (0 : Int32)) := D1 (Or.inl (hw _ (List.mem_of_getElem? (i := 13) rfl))) (ty := .int) (by decide)
  have F1_alone : Fld Z h1 ob "com/example/hyperloom/hyperloom/hyperheuristic/ChoiceFunction" "alone" "[[D" .null := D1 (Or.inr (hw _ (List.mem_of_getElem? (i := 18) rfl))) (ty := (.array (.array .double))) (by decide)
  have F1_after : Fld Z h1 ob "com/example/hyperloom/hyperloom/hyperheuristic/ChoiceFunction" "after" "[[[D" .null := D1 (Or.inr (hw _ (List.mem_of_getElem? (i := 22) rfl))) (ty := (.array (.array (.array .double)))) (by decide)
  have F1_lastCalled : Fld Z h1 ob "com/example/hyperloom/hyperloom/hyperheuristic/ChoiceFunction" "lastCalled" "[J" .null := D1 (Or.inr (hw _ (List.mem_of_getElem? (i := 25) rfl))) (ty := (.array .long)) (by decide)
  have F1_scores : Fld Z h1 ob "com/example/hyperloom/hyperloom/hyperheuristic/ChoiceFunction" "scores" "[D" .null := D1 (Or.inr (hw _ (List.mem_of_getElem? (i := 27) rfl))) (ty := (.array .double)) (by decide)
  have F1_calls : Fld Z h1 ob "com/example/hyperloom/hyperloom/hyperheuristic/ChoiceFunction" "calls" "J" (.long (0 : Int64)) := D1 (Or.inl (hw _ (List.mem_of_getElem? (i := 51) rfl))) (ty := .long) (by decide)
  refine own_pre st1 ?_
  show OwnGoes p e below _ (T1.setTop (mkF m 11 #[.val (.int p0), .val (.int p1), .val (.int p2), .val (.int p3), .val (.int p4), .val (.int p5), .val (.int ((p0 &&& (2147483647 : Int32)) % (5 : Int32))), .unset, .unset, .unset, .unset] [(.ref ob)]))
  refine own_pre (fun _ kz_ => XS.dup X1.here hx rfl (hb hby at_11) rfl rfl kz_) ?_
  show OwnGoes p e below _ (T1.setTop (mkF m 12 #[.val (.int p0), .val (.int p1), .val (.int p2), .val (.int p3), .val (.int p4), .val (.int p5), .val (.int ((p0 &&& (2147483647 : Int32)) % (5 : Int32))), .unset, .unset, .unset, .unset] [(.ref ob), (.ref ob)]))
  refine own_pre (fun _ kz_ => XS.iconst X1.here hx rfl (hb hby at_12) kz_) ?_
  show OwnGoes p e below _ (T1.setTop (mkF m 13 #[.val (.int p0), .val (.int p1), .val (.int p2), .val (.int p3), .val (.int p4), .val (.int p5), .val (.int ((p0 &&& (2147483647 : Int32)) % (5 : Int32))), .unset, .unset, .unset, .unset] [(.int (3 : Int32)), (.ref ob), (.ref ob)]))
  obtain ⟨_, _, ⟨T2, L2, k2, n2⟩, -, X2, ⟨Lc2, hQ2, l2, y2, z2⟩, st2⟩ := X1.specialBack hx (y := (⟨"com/example/hyperloom/hyperloom/hyperheuristic/ChoiceFunction", "<init>", "(I)V"⟩ : MethodName)) rfl hown (mvT hZ (hw _ (List.mem_of_getElem? (i := 4) rfl))) (mvT hZ (hw _ (List.mem_of_getElem? (i := 5) rfl))) (mvT hZ (hw _ (List.mem_of_getElem? (i := 6) rfl))) (by decide) (backOf (W := 1) (rmNew l Z a0 hw [] ob h1 n0 Z1 A1 F1_previous F1_mu F1_alone F1_after F1_calls F1_lastCalled F1_scores g_ob) hZ (hw _ (List.mem_of_getElem? (i := 6) rfl)) (hw _ (List.mem_of_getElem? (i := 3) rfl)) (by decide) (by decide)) (g := (mkF m 13 #[.val (.int p0), .val (.int p1), .val (.int p2), .val (.int p3), .val (.int p4), .val (.int p5), .val (.int ((p0 &&& (2147483647 : Int32)) % (5 : Int32))), .unset, .unset, .unset, .unset] [(.int (3 : Int32)), (.ref ob), (.ref ob)])) rfl (by rw [hml]; rfl) (Steps.refl _) (a := ob) (argsL := [(.int (3 : Int32))]) (rest := [(.ref ob)]) (lenOf (d := "(I)V") (ps := [.int]) (r := none) (by decide +kernel) rfl) rfl (by show 2 * 0 + _ ≤ _; exact Nat.le_of_eq rfl) (hb hby at_13) (fun _ _ => ⟨rfl, e1, (by decide : 1 + 19 ≤ _), (by decide : 7 + 1221 ≤ _)⟩)
  dsimp only [Pt.U, Pt.locs, Pt.cells, Pt.slots] at X2 l2 y2 z2 st2 hQ2
  subst l2 y2 z2
  obtain ⟨rfl, N2q, B, I2q⟩ := hQ2
  have N2 := Fr.app N0 N2q
  refine own_tr st2 ?_
  have J154 : ∀ (Tj : State) (lj : List Loc) (Xj : Stand p l e room_1 s m #[(.int p0), (.int p1), (.int p2), (.int p3), (.int p4), (.int p5)] below meth c Tj lj 20 1228) (Nj : Fr n0 lj) (ob B : Nat) (mu prev : Int32) (cl : Int64) (lst : Nat → Int64) (cont : Nat → Nat → UInt64) (Kj : Nat) (Ij : OwnCF Z n0 Tj.heap ob B prev mu cl lst cont) (hp : prev = (-1 : Int32) ∨ ∃ pn : Nat, pn < 3 ∧ prev = Int32.ofNat pn) (hm : ∀ x i, Jvm.Free.Fl.Mag64 Kj (cont x i)) (hK1 : 1056 ≤ Kj) (hK2 : Kj ≤ 2000), OwnGoes p e below (fun ow_ Ue_ => ∃ vw_ Lw_, ow_ = .returned vw_ ∧ Q0 h0 n0 vw_ Ue_.heap Lw_ ∧ FrameEnd s ow_ Ue_ Lw_ room_1.cells room_1.slots) (Tj.setTop (mkF m 154 #[.val (.int p0), .val (.int p1), .val (.int p2), .val (.int p3), .val (.int p4), .val (.int p5), .val (.int ((p0 &&& (2147483647 : Int32)) % (5 : Int32))), .val (.ref ob), .val (.int mu), .unset, .unset] [])) := by
    intro Tj lj Xj Nj ob B mu prev cl lst cont Kj Ij hp hm hK1 hK2
    show OwnGoes p e below _ (Tj.setTop (mkF m 154 #[.val (.int p0), .val (.int p1), .val (.int p2), .val (.int p3), .val (.int p4), .val (.int p5), .val (.int ((p0 &&& (2147483647 : Int32)) % (5 : Int32))), .val (.ref ob), .val (.int mu), .unset, .unset] []))
    refine own_pre (fun _ kz_ => XS.aload Xj.here hx rfl (hb hby at_154) rfl rfl kz_) ?_
    show OwnGoes p e below _ (Tj.setTop (mkF m 156 #[.val (.int p0), .val (.int p1), .val (.int p2), .val (.int p3), .val (.int p4), .val (.int p5), .val (.int ((p0 &&& (2147483647 : Int32)) % (5 : Int32))), .val (.ref ob), .val (.int mu), .unset, .unset] [(.ref ob)]))
    obtain ⟨cq3, kq3, q3a, q3b, q3c⟩ := isOf hZ rfl Ij.1
    obtain ⟨_, _, ⟨T3, L3, k3, n3⟩, -, X3, ⟨Lc3, hQ3, l3, y3, z3⟩, st3⟩ := Xj.virtualBack hx (y := (⟨"com/example/hyperloom/hyperloom/hyperheuristic/ChoiceFunction", "delta", "()D"⟩ : MethodName)) (z := (⟨"com/example/hyperloom/hyperloom/hyperheuristic/ChoiceFunction", "delta", "()D"⟩ : MethodName)) hown (mvT hZ (hw _ (List.mem_of_getElem? (i := 28) rfl))) (mvT hZ (hw _ (List.mem_of_getElem? (i := 29) rfl))) (notFace_of_selects (args := #[]) (mvT hZ (hw _ (List.mem_of_getElem? (i := 31) rfl)))) (mvT hZ (hw _ (List.mem_of_getElem? (i := 31) rfl))) (mvT hZ (hw _ (List.mem_of_getElem? (i := 30) rfl))) (by decide) (backOf (W := 0) (rmDl l Z a0 hw [] ob mu Tj.heap n0 Ij.sz Ij.2.2.1) hZ (hw _ (List.mem_of_getElem? (i := 32) rfl)) (hw _ (List.mem_of_getElem? (i := 3) rfl)) (by decide) (by decide)) q3a q3c (g := (mkF m 156 #[.val (.int p0), .val (.int p1), .val (.int p2), .val (.int p3), .val (.int p4), .val (.int p5), .val (.int ((p0 &&& (2147483647 : Int32)) % (5 : Int32))), .val (.ref ob), .val (.int mu), .unset, .unset] [(.ref ob)])) rfl (by rw [hml]; rfl) (Steps.refl _) (argsL := []) (rest := []) (lenOf (d := "()D") (ps := []) (r := some .double) (by decide +kernel) rfl) rfl (by show 2 * 0 + _ ≤ _; exact Nat.le_of_eq rfl) (hb hby at_156) (fun _ _ => ⟨rfl, rfl, (by decide : 20 + 0 ≤ _), (by decide : 1228 + 0 ≤ _)⟩)
    dsimp only [Pt.U, Pt.locs, Pt.cells, Pt.slots] at X3 l3 y3 z3 st3 hQ3
    subst l3 y3 z3
    obtain ⟨rfl, N3q, e3⟩ := hQ3
    have N3 := Fr.app Nj N3q
    refine own_tr st3 ?_
    show OwnGoes p e below _ (T3.setTop (mkF m 159 #[.val (.int p0), .val (.int p1), .val (.int p2), .val (.int p3), .val (.int p4), .val (.int p5), .val (.int ((p0 &&& (2147483647 : Int32)) % (5 : Int32))), .val (.ref ob), .val (.int mu), .unset, .unset] [(.double (Jvm.FP.ddiv (Jvm.FP.i2d ((100 : Int32) - mu)) (4636737291354636288 : UInt64)))]))
    refine own_pre (fun _ kz_ => XS.dstore X3.here hx rfl (hb hby at_159) rfl (l' := #[.val (.int p0), .val (.int p1), .val (.int p2), .val (.int p3), .val (.int p4), .val (.int p5), .val (.int ((p0 &&& (2147483647 : Int32)) % (5 : Int32))), .val (.ref ob), .val (.int mu), .val (.double (Jvm.FP.ddiv (Jvm.FP.i2d ((100 : Int32) - mu)) (4636737291354636288 : UInt64))), .second]) rfl kz_) ?_
    show OwnGoes p e below _ (T3.setTop (mkF m 161 #[.val (.int p0), .val (.int p1), .val (.int p2), .val (.int p3), .val (.int p4), .val (.int p5), .val (.int ((p0 &&& (2147483647 : Int32)) % (5 : Int32))), .val (.ref ob), .val (.int mu), .val (.double (Jvm.FP.ddiv (Jvm.FP.i2d ((100 : Int32) - mu)) (4636737291354636288 : UInt64))), .second] []))
    refine own_pre (fun _ kz_ => XS.dload X3.here hx rfl (hb hby at_161) rfl kz_) ?_
    show OwnGoes p e below _ (T3.setTop (mkF m 163 #[.val (.int p0), .val (.int p1), .val (.int p2), .val (.int p3), .val (.int p4), .val (.int p5), .val (.int ((p0 &&& (2147483647 : Int32)) % (5 : Int32))), .val (.ref ob), .val (.int mu), .val (.double (Jvm.FP.ddiv (Jvm.FP.i2d ((100 : Int32) - mu)) (4636737291354636288 : UInt64))), .second] [(.double (Jvm.FP.ddiv (Jvm.FP.i2d ((100 : Int32) - mu)) (4636737291354636288 : UInt64)))]))
    refine own_pre (fun _ kz_ => XS.bipush X3.here hx rfl (hb hby at_163) kz_) ?_
    show OwnGoes p e below _ (T3.setTop (mkF m 165 #[.val (.int p0), .val (.int p1), .val (.int p2), .val (.int p3), .val (.int p4), .val (.int p5), .val (.int ((p0 &&& (2147483647 : Int32)) % (5 : Int32))), .val (.ref ob), .val (.int mu), .val (.double (Jvm.FP.ddiv (Jvm.FP.i2d ((100 : Int32) - mu)) (4636737291354636288 : UInt64))), .second] [(.int (100 : Int32)), (.double (Jvm.FP.ddiv (Jvm.FP.i2d ((100 : Int32) - mu)) (4636737291354636288 : UInt64)))]))
    refine own_pre (fun _ kz_ => XS.iload X3.here hx rfl (hb hby at_165) rfl kz_) ?_
    show OwnGoes p e below _ (T3.setTop (mkF m 167 #[.val (.int p0), .val (.int p1), .val (.int p2), .val (.int p3), .val (.int p4), .val (.int p5), .val (.int ((p0 &&& (2147483647 : Int32)) % (5 : Int32))), .val (.ref ob), .val (.int mu), .val (.double (Jvm.FP.ddiv (Jvm.FP.i2d ((100 : Int32) - mu)) (4636737291354636288 : UInt64))), .second] [(.int mu), (.int (100 : Int32)), (.double (Jvm.FP.ddiv (Jvm.FP.i2d ((100 : Int32) - mu)) (4636737291354636288 : UInt64)))]))
    refine own_pre (fun _ kz_ => XS.isub X3.here hx rfl (hb hby at_167) rfl kz_) ?_
    show OwnGoes p e below _ (T3.setTop (mkF m 168 #[.val (.int p0), .val (.int p1), .val (.int p2), .val (.int p3), .val (.int p4), .val (.int p5), .val (.int ((p0 &&& (2147483647 : Int32)) % (5 : Int32))), .val (.ref ob), .val (.int mu), .val (.double (Jvm.FP.ddiv (Jvm.FP.i2d ((100 : Int32) - mu)) (4636737291354636288 : UInt64))), .second] [(.int ((100 : Int32) - mu)), (.double (Jvm.FP.ddiv (Jvm.FP.i2d ((100 : Int32) - mu)) (4636737291354636288 : UInt64)))]))
    refine own_pre (fun _ kz_ => XS.i2dS X3.here hx rfl (hb hby at_168) rfl rfl kz_) ?_
    show OwnGoes p e below _ (T3.setTop (mkF m 169 #[.val (.int p0), .val (.int p1), .val (.int p2), .val (.int p3), .val (.int p4), .val (.int p5), .val (.int ((p0 &&& (2147483647 : Int32)) % (5 : Int32))), .val (.ref ob), .val (.int mu), .val (.double (Jvm.FP.ddiv (Jvm.FP.i2d ((100 : Int32) - mu)) (4636737291354636288 : UInt64))), .second] [(.double (Jvm.FP.i2d ((100 : Int32) - mu))), (.double (Jvm.FP.ddiv (Jvm.FP.i2d ((100 : Int32) - mu)) (4636737291354636288 : UInt64)))]))
    refine own_pre (fun _ kz_ => X3.ldc2DoubleC hx hown (mvT hZ (hw _ (List.mem_of_getElem? (i := 34) rfl))) (g := (mkF m 169 #[.val (.int p0), .val (.int p1), .val (.int p2), .val (.int p3), .val (.int p4), .val (.int p5), .val (.int ((p0 &&& (2147483647 : Int32)) % (5 : Int32))), .val (.ref ob), .val (.int mu), .val (.double (Jvm.FP.ddiv (Jvm.FP.i2d ((100 : Int32) - mu)) (4636737291354636288 : UInt64))), .second] [(.double (Jvm.FP.i2d ((100 : Int32) - mu))), (.double (Jvm.FP.ddiv (Jvm.FP.i2d ((100 : Int32) - mu)) (4636737291354636288 : UInt64)))])) rfl (hb hby at_169) _ kz_) ?_
    show OwnGoes p e below _ (T3.setTop (mkF m 172 #[.val (.int p0), .val (.int p1), .val (.int p2), .val (.int p3), .val (.int p4), .val (.int p5), .val (.int ((p0 &&& (2147483647 : Int32)) % (5 : Int32))), .val (.ref ob), .val (.int mu), .val (.double (Jvm.FP.ddiv (Jvm.FP.i2d ((100 : Int32) - mu)) (4636737291354636288 : UInt64))), .second] [(.double (4636737291354636288 : UInt64)), (.double (Jvm.FP.i2d ((100 : Int32) - mu))), (.double (Jvm.FP.ddiv (Jvm.FP.i2d ((100 : Int32) - mu)) (4636737291354636288 : UInt64)))]))
    refine own_pre (fun _ kz_ => XS.ddivS X3.here hx rfl (hb hby at_172) rfl (own_nn1 _) rfl kz_) ?_
    show OwnGoes p e below _ (T3.setTop (mkF m 173 #[.val (.int p0), .val (.int p1), .val (.int p2), .val (.int p3), .val (.int p4), .val (.int p5), .val (.int ((p0 &&& (2147483647 : Int32)) % (5 : Int32))), .val (.ref ob), .val (.int mu), .val (.double (Jvm.FP.ddiv (Jvm.FP.i2d ((100 : Int32) - mu)) (4636737291354636288 : UInt64))), .second] [(.double (Jvm.FP.ddiv (Jvm.FP.i2d ((100 : Int32) - mu)) (4636737291354636288 : UInt64))), (.double (Jvm.FP.ddiv (Jvm.FP.i2d ((100 : Int32) - mu)) (4636737291354636288 : UInt64)))]))
    refine own_pre (fun _ kz_ => XS.dcmpS X3.here hx rfl (hb hby at_173) rfl (v := (0 : Int32)) (own_cmpself (own_nn1 _)) kz_) ?_
    show OwnGoes p e below _ (T3.setTop (mkF m 174 #[.val (.int p0), .val (.int p1), .val (.int p2), .val (.int p3), .val (.int p4), .val (.int p5), .val (.int ((p0 &&& (2147483647 : Int32)) % (5 : Int32))), .val (.ref ob), .val (.int mu), .val (.double (Jvm.FP.ddiv (Jvm.FP.i2d ((100 : Int32) - mu)) (4636737291354636288 : UInt64))), .second] [(.int (0 : Int32))]))
    refine own_pre (fun _ kz_ => XS.ifNo X3.here hx rfl (hb hby at_174) rfl ((if0 _ _).trans (teq (by decide : (0 : Int32) = (0 : Int32))).2) kz_) ?_
    show OwnGoes p e below _ (T3.setTop (mkF m 177 #[.val (.int p0), .val (.int p1), .val (.int p2), .val (.int p3), .val (.int p4), .val (.int p5), .val (.int ((p0 &&& (2147483647 : Int32)) % (5 : Int32))), .val (.ref ob), .val (.int mu), .val (.double (Jvm.FP.ddiv (Jvm.FP.i2d ((100 : Int32) - mu)) (4636737291354636288 : UInt64))), .second] []))
    refine own_pre (fun _ kz_ => XS.iconst X3.here hx rfl (hb hby at_177) kz_) ?_
    show OwnGoes p e below _ (T3.setTop (mkF m 178 #[.val (.int p0), .val (.int p1), .val (.int p2), .val (.int p3), .val (.int p4), .val (.int p5), .val (.int ((p0 &&& (2147483647 : Int32)) % (5 : Int32))), .val (.ref ob), .val (.int mu), .val (.double (Jvm.FP.ddiv (Jvm.FP.i2d ((100 : Int32) - mu)) (4636737291354636288 : UInt64))), .second] [(.int (1 : Int32))]))
    refine own_pre (fun _ kz_ => XS.goto X3.here hx rfl (pc0 := 178) (pc' := 182) rfl (hb hby at_178) (by decide) (by decide) kz_) ?_
    show OwnGoes p e below _ (T3.setTop (mkF m 182 #[.val (.int p0), .val (.int p1), .val (.int p2), .val (.int p3), .val (.int p4), .val (.int p5), .val (.int ((p0 &&& (2147483647 : Int32)) % (5 : Int32))), .val (.ref ob), .val (.int mu), .val (.double (Jvm.FP.ddiv (Jvm.FP.i2d ((100 : Int32) - mu)) (4636737291354636288 : UInt64))), .second] [(.int (1 : Int32))]))
    exact own_ret X3 hx Bd.returns (rfl) (Or.inl ⟨rfl, by simp, _, rfl⟩) Bd.notSynchronized (hb hby at_182) ⟨rfl, N3⟩ (by decide) (by decide)
  have J120 : ∀ (Tj : State) (lj : List Loc) (Xj : Stand p l e room_1 s m #[(.int p0), (.int p1), (.int p2), (.int p3), (.int p4), (.int p5)] below meth c Tj lj 20 1228) (Nj : Fr n0 lj) (ob B : Nat) (mu prev : Int32) (cl : Int64) (lst : Nat → Int64) (cont : Nat → Nat → UInt64) (Kj : Nat) (Ij : OwnCF Z n0 Tj.heap ob B prev mu cl lst cont) (hp : prev = (-1 : Int32) ∨ ∃ pn : Nat, pn < 3 ∧ prev = Int32.ofNat pn) (hm : ∀ x i, Jvm.Free.Fl.Mag64 Kj (cont x i)) (hK1 : 1056 ≤ Kj) (hK2 : Kj ≤ 1242), OwnGoes p e below (fun ow_ Ue_ => ∃ vw_ Lw_, ow_ = .returned vw_ ∧ Q0 h0 n0 vw_ Ue_.heap Lw_ ∧ FrameEnd s ow_ Ue_ Lw_ room_1.cells room_1.slots) (Tj.setTop (mkF m 120 #[.val (.int p0), .val (.int p1), .val (.int p2), .val (.int p3), .val (.int p4), .val (.int p5), .val (.int ((p0 &&& (2147483647 : Int32)) % (5 : Int32))), .val (.ref ob), .val (.int mu), .unset, .unset] [])) := by
    intro Tj lj Xj Nj ob B mu prev cl lst cont Kj Ij hp hm hK1 hK2
    rcases hp with rfl | ⟨pn, hpn, rfl⟩
    · have hp : (-1 : Int32) = (-1 : Int32) ∨ ∃ pz : Nat, pz < 3 ∧ (-1 : Int32) = Int32.ofNat pz := Or.inl rfl
      show OwnGoes p e below _ (Tj.setTop (mkF m 120 #[.val (.int p0), .val (.int p1), .val (.int p2), .val (.int p3), .val (.int p4), .val (.int p5), .val (.int ((p0 &&& (2147483647 : Int32)) % (5 : Int32))), .val (.ref ob), .val (.int mu), .unset, .unset] []))
      refine own_pre (fun _ kz_ => XS.iload Xj.here hx rfl (hb hby at_120) rfl kz_) ?_
      show OwnGoes p e below _ (Tj.setTop (mkF m 122 #[.val (.int p0), .val (.int p1), .val (.int p2), .val (.int p3), .val (.int p4), .val (.int p5), .val (.int ((p0 &&& (2147483647 : Int32)) % (5 : Int32))), .val (.ref ob), .val (.int mu), .unset, .unset] [(.int ((p0 &&& (2147483647 : Int32)) % (5 : Int32)))]))
      refine own_pre (fun _ kz_ => XS.iconst Xj.here hx rfl (hb hby at_122) kz_) ?_
      show OwnGoes p e below _ (Tj.setTop (mkF m 123 #[.val (.int p0), .val (.int p1), .val (.int p2), .val (.int p3), .val (.int p4), .val (.int p5), .val (.int ((p0 &&& (2147483647 : Int32)) % (5 : Int32))), .val (.ref ob), .val (.int mu), .unset, .unset] [(.int (4 : Int32)), (.int ((p0 &&& (2147483647 : Int32)) % (5 : Int32)))]))
      by_cases h123 : ((p0 &&& (2147483647 : Int32)) % (5 : Int32)) < (4 : Int32)
      · refine own_pre (fun _ kz_ => XS.icmpYes Xj.here hx rfl (pc0 := 123) (pc' := 154) rfl (hb hby at_123) rfl (tlt h123).1 (by decide) (by decide) kz_) ?_
        show OwnGoes p e below _ (Tj.setTop (mkF m 154 #[.val (.int p0), .val (.int p1), .val (.int p2), .val (.int p3), .val (.int p4), .val (.int p5), .val (.int ((p0 &&& (2147483647 : Int32)) % (5 : Int32))), .val (.ref ob), .val (.int mu), .unset, .unset] []))
        exact J154 _ _ Xj Nj ob B _ _ _ _ _ _ Ij hp hm (by omega) (by omega)
      · refine own_pre (fun _ kz_ => XS.icmpNo Xj.here hx rfl (hb hby at_123) rfl (flt h123).1 kz_) ?_
        show OwnGoes p e below _ (Tj.setTop (mkF m 126 #[.val (.int p0), .val (.int p1), .val (.int p2), .val (.int p3), .val (.int p4), .val (.int p5), .val (.int ((p0 &&& (2147483647 : Int32)) % (5 : Int32))), .val (.ref ob), .val (.int mu), .unset, .unset] []))
        refine own_pre (fun _ kz_ => XS.aload Xj.here hx rfl (hb hby at_126) rfl rfl kz_) ?_
        show OwnGoes p e below _ (Tj.setTop (mkF m 128 #[.val (.int p0), .val (.int p1), .val (.int p2), .val (.int p3), .val (.int p4), .val (.int p5), .val (.int ((p0 &&& (2147483647 : Int32)) % (5 : Int32))), .val (.ref ob), .val (.int mu), .unset, .unset] [(.ref ob)]))
        refine own_pre (fun _ kz_ => XS.iloadN Xj.here hx rfl (hb hby at_128) rfl kz_) ?_
        show OwnGoes p e below _ (Tj.setTop (mkF m 129 #[.val (.int p0), .val (.int p1), .val (.int p2), .val (.int p3), .val (.int p4), .val (.int p5), .val (.int ((p0 &&& (2147483647 : Int32)) % (5 : Int32))), .val (.ref ob), .val (.int mu), .unset, .unset] [(.int p1), (.ref ob)]))
        refine own_pre (fun _ kz_ => XS.iconst Xj.here hx rfl (hb hby at_129) kz_) ?_
        show OwnGoes p e below _ (Tj.setTop (mkF m 130 #[.val (.int p0), .val (.int p1), .val (.int p2), .val (.int p3), .val (.int p4), .val (.int p5), .val (.int ((p0 &&& (2147483647 : Int32)) % (5 : Int32))), .val (.ref ob), .val (.int mu), .unset, .unset] [(.int (3 : Int32)), (.int p1), (.ref ob)]))
        obtain ⟨_, _, ⟨T4, L4, k4, n4⟩, -, X4, ⟨Lc4, hQ4, l4, y4, z4⟩, st4⟩ := Jvm.LawKit.callS Xj hx (y := (⟨"com/example/hyperloom/hyperloom/hyperheuristic/ChoiceFunctionDeltaPinLaw", "pick", "(II)I"⟩ : MethodName)) hown (mvT hZ (hw _ (List.mem_of_getElem? (i := 35) rfl))) (mvT hZ (hw _ (List.mem_of_getElem? (i := 36) rfl))) (mvT hZ (hw _ (List.mem_of_getElem? (i := 37) rfl))) (mvT hZ (hw _ (List.mem_of_getElem? (i := 38) rfl))) (by decide) (backOf (W := 1) (rmPk l Z a0 hw [] p1 (3 : Int32) Tj.heap n0 Ij.sz) hZ (hw _ (List.mem_of_getElem? (i := 38) rfl)) (hw _ (List.mem_of_getElem? (i := 37) rfl)) (by decide) (by decide)) (g := (mkF m 130 #[.val (.int p0), .val (.int p1), .val (.int p2), .val (.int p3), .val (.int p4), .val (.int p5), .val (.int ((p0 &&& (2147483647 : Int32)) % (5 : Int32))), .val (.ref ob), .val (.int mu), .unset, .unset] [(.int (3 : Int32)), (.int p1), (.ref ob)])) rfl (by rw [hml]; rfl) (argsL := [(.int p1), (.int (3 : Int32))]) (rest := [(.ref ob)]) (lenOf (d := "(II)I") (ps := [.int, .int]) (r := some .int) (by decide +kernel) rfl) rfl (by show 2 * 0 + _ ≤ _; exact Nat.le_of_eq rfl) (hb hby at_130) (fun _ _ => ⟨rfl, rfl, (by decide : 20 + 0 ≤ _), (by decide : 1228 + 0 ≤ _)⟩)
        dsimp only [Pt.U, Pt.locs, Pt.cells, Pt.slots] at X4 l4 y4 z4 st4 hQ4
        subst l4 y4 z4
        obtain ⟨j130, hj130, rfl, N4q, e4⟩ := hQ4
        have N4 := Fr.app Nj N4q
        refine own_pre st4 ?_
        show OwnGoes p e below _ (T4.setTop (mkF m 133 #[.val (.int p0), .val (.int p1), .val (.int p2), .val (.int p3), .val (.int p4), .val (.int p5), .val (.int ((p0 &&& (2147483647 : Int32)) % (5 : Int32))), .val (.ref ob), .val (.int mu), .unset, .unset] [(.int (Int32.ofNat j130)), (.ref ob)]))
        refine own_pre (fun _ kz_ => XS.iload X4.here hx rfl (hb hby at_133) rfl kz_) ?_
        show OwnGoes p e below _ (T4.setTop (mkF m 135 #[.val (.int p0), .val (.int p1), .val (.int p2), .val (.int p3), .val (.int p4), .val (.int p5), .val (.int ((p0 &&& (2147483647 : Int32)) % (5 : Int32))), .val (.ref ob), .val (.int mu), .unset, .unset] [(.int p5), (.int (Int32.ofNat j130)), (.ref ob)]))
        obtain ⟨_, _, ⟨T5, L5, k5, n5⟩, -, X5, ⟨Lc5, hQ5, l5, y5, z5⟩, st5⟩ := Jvm.LawKit.callS X4 hx (y := (⟨"com/example/hyperloom/hyperloom/hyperheuristic/ChoiceFunctionDeltaPinLaw", "imp", "(I)D"⟩ : MethodName)) hown (mvT hZ (hw _ (List.mem_of_getElem? (i := 39) rfl))) (mvT hZ (hw _ (List.mem_of_getElem? (i := 40) rfl))) (mvT hZ (hw _ (List.mem_of_getElem? (i := 37) rfl))) (mvT hZ (hw _ (List.mem_of_getElem? (i := 41) rfl))) (by decide) (backOf (W := 2) (rmIm l Z a0 hw [] p5 Tj.heap n0 Ij.sz) hZ (hw _ (List.mem_of_getElem? (i := 41) rfl)) (hw _ (List.mem_of_getElem? (i := 37) rfl)) (by decide) (by decide)) (g := (mkF m 135 #[.val (.int p0), .val (.int p1), .val (.int p2), .val (.int p3), .val (.int p4), .val (.int p5), .val (.int ((p0 &&& (2147483647 : Int32)) % (5 : Int32))), .val (.ref ob), .val (.int mu), .unset, .unset] [(.int p5), (.int (Int32.ofNat j130)), (.ref ob)])) rfl (by rw [hml]; rfl) (argsL := [(.int p5)]) (rest := [(.int (Int32.ofNat j130)), (.ref ob)]) (lenOf (d := "(I)D") (ps := [.int]) (r := some .double) (by decide +kernel) rfl) rfl (by show 2 * 0 + _ ≤ _; exact Nat.le_of_eq rfl) (hb hby at_135) (fun _ _ => ⟨rfl, e4, (by decide : 20 + 0 ≤ _), (by decide : 1228 + 0 ≤ _)⟩)
        dsimp only [Pt.U, Pt.locs, Pt.cells, Pt.slots] at X5 l5 y5 z5 st5 hQ5
        subst l5 y5 z5
        obtain ⟨rfl, N5q, e5⟩ := hQ5
        have N5 := Fr.app N4 N5q
        refine own_pre st5 ?_
        show OwnGoes p e below _ (T5.setTop (mkF m 138 #[.val (.int p0), .val (.int p1), .val (.int p2), .val (.int p3), .val (.int p4), .val (.int p5), .val (.int ((p0 &&& (2147483647 : Int32)) % (5 : Int32))), .val (.ref ob), .val (.int mu), .unset, .unset] [(.double (Jvm.FP.i2d (p5 % (1000 : Int32)))), (.int (Int32.ofNat j130)), (.ref ob)]))
        obtain ⟨cq6, kq6, q6a, q6b, q6c⟩ := isOf hZ e5 Ij.1
        obtain ⟨_, _, ⟨T6, L6, k6, n6⟩, -, X6, ⟨Lc6, hQ6, l6, y6, z6⟩, st6⟩ := X5.virtualBack hx (y := (⟨"com/example/hyperloom/hyperloom/hyperheuristic/ChoiceFunction", "record", "(ID)V"⟩ : MethodName)) (z := (⟨"com/example/hyperloom/hyperloom/hyperheuristic/ChoiceFunction", "record", "(ID)V"⟩ : MethodName)) hown (mvT hZ (hw _ (List.mem_of_getElem? (i := 42) rfl))) (mvT hZ (hw _ (List.mem_of_getElem? (i := 43) rfl))) (notFace_of_selects (args := #[]) (mvT hZ (hw _ (List.mem_of_getElem? (i := 45) rfl)))) (mvT hZ (hw _ (List.mem_of_getElem? (i := 45) rfl))) (mvT hZ (hw _ (List.mem_of_getElem? (i := 44) rfl))) (by decide) (backOf (W := 0) (rmRec0 l Z a0 hw [] ob B j130 (p5 % (1000 : Int32)) mu cl lst cont Kj Tj.heap n0 Ij.sz Ij hj130 hm (by omega) (by omega)) hZ (hw _ (List.mem_of_getElem? (i := 46) rfl)) (hw _ (List.mem_of_getElem? (i := 3) rfl)) (by decide) (by decide)) q6a q6c (g := (mkF m 138 #[.val (.int p0), .val (.int p1), .val (.int p2), .val (.int p3), .val (.int p4), .val (.int p5), .val (.int ((p0 &&& (2147483647 : Int32)) % (5 : Int32))), .val (.ref ob), .val (.int mu), .unset, .unset] [(.double (Jvm.FP.i2d (p5 % (1000 : Int32)))), (.int (Int32.ofNat j130)), (.ref ob)])) rfl (by rw [hml]; rfl) (Steps.refl _) (argsL := [(.int (Int32.ofNat j130)), (.double (Jvm.FP.i2d (p5 % (1000 : Int32))))]) (rest := []) (lenOf (d := "(ID)V") (ps := [.int, .double]) (r := none) (by decide +kernel) rfl) rfl (by show 2 * 0 + _ ≤ _; exact Nat.le_of_eq rfl) (hb hby at_138) (fun _ _ => ⟨rfl, e5, (by decide : 20 + 0 ≤ _), (by decide : 1228 + 0 ≤ _)⟩)
        dsimp only [Pt.U, Pt.locs, Pt.cells, Pt.slots] at X6 l6 y6 z6 st6 hQ6
        subst l6 y6 z6
        obtain ⟨rfl, N6q, I6q⟩ := hQ6
        have N6 := Fr.app N5 N6q
        refine own_tr st6 ?_
        have hm6 := own_c0m (1 + j130) (Jvm.Free.Fl.i2d_mag (p5 % (1000 : Int32))) hm (by omega) (by omega)
        show OwnGoes p e below _ (T6.setTop (mkF m 141 #[.val (.int p0), .val (.int p1), .val (.int p2), .val (.int p3), .val (.int p4), .val (.int p5), .val (.int ((p0 &&& (2147483647 : Int32)) % (5 : Int32))), .val (.ref ob), .val (.int mu), .unset, .unset] []))
        refine own_pre (fun _ kz_ => XS.iload X6.here hx rfl (hb hby at_141) rfl kz_) ?_
        show OwnGoes p e below _ (T6.setTop (mkF m 143 #[.val (.int p0), .val (.int p1), .val (.int p2), .val (.int p3), .val (.int p4), .val (.int p5), .val (.int ((p0 &&& (2147483647 : Int32)) % (5 : Int32))), .val (.ref ob), .val (.int mu), .unset, .unset] [(.int mu)]))
        refine own_pre (fun _ kz_ => XS.iload X6.here hx rfl (hb hby at_143) rfl kz_) ?_
        show OwnGoes p e below _ (T6.setTop (mkF m 145 #[.val (.int p0), .val (.int p1), .val (.int p2), .val (.int p3), .val (.int p4), .val (.int p5), .val (.int ((p0 &&& (2147483647 : Int32)) % (5 : Int32))), .val (.ref ob), .val (.int mu), .unset, .unset] [(.int p5), (.int mu)]))
        refine own_pre (fun _ kz_ => XS.sipush X6.here hx rfl (hb hby at_145) kz_) ?_
        show OwnGoes p e below _ (T6.setTop (mkF m 148 #[.val (.int p0), .val (.int p1), .val (.int p2), .val (.int p3), .val (.int p4), .val (.int p5), .val (.int ((p0 &&& (2147483647 : Int32)) % (5 : Int32))), .val (.ref ob), .val (.int mu), .unset, .unset] [(.int (1000 : Int32)), (.int p5), (.int mu)]))
        refine own_pre (fun _ kz_ => iremM X6 hx rfl (hb hby at_148) rfl (by decide) kz_) ?_
        show OwnGoes p e below _ (T6.setTop (mkF m 149 #[.val (.int p0), .val (.int p1), .val (.int p2), .val (.int p3), .val (.int p4), .val (.int p5), .val (.int ((p0 &&& (2147483647 : Int32)) % (5 : Int32))), .val (.ref ob), .val (.int mu), .unset, .unset] [(.int (p5 % (1000 : Int32))), (.int mu)]))
        obtain ⟨_, _, ⟨T7, L7, k7, n7⟩, -, X7, ⟨Lc7, hQ7, l7, y7, z7⟩, st7⟩ := Jvm.LawKit.callS X6 hx (y := (⟨"com/example/hyperloom/hyperloom/hyperheuristic/ChoiceFunctionDeltaPinLaw", "next", "(II)I"⟩ : MethodName)) hown (mvT hZ (hw _ (List.mem_of_getElem? (i := 52) rfl))) (mvT hZ (hw _ (List.mem_of_getElem? (i := 53) rfl))) (mvT hZ (hw _ (List.mem_of_getElem? (i := 37) rfl))) (mvT hZ (hw _ (List.mem_of_getElem? (i := 54) rfl))) (by decide) (backOf (W := 0) (rmNx l Z a0 hw [] mu (p5 % (1000 : Int32)) T6.heap n0 I6q.sz) hZ (hw _ (List.mem_of_getElem? (i := 54) rfl)) (hw _ (List.mem_of_getElem? (i := 37) rfl)) (by decide) (by decide)) (g := (mkF m 149 #[.val (.int p0), .val (.int p1), .val (.int p2), .val (.int p3), .val (.int p4), .val (.int p5), .val (.int ((p0 &&& (2147483647 : Int32)) % (5 : Int32))), .val (.ref ob), .val (.int mu), .unset, .unset] [(.int (p5 % (1000 : Int32))), (.int mu)])) rfl (by rw [hml]; rfl) (argsL := [(.int mu), (.int (p5 % (1000 : Int32)))]) (rest := []) (lenOf (d := "(II)I") (ps := [.int, .int]) (r := some .int) (by decide +kernel) rfl) rfl (by show 2 * 0 + _ ≤ _; exact Nat.le_of_eq rfl) (hb hby at_149) (fun _ _ => ⟨rfl, rfl, (by decide : 20 + 0 ≤ _), (by decide : 1228 + 0 ≤ _)⟩)
        dsimp only [Pt.U, Pt.locs, Pt.cells, Pt.slots] at X7 l7 y7 z7 st7 hQ7
        subst l7 y7 z7
        obtain ⟨rfl, N7q, e7⟩ := hQ7
        have N7 := Fr.app N6 N7q
        refine own_pre st7 ?_
        show OwnGoes p e below _ (T7.setTop (mkF m 152 #[.val (.int p0), .val (.int p1), .val (.int p2), .val (.int p3), .val (.int p4), .val (.int p5), .val (.int ((p0 &&& (2147483647 : Int32)) % (5 : Int32))), .val (.ref ob), .val (.int mu), .unset, .unset] [(.int (own_next mu (p5 % (1000 : Int32))))]))
        refine own_pre (fun _ kz_ => XS.istore X7.here hx rfl (hb hby at_152) rfl (l' := #[.val (.int p0), .val (.int p1), .val (.int p2), .val (.int p3), .val (.int p4), .val (.int p5), .val (.int ((p0 &&& (2147483647 : Int32)) % (5 : Int32))), .val (.ref ob), .val (.int (own_next mu (p5 % (1000 : Int32)))), .unset, .unset]) rfl kz_) ?_
        show OwnGoes p e below _ (T7.setTop (mkF m 154 #[.val (.int p0), .val (.int p1), .val (.int p2), .val (.int p3), .val (.int p4), .val (.int p5), .val (.int ((p0 &&& (2147483647 : Int32)) % (5 : Int32))), .val (.ref ob), .val (.int (own_next mu (p5 % (1000 : Int32)))), .unset, .unset] []))
        exact J154 _ _ X7 N7 ob B _ _ _ _ _ _ (by rw [e7]; exact I6q) (Or.inr ⟨_, hj130, rfl⟩) hm6 (by omega) (by omega)
    · have hp : (Int32.ofNat pn) = (-1 : Int32) ∨ ∃ pz : Nat, pz < 3 ∧ (Int32.ofNat pn) = Int32.ofNat pz := Or.inr ⟨pn, hpn, rfl⟩
      show OwnGoes p e below _ (Tj.setTop (mkF m 120 #[.val (.int p0), .val (.int p1), .val (.int p2), .val (.int p3), .val (.int p4), .val (.int p5), .val (.int ((p0 &&& (2147483647 : Int32)) % (5 : Int32))), .val (.ref ob), .val (.int mu), .unset, .unset] []))
      refine own_pre (fun _ kz_ => XS.iload Xj.here hx rfl (hb hby at_120) rfl kz_) ?_
      show OwnGoes p e below _ (Tj.setTop (mkF m 122 #[.val (.int p0), .val (.int p1), .val (.int p2), .val (.int p3), .val (.int p4), .val (.int p5), .val (.int ((p0 &&& (2147483647 : Int32)) % (5 : Int32))), .val (.ref ob), .val (.int mu), .unset, .unset] [(.int ((p0 &&& (2147483647 : Int32)) % (5 : Int32)))]))
      refine own_pre (fun _ kz_ => XS.iconst Xj.here hx rfl (hb hby at_122) kz_) ?_
      show OwnGoes p e below _ (Tj.setTop (mkF m 123 #[.val (.int p0), .val (.int p1), .val (.int p2), .val (.int p3), .val (.int p4), .val (.int p5), .val (.int ((p0 &&& (2147483647 : Int32)) % (5 : Int32))), .val (.ref ob), .val (.int mu), .unset, .unset] [(.int (4 : Int32)), (.int ((p0 &&& (2147483647 : Int32)) % (5 : Int32)))]))
      by_cases h123 : ((p0 &&& (2147483647 : Int32)) % (5 : Int32)) < (4 : Int32)
      · refine own_pre (fun _ kz_ => XS.icmpYes Xj.here hx rfl (pc0 := 123) (pc' := 154) rfl (hb hby at_123) rfl (tlt h123).1 (by decide) (by decide) kz_) ?_
        show OwnGoes p e below _ (Tj.setTop (mkF m 154 #[.val (.int p0), .val (.int p1), .val (.int p2), .val (.int p3), .val (.int p4), .val (.int p5), .val (.int ((p0 &&& (2147483647 : Int32)) % (5 : Int32))), .val (.ref ob), .val (.int mu), .unset, .unset] []))
        exact J154 _ _ Xj Nj ob B _ _ _ _ _ _ Ij hp hm (by omega) (by omega)
      · refine own_pre (fun _ kz_ => XS.icmpNo Xj.here hx rfl (hb hby at_123) rfl (flt h123).1 kz_) ?_
        show OwnGoes p e below _ (Tj.setTop (mkF m 126 #[.val (.int p0), .val (.int p1), .val (.int p2), .val (.int p3), .val (.int p4), .val (.int p5), .val (.int ((p0 &&& (2147483647 : Int32)) % (5 : Int32))), .val (.ref ob), .val (.int mu), .unset, .unset] []))
        refine own_pre (fun _ kz_ => XS.aload Xj.here hx rfl (hb hby at_126) rfl rfl kz_) ?_
        show OwnGoes p e below _ (Tj.setTop (mkF m 128 #[.val (.int p0), .val (.int p1), .val (.int p2), .val (.int p3), .val (.int p4), .val (.int p5), .val (.int ((p0 &&& (2147483647 : Int32)) % (5 : Int32))), .val (.ref ob), .val (.int mu), .unset, .unset] [(.ref ob)]))
        refine own_pre (fun _ kz_ => XS.iloadN Xj.here hx rfl (hb hby at_128) rfl kz_) ?_
        show OwnGoes p e below _ (Tj.setTop (mkF m 129 #[.val (.int p0), .val (.int p1), .val (.int p2), .val (.int p3), .val (.int p4), .val (.int p5), .val (.int ((p0 &&& (2147483647 : Int32)) % (5 : Int32))), .val (.ref ob), .val (.int mu), .unset, .unset] [(.int p1), (.ref ob)]))
        refine own_pre (fun _ kz_ => XS.iconst Xj.here hx rfl (hb hby at_129) kz_) ?_
        show OwnGoes p e below _ (Tj.setTop (mkF m 130 #[.val (.int p0), .val (.int p1), .val (.int p2), .val (.int p3), .val (.int p4), .val (.int p5), .val (.int ((p0 &&& (2147483647 : Int32)) % (5 : Int32))), .val (.ref ob), .val (.int mu), .unset, .unset] [(.int (3 : Int32)), (.int p1), (.ref ob)]))
        obtain ⟨_, _, ⟨T8, L8, k8, n8⟩, -, X8, ⟨Lc8, hQ8, l8, y8, z8⟩, st8⟩ := Jvm.LawKit.callS Xj hx (y := (⟨"com/example/hyperloom/hyperloom/hyperheuristic/ChoiceFunctionDeltaPinLaw", "pick", "(II)I"⟩ : MethodName)) hown (mvT hZ (hw _ (List.mem_of_getElem? (i := 35) rfl))) (mvT hZ (hw _ (List.mem_of_getElem? (i := 36) rfl))) (mvT hZ (hw _ (List.mem_of_getElem? (i := 37) rfl))) (mvT hZ (hw _ (List.mem_of_getElem? (i := 38) rfl))) (by decide) (backOf (W := 1) (rmPk l Z a0 hw [] p1 (3 : Int32) Tj.heap n0 Ij.sz) hZ (hw _ (List.mem_of_getElem? (i := 38) rfl)) (hw _ (List.mem_of_getElem? (i := 37) rfl)) (by decide) (by decide)) (g := (mkF m 130 #[.val (.int p0), .val (.int p1), .val (.int p2), .val (.int p3), .val (.int p4), .val (.int p5), .val (.int ((p0 &&& (2147483647 : Int32)) % (5 : Int32))), .val (.ref ob), .val (.int mu), .unset, .unset] [(.int (3 : Int32)), (.int p1), (.ref ob)])) rfl (by rw [hml]; rfl) (argsL := [(.int p1), (.int (3 : Int32))]) (rest := [(.ref ob)]) (lenOf (d := "(II)I") (ps := [.int, .int]) (r := some .int) (by decide +kernel) rfl) rfl (by show 2 * 0 + _ ≤ _; exact Nat.le_of_eq rfl) (hb hby at_130) (fun _ _ => ⟨rfl, rfl, (by decide : 20 + 0 ≤ _), (by decide : 1228 + 0 ≤ _)⟩)
        dsimp only [Pt.U, Pt.locs, Pt.cells, Pt.slots] at X8 l8 y8 z8 st8 hQ8
        subst l8 y8 z8
        obtain ⟨j130, hj130, rfl, N8q, e8⟩ := hQ8
        have N8 := Fr.app Nj N8q
        refine own_pre st8 ?_
        show OwnGoes p e below _ (T8.setTop (mkF m 133 #[.val (.int p0), .val (.int p1), .val (.int p2), .val (.int p3), .val (.int p4), .val (.int p5), .val (.int ((p0 &&& (2147483647 : Int32)) % (5 : Int32))), .val (.ref ob), .val (.int mu), .unset, .unset] [(.int (Int32.ofNat j130)), (.ref ob)]))
        refine own_pre (fun _ kz_ => XS.iload X8.here hx rfl (hb hby at_133) rfl kz_) ?_
        show OwnGoes p e below _ (T8.setTop (mkF m 135 #[.val (.int p0), .val (.int p1), .val (.int p2), .val (.int p3), .val (.int p4), .val (.int p5), .val (.int ((p0 &&& (2147483647 : Int32)) % (5 : Int32))), .val (.ref ob), .val (.int mu), .unset, .unset] [(.int p5), (.int (Int32.ofNat j130)), (.ref ob)]))
        obtain ⟨_, _, ⟨T9, L9, k9, n9⟩, -, X9, ⟨Lc9, hQ9, l9, y9, z9⟩, st9⟩ := Jvm.LawKit.callS X8 hx (y := (⟨"com/example/hyperloom/hyperloom/hyperheuristic/ChoiceFunctionDeltaPinLaw", "imp", "(I)D"⟩ : MethodName)) hown (mvT hZ (hw _ (List.mem_of_getElem? (i := 39) rfl))) (mvT hZ (hw _ (List.mem_of_getElem? (i := 40) rfl))) (mvT hZ (hw _ (List.mem_of_getElem? (i := 37) rfl))) (mvT hZ (hw _ (List.mem_of_getElem? (i := 41) rfl))) (by decide) (backOf (W := 2) (rmIm l Z a0 hw [] p5 Tj.heap n0 Ij.sz) hZ (hw _ (List.mem_of_getElem? (i := 41) rfl)) (hw _ (List.mem_of_getElem? (i := 37) rfl)) (by decide) (by decide)) (g := (mkF m 135 #[.val (.int p0), .val (.int p1), .val (.int p2), .val (.int p3), .val (.int p4), .val (.int p5), .val (.int ((p0 &&& (2147483647 : Int32)) % (5 : Int32))), .val (.ref ob), .val (.int mu), .unset, .unset] [(.int p5), (.int (Int32.ofNat j130)), (.ref ob)])) rfl (by rw [hml]; rfl) (argsL := [(.int p5)]) (rest := [(.int (Int32.ofNat j130)), (.ref ob)]) (lenOf (d := "(I)D") (ps := [.int]) (r := some .double) (by decide +kernel) rfl) rfl (by show 2 * 0 + _ ≤ _; exact Nat.le_of_eq rfl) (hb hby at_135) (fun _ _ => ⟨rfl, e8, (by decide : 20 + 0 ≤ _), (by decide : 1228 + 0 ≤ _)⟩)
        dsimp only [Pt.U, Pt.locs, Pt.cells, Pt.slots] at X9 l9 y9 z9 st9 hQ9
        subst l9 y9 z9
        obtain ⟨rfl, N9q, e9⟩ := hQ9
        have N9 := Fr.app N8 N9q
        refine own_pre st9 ?_
        show OwnGoes p e below _ (T9.setTop (mkF m 138 #[.val (.int p0), .val (.int p1), .val (.int p2), .val (.int p3), .val (.int p4), .val (.int p5), .val (.int ((p0 &&& (2147483647 : Int32)) % (5 : Int32))), .val (.ref ob), .val (.int mu), .unset, .unset] [(.double (Jvm.FP.i2d (p5 % (1000 : Int32)))), (.int (Int32.ofNat j130)), (.ref ob)]))
        obtain ⟨cq10, kq10, q10a, q10b, q10c⟩ := isOf hZ e9 Ij.1
        obtain ⟨_, _, ⟨T10, L10, k10, n10⟩, -, X10, ⟨Lc10, hQ10, l10, y10, z10⟩, st10⟩ := X9.virtualBack hx (y := (⟨"com/example/hyperloom/hyperloom/hyperheuristic/ChoiceFunction", "record", "(ID)V"⟩ : MethodName)) (z := (⟨"com/example/hyperloom/hyperloom/hyperheuristic/ChoiceFunction", "record", "(ID)V"⟩ : MethodName)) hown (mvT hZ (hw _ (List.mem_of_getElem? (i := 42) rfl))) (mvT hZ (hw _ (List.mem_of_getElem? (i := 43) rfl))) (notFace_of_selects (args := #[]) (mvT hZ (hw _ (List.mem_of_getElem? (i := 45) rfl)))) (mvT hZ (hw _ (List.mem_of_getElem? (i := 45) rfl))) (mvT hZ (hw _ (List.mem_of_getElem? (i := 44) rfl))) (by decide) (backOf (W := 0) (rmRec1 l Z a0 hw [] ob B j130 pn (p5 % (1000 : Int32)) mu cl lst cont Kj Tj.heap n0 Ij.sz Ij hj130 hpn hm (by omega) (by omega)) hZ (hw _ (List.mem_of_getElem? (i := 46) rfl)) (hw _ (List.mem_of_getElem? (i := 3) rfl)) (by decide) (by decide)) q10a q10c (g := (mkF m 138 #[.val (.int p0), .val (.int p1), .val (.int p2), .val (.int p3), .val (.int p4), .val (.int p5), .val (.int ((p0 &&& (2147483647 : Int32)) % (5 : Int32))), .val (.ref ob), .val (.int mu), .unset, .unset] [(.double (Jvm.FP.i2d (p5 % (1000 : Int32)))), (.int (Int32.ofNat j130)), (.ref ob)])) rfl (by rw [hml]; rfl) (Steps.refl _) (argsL := [(.int (Int32.ofNat j130)), (.double (Jvm.FP.i2d (p5 % (1000 : Int32))))]) (rest := []) (lenOf (d := "(ID)V") (ps := [.int, .double]) (r := none) (by decide +kernel) rfl) rfl (by show 2 * 0 + _ ≤ _; exact Nat.le_of_eq rfl) (hb hby at_138) (fun _ _ => ⟨rfl, e9, (by decide : 20 + 0 ≤ _), (by decide : 1228 + 0 ≤ _)⟩)
        dsimp only [Pt.U, Pt.locs, Pt.cells, Pt.slots] at X10 l10 y10 z10 st10 hQ10
        subst l10 y10 z10
        obtain ⟨rfl, N10q, I10q⟩ := hQ10
        have N10 := Fr.app N9 N10q
        refine own_tr st10 ?_
        have hm10 := own_c0m (6 + 4 * pn + j130) (Jvm.Free.Fl.i2d_mag (p5 % (1000 : Int32))) (own_c0m (1 + j130) (Jvm.Free.Fl.i2d_mag (p5 % (1000 : Int32))) hm (by omega) (by omega)) (by omega) (by omega)
        show OwnGoes p e below _ (T10.setTop (mkF m 141 #[.val (.int p0), .val (.int p1), .val (.int p2), .val (.int p3), .val (.int p4), .val (.int p5), .val (.int ((p0 &&& (2147483647 : Int32)) % (5 : Int32))), .val (.ref ob), .val (.int mu), .unset, .unset] []))
        refine own_pre (fun _ kz_ => XS.iload X10.here hx rfl (hb hby at_141) rfl kz_) ?_
        show OwnGoes p e below _ (T10.setTop (mkF m 143 #[.val (.int p0), .val (.int p1), .val (.int p2), .val (.int p3), .val (.int p4), .val (.int p5), .val (.int ((p0 &&& (2147483647 : Int32)) % (5 : Int32))), .val (.ref ob), .val (.int mu), .unset, .unset] [(.int mu)]))
        refine own_pre (fun _ kz_ => XS.iload X10.here hx rfl (hb hby at_143) rfl kz_) ?_
        show OwnGoes p e below _ (T10.setTop (mkF m 145 #[.val (.int p0), .val (.int p1), .val (.int p2), .val (.int p3), .val (.int p4), .val (.int p5), .val (.int ((p0 &&& (2147483647 : Int32)) % (5 : Int32))), .val (.ref ob), .val (.int mu), .unset, .unset] [(.int p5), (.int mu)]))
        refine own_pre (fun _ kz_ => XS.sipush X10.here hx rfl (hb hby at_145) kz_) ?_
        show OwnGoes p e below _ (T10.setTop (mkF m 148 #[.val (.int p0), .val (.int p1), .val (.int p2), .val (.int p3), .val (.int p4), .val (.int p5), .val (.int ((p0 &&& (2147483647 : Int32)) % (5 : Int32))), .val (.ref ob), .val (.int mu), .unset, .unset] [(.int (1000 : Int32)), (.int p5), (.int mu)]))
        refine own_pre (fun _ kz_ => iremM X10 hx rfl (hb hby at_148) rfl (by decide) kz_) ?_
        show OwnGoes p e below _ (T10.setTop (mkF m 149 #[.val (.int p0), .val (.int p1), .val (.int p2), .val (.int p3), .val (.int p4), .val (.int p5), .val (.int ((p0 &&& (2147483647 : Int32)) % (5 : Int32))), .val (.ref ob), .val (.int mu), .unset, .unset] [(.int (p5 % (1000 : Int32))), (.int mu)]))
        obtain ⟨_, _, ⟨T11, L11, k11, n11⟩, -, X11, ⟨Lc11, hQ11, l11, y11, z11⟩, st11⟩ := Jvm.LawKit.callS X10 hx (y := (⟨"com/example/hyperloom/hyperloom/hyperheuristic/ChoiceFunctionDeltaPinLaw", "next", "(II)I"⟩ : MethodName)) hown (mvT hZ (hw _ (List.mem_of_getElem? (i := 52) rfl))) (mvT hZ (hw _ (List.mem_of_getElem? (i := 53) rfl))) (mvT hZ (hw _ (List.mem_of_getElem? (i := 37) rfl))) (mvT hZ (hw _ (List.mem_of_getElem? (i := 54) rfl))) (by decide) (backOf (W := 0) (rmNx l Z a0 hw [] mu (p5 % (1000 : Int32)) T10.heap n0 I10q.sz) hZ (hw _ (List.mem_of_getElem? (i := 54) rfl)) (hw _ (List.mem_of_getElem? (i := 37) rfl)) (by decide) (by decide)) (g := (mkF m 149 #[.val (.int p0), .val (.int p1), .val (.int p2), .val (.int p3), .val (.int p4), .val (.int p5), .val (.int ((p0 &&& (2147483647 : Int32)) % (5 : Int32))), .val (.ref ob), .val (.int mu), .unset, .unset] [(.int (p5 % (1000 : Int32))), (.int mu)])) rfl (by rw [hml]; rfl) (argsL := [(.int mu), (.int (p5 % (1000 : Int32)))]) (rest := []) (lenOf (d := "(II)I") (ps := [.int, .int]) (r := some .int) (by decide +kernel) rfl) rfl (by show 2 * 0 + _ ≤ _; exact Nat.le_of_eq rfl) (hb hby at_149) (fun _ _ => ⟨rfl, rfl, (by decide : 20 + 0 ≤ _), (by decide : 1228 + 0 ≤ _)⟩)
        dsimp only [Pt.U, Pt.locs, Pt.cells, Pt.slots] at X11 l11 y11 z11 st11 hQ11
        subst l11 y11 z11
        obtain ⟨rfl, N11q, e11⟩ := hQ11
        have N11 := Fr.app N10 N11q
        refine own_pre st11 ?_
        show OwnGoes p e below _ (T11.setTop (mkF m 152 #[.val (.int p0), .val (.int p1), .val (.int p2), .val (.int p3), .val (.int p4), .val (.int p5), .val (.int ((p0 &&& (2147483647 : Int32)) % (5 : Int32))), .val (.ref ob), .val (.int mu), .unset, .unset] [(.int (own_next mu (p5 % (1000 : Int32))))]))
        refine own_pre (fun _ kz_ => XS.istore X11.here hx rfl (hb hby at_152) rfl (l' := #[.val (.int p0), .val (.int p1), .val (.int p2), .val (.int p3), .val (.int p4), .val (.int p5), .val (.int ((p0 &&& (2147483647 : Int32)) % (5 : Int32))), .val (.ref ob), .val (.int (own_next mu (p5 % (1000 : Int32)))), .unset, .unset]) rfl kz_) ?_
        show OwnGoes p e below _ (T11.setTop (mkF m 154 #[.val (.int p0), .val (.int p1), .val (.int p2), .val (.int p3), .val (.int p4), .val (.int p5), .val (.int ((p0 &&& (2147483647 : Int32)) % (5 : Int32))), .val (.ref ob), .val (.int (own_next mu (p5 % (1000 : Int32)))), .unset, .unset] []))
        exact J154 _ _ X11 N11 ob B _ _ _ _ _ _ (by rw [e11]; exact I10q) (Or.inr ⟨_, hj130, rfl⟩) hm10 (by omega) (by omega)
  have J86 : ∀ (Tj : State) (lj : List Loc) (Xj : Stand p l e room_1 s m #[(.int p0), (.int p1), (.int p2), (.int p3), (.int p4), (.int p5)] below meth c Tj lj 20 1228) (Nj : Fr n0 lj) (ob B : Nat) (mu prev : Int32) (cl : Int64) (lst : Nat → Int64) (cont : Nat → Nat → UInt64) (Kj : Nat) (Ij : OwnCF Z n0 Tj.heap ob B prev mu cl lst cont) (hp : prev = (-1 : Int32) ∨ ∃ pn : Nat, pn < 3 ∧ prev = Int32.ofNat pn) (hm : ∀ x i, Jvm.Free.Fl.Mag64 Kj (cont x i)) (hK1 : 1056 ≤ Kj) (hK2 : Kj ≤ 1180), OwnGoes p e below (fun ow_ Ue_ => ∃ vw_ Lw_, ow_ = .returned vw_ ∧ Q0 h0 n0 vw_ Ue_.heap Lw_ ∧ FrameEnd s ow_ Ue_ Lw_ room_1.cells room_1.slots) (Tj.setTop (mkF m 86 #[.val (.int p0), .val (.int p1), .val (.int p2), .val (.int p3), .val (.int p4), .val (.int p5), .val (.int ((p0 &&& (2147483647 : Int32)) % (5 : Int32))), .val (.ref ob), .val (.int mu), .unset, .unset] [])) := by
    intro Tj lj Xj Nj ob B mu prev cl lst cont Kj Ij hp hm hK1 hK2
    rcases hp with rfl | ⟨pn, hpn, rfl⟩
    · have hp : (-1 : Int32) = (-1 : Int32) ∨ ∃ pz : Nat, pz < 3 ∧ (-1 : Int32) = Int32.ofNat pz := Or.inl rfl
      show OwnGoes p e below _ (Tj.setTop (mkF m 86 #[.val (.int p0), .val (.int p1), .val (.int p2), .val (.int p3), .val (.int p4), .val (.int p5), .val (.int ((p0 &&& (2147483647 : Int32)) % (5 : Int32))), .val (.ref ob), .val (.int mu), .unset, .unset] []))
      refine own_pre (fun _ kz_ => XS.iload Xj.here hx rfl (hb hby at_86) rfl kz_) ?_
      show OwnGoes p e below _ (Tj.setTop (mkF m 88 #[.val (.int p0), .val (.int p1), .val (.int p2), .val (.int p3), .val (.int p4), .val (.int p5), .val (.int ((p0 &&& (2147483647 : Int32)) % (5 : Int32))), .val (.ref ob), .val (.int mu), .unset, .unset] [(.int ((p0 &&& (2147483647 : Int32)) % (5 : Int32)))]))
      refine own_pre (fun _ kz_ => XS.iconst Xj.here hx rfl (hb hby at_88) kz_) ?_
      show OwnGoes p e below _ (Tj.setTop (mkF m 89 #[.val (.int p0), .val (.int p1), .val (.int p2), .val (.int p3), .val (.int p4), .val (.int p5), .val (.int ((p0 &&& (2147483647 : Int32)) % (5 : Int32))), .val (.ref ob), .val (.int mu), .unset, .unset] [(.int (3 : Int32)), (.int ((p0 &&& (2147483647 : Int32)) % (5 : Int32)))]))
      by_cases h89 : ((p0 &&& (2147483647 : Int32)) % (5 : Int32)) < (3 : Int32)
      · refine own_pre (fun _ kz_ => XS.icmpYes Xj.here hx rfl (pc0 := 89) (pc' := 120) rfl (hb hby at_89) rfl (tlt h89).1 (by decide) (by decide) kz_) ?_
        show OwnGoes p e below _ (Tj.setTop (mkF m 120 #[.val (.int p0), .val (.int p1), .val (.int p2), .val (.int p3), .val (.int p4), .val (.int p5), .val (.int ((p0 &&& (2147483647 : Int32)) % (5 : Int32))), .val (.ref ob), .val (.int mu), .unset, .unset] []))
        exact J120 _ _ Xj Nj ob B _ _ _ _ _ _ Ij hp hm (by omega) (by omega)
      · refine own_pre (fun _ kz_ => XS.icmpNo Xj.here hx rfl (hb hby at_89) rfl (flt h89).1 kz_) ?_
        show OwnGoes p e below _ (Tj.setTop (mkF m 92 #[.val (.int p0), .val (.int p1), .val (.int p2), .val (.int p3), .val (.int p4), .val (.int p5), .val (.int ((p0 &&& (2147483647 : Int32)) % (5 : Int32))), .val (.ref ob), .val (.int mu), .unset, .unset] []))
        refine own_pre (fun _ kz_ => XS.aload Xj.here hx rfl (hb hby at_92) rfl rfl kz_) ?_
        show OwnGoes p e below _ (Tj.setTop (mkF m 94 #[.val (.int p0), .val (.int p1), .val (.int p2), .val (.int p3), .val (.int p4), .val (.int p5), .val (.int ((p0 &&& (2147483647 : Int32)) % (5 : Int32))), .val (.ref ob), .val (.int mu), .unset, .unset] [(.ref ob)]))
        refine own_pre (fun _ kz_ => XS.iloadN Xj.here hx rfl (hb hby at_94) rfl kz_) ?_
        show OwnGoes p e below _ (Tj.setTop (mkF m 95 #[.val (.int p0), .val (.int p1), .val (.int p2), .val (.int p3), .val (.int p4), .val (.int p5), .val (.int ((p0 &&& (2147483647 : Int32)) % (5 : Int32))), .val (.ref ob), .val (.int mu), .unset, .unset] [(.int p1), (.ref ob)]))
        refine own_pre (fun _ kz_ => XS.iconst Xj.here hx rfl (hb hby at_95) kz_) ?_
        show OwnGoes p e below _ (Tj.setTop (mkF m 96 #[.val (.int p0), .val (.int p1), .val (.int p2), .val (.int p3), .val (.int p4), .val (.int p5), .val (.int ((p0 &&& (2147483647 : Int32)) % (5 : Int32))), .val (.ref ob), .val (.int mu), .unset, .unset] [(.int (2 : Int32)), (.int p1), (.ref ob)]))
        obtain ⟨_, _, ⟨T12, L12, k12, n12⟩, -, X12, ⟨Lc12, hQ12, l12, y12, z12⟩, st12⟩ := Jvm.LawKit.callS Xj hx (y := (⟨"com/example/hyperloom/hyperloom/hyperheuristic/ChoiceFunctionDeltaPinLaw", "pick", "(II)I"⟩ : MethodName)) hown (mvT hZ (hw _ (List.mem_of_getElem? (i := 35) rfl))) (mvT hZ (hw _ (List.mem_of_getElem? (i := 36) rfl))) (mvT hZ (hw _ (List.mem_of_getElem? (i := 37) rfl))) (mvT hZ (hw _ (List.mem_of_getElem? (i := 38) rfl))) (by decide) (backOf (W := 1) (rmPk l Z a0 hw [] p1 (2 : Int32) Tj.heap n0 Ij.sz) hZ (hw _ (List.mem_of_getElem? (i := 38) rfl)) (hw _ (List.mem_of_getElem? (i := 37) rfl)) (by decide) (by decide)) (g := (mkF m 96 #[.val (.int p0), .val (.int p1), .val (.int p2), .val (.int p3), .val (.int p4), .val (.int p5), .val (.int ((p0 &&& (2147483647 : Int32)) % (5 : Int32))), .val (.ref ob), .val (.int mu), .unset, .unset] [(.int (2 : Int32)), (.int p1), (.ref ob)])) rfl (by rw [hml]; rfl) (argsL := [(.int p1), (.int (2 : Int32))]) (rest := [(.ref ob)]) (lenOf (d := "(II)I") (ps := [.int, .int]) (r := some .int) (by decide +kernel) rfl) rfl (by show 2 * 0 + _ ≤ _; exact Nat.le_of_eq rfl) (hb hby at_96) (fun _ _ => ⟨rfl, rfl, (by decide : 20 + 0 ≤ _), (by decide : 1228 + 0 ≤ _)⟩)
        dsimp only [Pt.U, Pt.locs, Pt.cells, Pt.slots] at X12 l12 y12 z12 st12 hQ12
        subst l12 y12 z12
        obtain ⟨j96, hj96, rfl, N12q, e12⟩ := hQ12
        have N12 := Fr.app Nj N12q
        refine own_pre st12 ?_
        show OwnGoes p e below _ (T12.setTop (mkF m 99 #[.val (.int p0), .val (.int p1), .val (.int p2), .val (.int p3), .val (.int p4), .val (.int p5), .val (.int ((p0 &&& (2147483647 : Int32)) % (5 : Int32))), .val (.ref ob), .val (.int mu), .unset, .unset] [(.int (Int32.ofNat j96)), (.ref ob)]))
        refine own_pre (fun _ kz_ => XS.iload X12.here hx rfl (hb hby at_99) rfl kz_) ?_
        show OwnGoes p e below _ (T12.setTop (mkF m 101 #[.val (.int p0), .val (.int p1), .val (.int p2), .val (.int p3), .val (.int p4), .val (.int p5), .val (.int ((p0 &&& (2147483647 : Int32)) % (5 : Int32))), .val (.ref ob), .val (.int mu), .unset, .unset] [(.int p4), (.int (Int32.ofNat j96)), (.ref ob)]))
        obtain ⟨_, _, ⟨T13, L13, k13, n13⟩, -, X13, ⟨Lc13, hQ13, l13, y13, z13⟩, st13⟩ := Jvm.LawKit.callS X12 hx (y := (⟨"com/example/hyperloom/hyperloom/hyperheuristic/ChoiceFunctionDeltaPinLaw", "imp", "(I)D"⟩ : MethodName)) hown (mvT hZ (hw _ (List.mem_of_getElem? (i := 39) rfl))) (mvT hZ (hw _ (List.mem_of_getElem? (i := 40) rfl))) (mvT hZ (hw _ (List.mem_of_getElem? (i := 37) rfl))) (mvT hZ (hw _ (List.mem_of_getElem? (i := 41) rfl))) (by decide) (backOf (W := 2) (rmIm l Z a0 hw [] p4 Tj.heap n0 Ij.sz) hZ (hw _ (List.mem_of_getElem? (i := 41) rfl)) (hw _ (List.mem_of_getElem? (i := 37) rfl)) (by decide) (by decide)) (g := (mkF m 101 #[.val (.int p0), .val (.int p1), .val (.int p2), .val (.int p3), .val (.int p4), .val (.int p5), .val (.int ((p0 &&& (2147483647 : Int32)) % (5 : Int32))), .val (.ref ob), .val (.int mu), .unset, .unset] [(.int p4), (.int (Int32.ofNat j96)), (.ref ob)])) rfl (by rw [hml]; rfl) (argsL := [(.int p4)]) (rest := [(.int (Int32.ofNat j96)), (.ref ob)]) (lenOf (d := "(I)D") (ps := [.int]) (r := some .double) (by decide +kernel) rfl) rfl (by show 2 * 0 + _ ≤ _; exact Nat.le_of_eq rfl) (hb hby at_101) (fun _ _ => ⟨rfl, e12, (by decide : 20 + 0 ≤ _), (by decide : 1228 + 0 ≤ _)⟩)
        dsimp only [Pt.U, Pt.locs, Pt.cells, Pt.slots] at X13 l13 y13 z13 st13 hQ13
        subst l13 y13 z13
        obtain ⟨rfl, N13q, e13⟩ := hQ13
        have N13 := Fr.app N12 N13q
        refine own_pre st13 ?_
        show OwnGoes p e below _ (T13.setTop (mkF m 104 #[.val (.int p0), .val (.int p1), .val (.int p2), .val (.int p3), .val (.int p4), .val (.int p5), .val (.int ((p0 &&& (2147483647 : Int32)) % (5 : Int32))), .val (.ref ob), .val (.int mu), .unset, .unset] [(.double (Jvm.FP.i2d (p4 % (1000 : Int32)))), (.int (Int32.ofNat j96)), (.ref ob)]))
        obtain ⟨cq14, kq14, q14a, q14b, q14c⟩ := isOf hZ e13 Ij.1
        obtain ⟨_, _, ⟨T14, L14, k14, n14⟩, -, X14, ⟨Lc14, hQ14, l14, y14, z14⟩, st14⟩ := X13.virtualBack hx (y := (⟨"com/example/hyperloom/hyperloom/hyperheuristic/ChoiceFunction", "record", "(ID)V"⟩ : MethodName)) (z := (⟨"com/example/hyperloom/hyperloom/hyperheuristic/ChoiceFunction", "record", "(ID)V"⟩ : MethodName)) hown (mvT hZ (hw _ (List.mem_of_getElem? (i := 42) rfl))) (mvT hZ (hw _ (List.mem_of_getElem? (i := 43) rfl))) (notFace_of_selects (args := #[]) (mvT hZ (hw _ (List.mem_of_getElem? (i := 45) rfl)))) (mvT hZ (hw _ (List.mem_of_getElem? (i := 45) rfl))) (mvT hZ (hw _ (List.mem_of_getElem? (i := 44) rfl))) (by decide) (backOf (W := 0) (rmRec0 l Z a0 hw [] ob B j96 (p4 % (1000 : Int32)) mu cl lst cont Kj Tj.heap n0 Ij.sz Ij hj96 hm (by omega) (by omega)) hZ (hw _ (List.mem_of_getElem? (i := 46) rfl)) (hw _ (List.mem_of_getElem? (i := 3) rfl)) (by decide) (by decide)) q14a q14c (g := (mkF m 104 #[.val (.int p0), .val (.int p1), .val (.int p2), .val (.int p3), .val (.int p4), .val (.int p5), .val (.int ((p0 &&& (2147483647 : Int32)) % (5 : Int32))), .val (.ref ob), .val (.int mu), .unset, .unset] [(.double (Jvm.FP.i2d (p4 % (1000 : Int32)))), (.int (Int32.ofNat j96)), (.ref ob)])) rfl (by rw [hml]; rfl) (Steps.refl _) (argsL := [(.int (Int32.ofNat j96)), (.double (Jvm.FP.i2d (p4 % (1000 : Int32))))]) (rest := []) (lenOf (d := "(ID)V") (ps := [.int, .double]) (r := none) (by decide +kernel) rfl) rfl (by show 2 * 0 + _ ≤ _; exact Nat.le_of_eq rfl) (hb hby at_104) (fun _ _ => ⟨rfl, e13, (by decide : 20 + 0 ≤ _), (by decide : 1228 + 0 ≤ _)⟩)
        dsimp only [Pt.U, Pt.locs, Pt.cells, Pt.slots] at X14 l14 y14 z14 st14 hQ14
        subst l14 y14 z14
        obtain ⟨rfl, N14q, I14q⟩ := hQ14
        have N14 := Fr.app N13 N14q
        refine own_tr st14 ?_
        have hm14 := own_c0m (1 + j96) (Jvm.Free.Fl.i2d_mag (p4 % (1000 : Int32))) hm (by omega) (by omega)
        show OwnGoes p e below _ (T14.setTop (mkF m 107 #[.val (.int p0), .val (.int p1), .val (.int p2), .val (.int p3), .val (.int p4), .val (.int p5), .val (.int ((p0 &&& (2147483647 : Int32)) % (5 : Int32))), .val (.ref ob), .val (.int mu), .unset, .unset] []))
        refine own_pre (fun _ kz_ => XS.iload X14.here hx rfl (hb hby at_107) rfl kz_) ?_
        show OwnGoes p e below _ (T14.setTop (mkF m 109 #[.val (.int p0), .val (.int p1), .val (.int p2), .val (.int p3), .val (.int p4), .val (.int p5), .val (.int ((p0 &&& (2147483647 : Int32)) % (5 : Int32))), .val (.ref ob), .val (.int mu), .unset, .unset] [(.int mu)]))
        refine own_pre (fun _ kz_ => XS.iload X14.here hx rfl (hb hby at_109) rfl kz_) ?_
        show OwnGoes p e below _ (T14.setTop (mkF m 111 #[.val (.int p0), .val (.int p1), .val (.int p2), .val (.int p3), .val (.int p4), .val (.int p5), .val (.int ((p0 &&& (2147483647 : Int32)) % (5 : Int32))), .val (.ref ob), .val (.int mu), .unset, .unset] [(.int p4), (.int mu)]))
        refine own_pre (fun _ kz_ => XS.sipush X14.here hx rfl (hb hby at_111) kz_) ?_
        show OwnGoes p e below _ (T14.setTop (mkF m 114 #[.val (.int p0), .val (.int p1), .val (.int p2), .val (.int p3), .val (.int p4), .val (.int p5), .val (.int ((p0 &&& (2147483647 : Int32)) % (5 : Int32))), .val (.ref ob), .val (.int mu), .unset, .unset] [(.int (1000 : Int32)), (.int p4), (.int mu)]))
        refine own_pre (fun _ kz_ => iremM X14 hx rfl (hb hby at_114) rfl (by decide) kz_) ?_
        show OwnGoes p e below _ (T14.setTop (mkF m 115 #[.val (.int p0), .val (.int p1), .val (.int p2), .val (.int p3), .val (.int p4), .val (.int p5), .val (.int ((p0 &&& (2147483647 : Int32)) % (5 : Int32))), .val (.ref ob), .val (.int mu), .unset, .unset] [(.int (p4 % (1000 : Int32))), (.int mu)]))
        obtain ⟨_, _, ⟨T15, L15, k15, n15⟩, -, X15, ⟨Lc15, hQ15, l15, y15, z15⟩, st15⟩ := Jvm.LawKit.callS X14 hx (y := (⟨"com/example/hyperloom/hyperloom/hyperheuristic/ChoiceFunctionDeltaPinLaw", "next", "(II)I"⟩ : MethodName)) hown (mvT hZ (hw _ (List.mem_of_getElem? (i := 52) rfl))) (mvT hZ (hw _ (List.mem_of_getElem? (i := 53) rfl))) (mvT hZ (hw _ (List.mem_of_getElem? (i := 37) rfl))) (mvT hZ (hw _ (List.mem_of_getElem? (i := 54) rfl))) (by decide) (backOf (W := 0) (rmNx l Z a0 hw [] mu (p4 % (1000 : Int32)) T14.heap n0 I14q.sz) hZ (hw _ (List.mem_of_getElem? (i := 54) rfl)) (hw _ (List.mem_of_getElem? (i := 37) rfl)) (by decide) (by decide)) (g := (mkF m 115 #[.val (.int p0), .val (.int p1), .val (.int p2), .val (.int p3), .val (.int p4), .val (.int p5), .val (.int ((p0 &&& (2147483647 : Int32)) % (5 : Int32))), .val (.ref ob), .val (.int mu), .unset, .unset] [(.int (p4 % (1000 : Int32))), (.int mu)])) rfl (by rw [hml]; rfl) (argsL := [(.int mu), (.int (p4 % (1000 : Int32)))]) (rest := []) (lenOf (d := "(II)I") (ps := [.int, .int]) (r := some .int) (by decide +kernel) rfl) rfl (by show 2 * 0 + _ ≤ _; exact Nat.le_of_eq rfl) (hb hby at_115) (fun _ _ => ⟨rfl, rfl, (by decide : 20 + 0 ≤ _), (by decide : 1228 + 0 ≤ _)⟩)
        dsimp only [Pt.U, Pt.locs, Pt.cells, Pt.slots] at X15 l15 y15 z15 st15 hQ15
        subst l15 y15 z15
        obtain ⟨rfl, N15q, e15⟩ := hQ15
        have N15 := Fr.app N14 N15q
        refine own_pre st15 ?_
        show OwnGoes p e below _ (T15.setTop (mkF m 118 #[.val (.int p0), .val (.int p1), .val (.int p2), .val (.int p3), .val (.int p4), .val (.int p5), .val (.int ((p0 &&& (2147483647 : Int32)) % (5 : Int32))), .val (.ref ob), .val (.int mu), .unset, .unset] [(.int (own_next mu (p4 % (1000 : Int32))))]))
        refine own_pre (fun _ kz_ => XS.istore X15.here hx rfl (hb hby at_118) rfl (l' := #[.val (.int p0), .val (.int p1), .val (.int p2), .val (.int p3), .val (.int p4), .val (.int p5), .val (.int ((p0 &&& (2147483647 : Int32)) % (5 : Int32))), .val (.ref ob), .val (.int (own_next mu (p4 % (1000 : Int32)))), .unset, .unset]) rfl kz_) ?_
        show OwnGoes p e below _ (T15.setTop (mkF m 120 #[.val (.int p0), .val (.int p1), .val (.int p2), .val (.int p3), .val (.int p4), .val (.int p5), .val (.int ((p0 &&& (2147483647 : Int32)) % (5 : Int32))), .val (.ref ob), .val (.int (own_next mu (p4 % (1000 : Int32)))), .unset, .unset] []))
        exact J120 _ _ X15 N15 ob B _ _ _ _ _ _ (by rw [e15]; exact I14q) (Or.inr ⟨_, hj96, rfl⟩) hm14 (by omega) (by omega)
    · have hp : (Int32.ofNat pn) = (-1 : Int32) ∨ ∃ pz : Nat, pz < 3 ∧ (Int32.ofNat pn) = Int32.ofNat pz := Or.inr ⟨pn, hpn, rfl⟩
      show OwnGoes p e below _ (Tj.setTop (mkF m 86 #[.val (.int p0), .val (.int p1), .val (.int p2), .val (.int p3), .val (.int p4), .val (.int p5), .val (.int ((p0 &&& (2147483647 : Int32)) % (5 : Int32))), .val (.ref ob), .val (.int mu), .unset, .unset] []))
      refine own_pre (fun _ kz_ => XS.iload Xj.here hx rfl (hb hby at_86) rfl kz_) ?_
      show OwnGoes p e below _ (Tj.setTop (mkF m 88 #[.val (.int p0), .val (.int p1), .val (.int p2), .val (.int p3), .val (.int p4), .val (.int p5), .val (.int ((p0 &&& (2147483647 : Int32)) % (5 : Int32))), .val (.ref ob), .val (.int mu), .unset, .unset] [(.int ((p0 &&& (2147483647 : Int32)) % (5 : Int32)))]))
      refine own_pre (fun _ kz_ => XS.iconst Xj.here hx rfl (hb hby at_88) kz_) ?_
      show OwnGoes p e below _ (Tj.setTop (mkF m 89 #[.val (.int p0), .val (.int p1), .val (.int p2), .val (.int p3), .val (.int p4), .val (.int p5), .val (.int ((p0 &&& (2147483647 : Int32)) % (5 : Int32))), .val (.ref ob), .val (.int mu), .unset, .unset] [(.int (3 : Int32)), (.int ((p0 &&& (2147483647 : Int32)) % (5 : Int32)))]))
      by_cases h89 : ((p0 &&& (2147483647 : Int32)) % (5 : Int32)) < (3 : Int32)
      · refine own_pre (fun _ kz_ => XS.icmpYes Xj.here hx rfl (pc0 := 89) (pc' := 120) rfl (hb hby at_89) rfl (tlt h89).1 (by decide) (by decide) kz_) ?_
        show OwnGoes p e below _ (Tj.setTop (mkF m 120 #[.val (.int p0), .val (.int p1), .val (.int p2), .val (.int p3), .val (.int p4), .val (.int p5), .val (.int ((p0 &&& (2147483647 : Int32)) % (5 : Int32))), .val (.ref ob), .val (.int mu), .unset, .unset] []))
        exact J120 _ _ Xj Nj ob B _ _ _ _ _ _ Ij hp hm (by omega) (by omega)
      · refine own_pre (fun _ kz_ => XS.icmpNo Xj.here hx rfl (hb hby at_89) rfl (flt h89).1 kz_) ?_
        show OwnGoes p e below _ (Tj.setTop (mkF m 92 #[.val (.int p0), .val (.int p1), .val (.int p2), .val (.int p3), .val (.int p4), .val (.int p5), .val (.int ((p0 &&& (2147483647 : Int32)) % (5 : Int32))), .val (.ref ob), .val (.int mu), .unset, .unset] []))
        refine own_pre (fun _ kz_ => XS.aload Xj.here hx rfl (hb hby at_92) rfl rfl kz_) ?_
        show OwnGoes p e below _ (Tj.setTop (mkF m 94 #[.val (.int p0), .val (.int p1), .val (.int p2), .val (.int p3), .val (.int p4), .val (.int p5), .val (.int ((p0 &&& (2147483647 : Int32)) % (5 : Int32))), .val (.ref ob), .val (.int mu), .unset, .unset] [(.ref ob)]))
        refine own_pre (fun _ kz_ => XS.iloadN Xj.here hx rfl (hb hby at_94) rfl kz_) ?_
        show OwnGoes p e below _ (Tj.setTop (mkF m 95 #[.val (.int p0), .val (.int p1), .val (.int p2), .val (.int p3), .val (.int p4), .val (.int p5), .val (.int ((p0 &&& (2147483647 : Int32)) % (5 : Int32))), .val (.ref ob), .val (.int mu), .unset, .unset] [(.int p1), (.ref ob)]))
        refine own_pre (fun _ kz_ => XS.iconst Xj.here hx rfl (hb hby at_95) kz_) ?_
        show OwnGoes p e below _ (Tj.setTop (mkF m 96 #[.val (.int p0), .val (.int p1), .val (.int p2), .val (.int p3), .val (.int p4), .val (.int p5), .val (.int ((p0 &&& (2147483647 : Int32)) % (5 : Int32))), .val (.ref ob), .val (.int mu), .unset, .unset] [(.int (2 : Int32)), (.int p1), (.ref ob)]))
        obtain ⟨_, _, ⟨T16, L16, k16, n16⟩, -, X16, ⟨Lc16, hQ16, l16, y16, z16⟩, st16⟩ := Jvm.LawKit.callS Xj hx (y := (⟨"com/example/hyperloom/hyperloom/hyperheuristic/ChoiceFunctionDeltaPinLaw", "pick", "(II)I"⟩ : MethodName)) hown (mvT hZ (hw _ (List.mem_of_getElem? (i := 35) rfl))) (mvT hZ (hw _ (List.mem_of_getElem? (i := 36) rfl))) (mvT hZ (hw _ (List.mem_of_getElem? (i := 37) rfl))) (mvT hZ (hw _ (List.mem_of_getElem? (i := 38) rfl))) (by decide) (backOf (W := 1) (rmPk l Z a0 hw [] p1 (2 : Int32) Tj.heap n0 Ij.sz) hZ (hw _ (List.mem_of_getElem? (i := 38) rfl)) (hw _ (List.mem_of_getElem? (i := 37) rfl)) (by decide) (by decide)) (g := (mkF m 96 #[.val (.int p0), .val (.int p1), .val (.int p2), .val (.int p3), .val (.int p4), .val (.int p5), .val (.int ((p0 &&& (2147483647 : Int32)) % (5 : Int32))), .val (.ref ob), .val (.int mu), .unset, .unset] [(.int (2 : Int32)), (.int p1), (.ref ob)])) rfl (by rw [hml]; rfl) (argsL := [(.int p1), (.int (2 : Int32))]) (rest := [(.ref ob)]) (lenOf (d := "(II)I") (ps := [.int, .int]) (r := some .int) (by decide +kernel) rfl) rfl (by show 2 * 0 + _ ≤ _; exact Nat.le_of_eq rfl) (hb hby at_96) (fun _ _ => ⟨rfl, rfl, (by decide : 20 + 0 ≤ _), (by decide : 1228 + 0 ≤ _)⟩)
        dsimp only [Pt.U, Pt.locs, Pt.cells, Pt.slots] at X16 l16 y16 z16 st16 hQ16
        subst l16 y16 z16
        obtain ⟨j96, hj96, rfl, N16q, e16⟩ := hQ16
        have N16 := Fr.app Nj N16q
        refine own_pre st16 ?_
        show OwnGoes p e below _ (T16.setTop (mkF m 99 #[.val (.int p0), .val (.int p1), .val (.int p2), .val (.int p3), .val (.int p4), .val (.int p5), .val (.int ((p0 &&& (2147483647 : Int32)) % (5 : Int32))), .val (.ref ob), .val (.int mu), .unset, .unset] [(.int (Int32.ofNat j96)), (.ref ob)]))
        refine own_pre (fun _ kz_ => XS.iload X16.here hx rfl (hb hby at_99) rfl kz_) ?_
        show OwnGoes p e below _ (T16.setTop (mkF m 101 #[.val (.int p0), .val (.int p1), .val (.int p2), .val (.int p3), .val (.int p4), .val (.int p5), .val (.int ((p0 &&& (2147483647 : Int32)) % (5 : Int32))), .val (.ref ob), .val (.int mu), .unset, .unset] [(.int p4), (.int (Int32.ofNat j96)), (.ref ob)]))
        obtain ⟨_, _, ⟨T17, L17, k17, n17⟩, -, X17, ⟨Lc17, hQ17, l17, y17, z17⟩, st17⟩ := Jvm.LawKit.callS X16 hx (y := (⟨"com/example/hyperloom/hyperloom/hyperheuristic/ChoiceFunctionDeltaPinLaw", "imp", "(I)D"⟩ : MethodName)) hown (mvT hZ (hw _ (List.mem_of_getElem? (i := 39) rfl))) (mvT hZ (hw _ (List.mem_of_getElem? (i := 40) rfl))) (mvT hZ (hw _ (List.mem_of_getElem? (i := 37) rfl))) (mvT hZ (hw _ (List.mem_of_getElem? (i := 41) rfl))) (by decide) (backOf (W := 2) (rmIm l Z a0 hw [] p4 Tj.heap n0 Ij.sz) hZ (hw _ (List.mem_of_getElem? (i := 41) rfl)) (hw _ (List.mem_of_getElem? (i := 37) rfl)) (by decide) (by decide)) (g := (mkF m 101 #[.val (.int p0), .val (.int p1), .val (.int p2), .val (.int p3), .val (.int p4), .val (.int p5), .val (.int ((p0 &&& (2147483647 : Int32)) % (5 : Int32))), .val (.ref ob), .val (.int mu), .unset, .unset] [(.int p4), (.int (Int32.ofNat j96)), (.ref ob)])) rfl (by rw [hml]; rfl) (argsL := [(.int p4)]) (rest := [(.int (Int32.ofNat j96)), (.ref ob)]) (lenOf (d := "(I)D") (ps := [.int]) (r := some .double) (by decide +kernel) rfl) rfl (by show 2 * 0 + _ ≤ _; exact Nat.le_of_eq rfl) (hb hby at_101) (fun _ _ => ⟨rfl, e16, (by decide : 20 + 0 ≤ _), (by decide : 1228 + 0 ≤ _)⟩)
        dsimp only [Pt.U, Pt.locs, Pt.cells, Pt.slots] at X17 l17 y17 z17 st17 hQ17
        subst l17 y17 z17
        obtain ⟨rfl, N17q, e17⟩ := hQ17
        have N17 := Fr.app N16 N17q
        refine own_pre st17 ?_
        show OwnGoes p e below _ (T17.setTop (mkF m 104 #[.val (.int p0), .val (.int p1), .val (.int p2), .val (.int p3), .val (.int p4), .val (.int p5), .val (.int ((p0 &&& (2147483647 : Int32)) % (5 : Int32))), .val (.ref ob), .val (.int mu), .unset, .unset] [(.double (Jvm.FP.i2d (p4 % (1000 : Int32)))), (.int (Int32.ofNat j96)), (.ref ob)]))
        obtain ⟨cq18, kq18, q18a, q18b, q18c⟩ := isOf hZ e17 Ij.1
        obtain ⟨_, _, ⟨T18, L18, k18, n18⟩, -, X18, ⟨Lc18, hQ18, l18, y18, z18⟩, st18⟩ := X17.virtualBack hx (y := (⟨"com/example/hyperloom/hyperloom/hyperheuristic/ChoiceFunction", "record", "(ID)V"⟩ : MethodName)) (z := (⟨"com/example/hyperloom/hyperloom/hyperheuristic/ChoiceFunction", "record", "(ID)V"⟩ : MethodName)) hown (mvT hZ (hw _ (List.mem_of_getElem? (i := 42) rfl))) (mvT hZ (hw _ (List.mem_of_getElem? (i := 43) rfl))) (notFace_of_selects (args := #[]) (mvT hZ (hw _ (List.mem_of_getElem? (i := 45) rfl)))) (mvT hZ (hw _ (List.mem_of_getElem? (i := 45) rfl))) (mvT hZ (hw _ (List.mem_of_getElem? (i := 44) rfl))) (by decide) (backOf (W := 0) (rmRec1 l Z a0 hw [] ob B j96 pn (p4 % (1000 : Int32)) mu cl lst cont Kj Tj.heap n0 Ij.sz Ij hj96 hpn hm (by omega) (by omega)) hZ (hw _ (List.mem_of_getElem? (i := 46) rfl)) (hw _ (List.mem_of_getElem? (i := 3) rfl)) (by decide) (by decide)) q18a q18c (g := (mkF m 104 #[.val (.int p0), .val (.int p1), .val (.int p2), .val (.int p3), .val (.int p4), .val (.int p5), .val (.int ((p0 &&& (2147483647 : Int32)) % (5 : Int32))), .val (.ref ob), .val (.int mu), .unset, .unset] [(.double (Jvm.FP.i2d (p4 % (1000 : Int32)))), (.int (Int32.ofNat j96)), (.ref ob)])) rfl (by rw [hml]; rfl) (Steps.refl _) (argsL := [(.int (Int32.ofNat j96)), (.double (Jvm.FP.i2d (p4 % (1000 : Int32))))]) (rest := []) (lenOf (d := "(ID)V") (ps := [.int, .double]) (r := none) (by decide +kernel) rfl) rfl (by show 2 * 0 + _ ≤ _; exact Nat.le_of_eq rfl) (hb hby at_104) (fun _ _ => ⟨rfl, e17, (by decide : 20 + 0 ≤ _), (by decide : 1228 + 0 ≤ _)⟩)
        dsimp only [Pt.U, Pt.locs, Pt.cells, Pt.slots] at X18 l18 y18 z18 st18 hQ18
        subst l18 y18 z18
        obtain ⟨rfl, N18q, I18q⟩ := hQ18
        have N18 := Fr.app N17 N18q
        refine own_tr st18 ?_
        have hm18 := own_c0m (6 + 4 * pn + j96) (Jvm.Free.Fl.i2d_mag (p4 % (1000 : Int32))) (own_c0m (1 + j96) (Jvm.Free.Fl.i2d_mag (p4 % (1000 : Int32))) hm (by omega) (by omega)) (by omega) (by omega)
        show OwnGoes p e below _ (T18.setTop (mkF m 107 #[.val (.int p0), .val (.int p1), .val (.int p2), .val (.int p3), .val (.int p4), .val (.int p5), .val (.int ((p0 &&& (2147483647 : Int32)) % (5 : Int32))), .val (.ref ob), .val (.int mu), .unset, .unset] []))
        refine own_pre (fun _ kz_ => XS.iload X18.here hx rfl (hb hby at_107) rfl kz_) ?_
        show OwnGoes p e below _ (T18.setTop (mkF m 109 #[.val (.int p0), .val (.int p1), .val (.int p2), .val (.int p3), .val (.int p4), .val (.int p5), .val (.int ((p0 &&& (2147483647 : Int32)) % (5 : Int32))), .val (.ref ob), .val (.int mu), .unset, .unset] [(.int mu)]))
        refine own_pre (fun _ kz_ => XS.iload X18.here hx rfl (hb hby at_109) rfl kz_) ?_
        show OwnGoes p e below _ (T18.setTop (mkF m 111 #[.val (.int p0), .val (.int p1), .val (.int p2), .val (.int p3), .val (.int p4), .val (.int p5), .val (.int ((p0 &&& (2147483647 : Int32)) % (5 : Int32))), .val (.ref ob), .val (.int mu), .unset, .unset] [(.int p4), (.int mu)]))
        refine own_pre (fun _ kz_ => XS.sipush X18.here hx rfl (hb hby at_111) kz_) ?_
        show OwnGoes p e below _ (T18.setTop (mkF m 114 #[.val (.int p0), .val (.int p1), .val (.int p2), .val (.int p3), .val (.int p4), .val (.int p5), .val (.int ((p0 &&& (2147483647 : Int32)) % (5 : Int32))), .val (.ref ob), .val (.int mu), .unset, .unset] [(.int (1000 : Int32)), (.int p4), (.int mu)]))
        refine own_pre (fun _ kz_ => iremM X18 hx rfl (hb hby at_114) rfl (by decide) kz_) ?_
        show OwnGoes p e below _ (T18.setTop (mkF m 115 #[.val (.int p0), .val (.int p1), .val (.int p2), .val (.int p3), .val (.int p4), .val (.int p5), .val (.int ((p0 &&& (2147483647 : Int32)) % (5 : Int32))), .val (.ref ob), .val (.int mu), .unset, .unset] [(.int (p4 % (1000 : Int32))), (.int mu)]))
        obtain ⟨_, _, ⟨T19, L19, k19, n19⟩, -, X19, ⟨Lc19, hQ19, l19, y19, z19⟩, st19⟩ := Jvm.LawKit.callS X18 hx (y := (⟨"com/example/hyperloom/hyperloom/hyperheuristic/ChoiceFunctionDeltaPinLaw", "next", "(II)I"⟩ : MethodName)) hown (mvT hZ (hw _ (List.mem_of_getElem? (i := 52) rfl))) (mvT hZ (hw _ (List.mem_of_getElem? (i := 53) rfl))) (mvT hZ (hw _ (List.mem_of_getElem? (i := 37) rfl))) (mvT hZ (hw _ (List.mem_of_getElem? (i := 54) rfl))) (by decide) (backOf (W := 0) (rmNx l Z a0 hw [] mu (p4 % (1000 : Int32)) T18.heap n0 I18q.sz) hZ (hw _ (List.mem_of_getElem? (i := 54) rfl)) (hw _ (List.mem_of_getElem? (i := 37) rfl)) (by decide) (by decide)) (g := (mkF m 115 #[.val (.int p0), .val (.int p1), .val (.int p2), .val (.int p3), .val (.int p4), .val (.int p5), .val (.int ((p0 &&& (2147483647 : Int32)) % (5 : Int32))), .val (.ref ob), .val (.int mu), .unset, .unset] [(.int (p4 % (1000 : Int32))), (.int mu)])) rfl (by rw [hml]; rfl) (argsL := [(.int mu), (.int (p4 % (1000 : Int32)))]) (rest := []) (lenOf (d := "(II)I") (ps := [.int, .int]) (r := some .int) (by decide +kernel) rfl) rfl (by show 2 * 0 + _ ≤ _; exact Nat.le_of_eq rfl) (hb hby at_115) (fun _ _ => ⟨rfl, rfl, (by decide : 20 + 0 ≤ _), (by decide : 1228 + 0 ≤ _)⟩)
        dsimp only [Pt.U, Pt.locs, Pt.cells, Pt.slots] at X19 l19 y19 z19 st19 hQ19
        subst l19 y19 z19
        obtain ⟨rfl, N19q, e19⟩ := hQ19
        have N19 := Fr.app N18 N19q
        refine own_pre st19 ?_
        show OwnGoes p e below _ (T19.setTop (mkF m 118 #[.val (.int p0), .val (.int p1), .val (.int p2), .val (.int p3), .val (.int p4), .val (.int p5), .val (.int ((p0 &&& (2147483647 : Int32)) % (5 : Int32))), .val (.ref ob), .val (.int mu), .unset, .unset] [(.int (own_next mu (p4 % (1000 : Int32))))]))
        refine own_pre (fun _ kz_ => XS.istore X19.here hx rfl (hb hby at_118) rfl (l' := #[.val (.int p0), .val (.int p1), .val (.int p2), .val (.int p3), .val (.int p4), .val (.int p5), .val (.int ((p0 &&& (2147483647 : Int32)) % (5 : Int32))), .val (.ref ob), .val (.int (own_next mu (p4 % (1000 : Int32)))), .unset, .unset]) rfl kz_) ?_
        show OwnGoes p e below _ (T19.setTop (mkF m 120 #[.val (.int p0), .val (.int p1), .val (.int p2), .val (.int p3), .val (.int p4), .val (.int p5), .val (.int ((p0 &&& (2147483647 : Int32)) % (5 : Int32))), .val (.ref ob), .val (.int (own_next mu (p4 % (1000 : Int32)))), .unset, .unset] []))
        exact J120 _ _ X19 N19 ob B _ _ _ _ _ _ (by rw [e19]; exact I18q) (Or.inr ⟨_, hj96, rfl⟩) hm18 (by omega) (by omega)
  have J54 : ∀ (Tj : State) (lj : List Loc) (Xj : Stand p l e room_1 s m #[(.int p0), (.int p1), (.int p2), (.int p3), (.int p4), (.int p5)] below meth c Tj lj 20 1228) (Nj : Fr n0 lj) (ob B : Nat) (mu prev : Int32) (cl : Int64) (lst : Nat → Int64) (cont : Nat → Nat → UInt64) (Kj : Nat) (Ij : OwnCF Z n0 Tj.heap ob B prev mu cl lst cont) (hp : prev = (-1 : Int32) ∨ ∃ pn : Nat, pn < 3 ∧ prev = Int32.ofNat pn) (hm : ∀ x i, Jvm.Free.Fl.Mag64 Kj (cont x i)) (hK1 : 1056 ≤ Kj) (hK2 : Kj ≤ 1118), OwnGoes p e below (fun ow_ Ue_ => ∃ vw_ Lw_, ow_ = .returned vw_ ∧ Q0 h0 n0 vw_ Ue_.heap Lw_ ∧ FrameEnd s ow_ Ue_ Lw_ room_1.cells room_1.slots) (Tj.setTop (mkF m 54 #[.val (.int p0), .val (.int p1), .val (.int p2), .val (.int p3), .val (.int p4), .val (.int p5), .val (.int ((p0 &&& (2147483647 : Int32)) % (5 : Int32))), .val (.ref ob), .val (.int mu), .unset, .unset] [])) := by
    intro Tj lj Xj Nj ob B mu prev cl lst cont Kj Ij hp hm hK1 hK2
    rcases hp with rfl | ⟨pn, hpn, rfl⟩
    · have hp : (-1 : Int32) = (-1 : Int32) ∨ ∃ pz : Nat, pz < 3 ∧ (-1 : Int32) = Int32.ofNat pz := Or.inl rfl
      show OwnGoes p e below _ (Tj.setTop (mkF m 54 #[.val (.int p0), .val (.int p1), .val (.int p2), .val (.int p3), .val (.int p4), .val (.int p5), .val (.int ((p0 &&& (2147483647 : Int32)) % (5 : Int32))), .val (.ref ob), .val (.int mu), .unset, .unset] []))
      refine own_pre (fun _ kz_ => XS.iload Xj.here hx rfl (hb hby at_54) rfl kz_) ?_
      show OwnGoes p e below _ (Tj.setTop (mkF m 56 #[.val (.int p0), .val (.int p1), .val (.int p2), .val (.int p3), .val (.int p4), .val (.int p5), .val (.int ((p0 &&& (2147483647 : Int32)) % (5 : Int32))), .val (.ref ob), .val (.int mu), .unset, .unset] [(.int ((p0 &&& (2147483647 : Int32)) % (5 : Int32)))]))
      refine own_pre (fun _ kz_ => XS.iconst Xj.here hx rfl (hb hby at_56) kz_) ?_
      show OwnGoes p e below _ (Tj.setTop (mkF m 57 #[.val (.int p0), .val (.int p1), .val (.int p2), .val (.int p3), .val (.int p4), .val (.int p5), .val (.int ((p0 &&& (2147483647 : Int32)) % (5 : Int32))), .val (.ref ob), .val (.int mu), .unset, .unset] [(.int (2 : Int32)), (.int ((p0 &&& (2147483647 : Int32)) % (5 : Int32)))]))
      by_cases h57 : ((p0 &&& (2147483647 : Int32)) % (5 : Int32)) < (2 : Int32)
      · refine own_pre (fun _ kz_ => XS.icmpYes Xj.here hx rfl (pc0 := 57) (pc' := 86) rfl (hb hby at_57) rfl (tlt h57).1 (by decide) (by decide) kz_) ?_
        show OwnGoes p e below _ (Tj.setTop (mkF m 86 #[.val (.int p0), .val (.int p1), .val (.int p2), .val (.int p3), .val (.int p4), .val (.int p5), .val (.int ((p0 &&& (2147483647 : Int32)) % (5 : Int32))), .val (.ref ob), .val (.int mu), .unset, .unset] []))
        exact J86 _ _ Xj Nj ob B _ _ _ _ _ _ Ij hp hm (by omega) (by omega)
      · refine own_pre (fun _ kz_ => XS.icmpNo Xj.here hx rfl (hb hby at_57) rfl (flt h57).1 kz_) ?_
        show OwnGoes p e below _ (Tj.setTop (mkF m 60 #[.val (.int p0), .val (.int p1), .val (.int p2), .val (.int p3), .val (.int p4), .val (.int p5), .val (.int ((p0 &&& (2147483647 : Int32)) % (5 : Int32))), .val (.ref ob), .val (.int mu), .unset, .unset] []))
        refine own_pre (fun _ kz_ => XS.aload Xj.here hx rfl (hb hby at_60) rfl rfl kz_) ?_
        show OwnGoes p e below _ (Tj.setTop (mkF m 62 #[.val (.int p0), .val (.int p1), .val (.int p2), .val (.int p3), .val (.int p4), .val (.int p5), .val (.int ((p0 &&& (2147483647 : Int32)) % (5 : Int32))), .val (.ref ob), .val (.int mu), .unset, .unset] [(.ref ob)]))
        refine own_pre (fun _ kz_ => XS.iloadN Xj.here hx rfl (hb hby at_62) rfl kz_) ?_
        show OwnGoes p e below _ (Tj.setTop (mkF m 63 #[.val (.int p0), .val (.int p1), .val (.int p2), .val (.int p3), .val (.int p4), .val (.int p5), .val (.int ((p0 &&& (2147483647 : Int32)) % (5 : Int32))), .val (.ref ob), .val (.int mu), .unset, .unset] [(.int p1), (.ref ob)]))
        refine own_pre (fun _ kz_ => XS.iconst Xj.here hx rfl (hb hby at_63) kz_) ?_
        show OwnGoes p e below _ (Tj.setTop (mkF m 64 #[.val (.int p0), .val (.int p1), .val (.int p2), .val (.int p3), .val (.int p4), .val (.int p5), .val (.int ((p0 &&& (2147483647 : Int32)) % (5 : Int32))), .val (.ref ob), .val (.int mu), .unset, .unset] [(.int (1 : Int32)), (.int p1), (.ref ob)]))
        obtain ⟨_, _, ⟨T20, L20, k20, n20⟩, -, X20, ⟨Lc20, hQ20, l20, y20, z20⟩, st20⟩ := Jvm.LawKit.callS Xj hx (y := (⟨"com/example/hyperloom/hyperloom/hyperheuristic/ChoiceFunctionDeltaPinLaw", "pick", "(II)I"⟩ : MethodName)) hown (mvT hZ (hw _ (List.mem_of_getElem? (i := 35) rfl))) (mvT hZ (hw _ (List.mem_of_getElem? (i := 36) rfl))) (mvT hZ (hw _ (List.mem_of_getElem? (i := 37) rfl))) (mvT hZ (hw _ (List.mem_of_getElem? (i := 38) rfl))) (by decide) (backOf (W := 1) (rmPk l Z a0 hw [] p1 (1 : Int32) Tj.heap n0 Ij.sz) hZ (hw _ (List.mem_of_getElem? (i := 38) rfl)) (hw _ (List.mem_of_getElem? (i := 37) rfl)) (by decide) (by decide)) (g := (mkF m 64 #[.val (.int p0), .val (.int p1), .val (.int p2), .val (.int p3), .val (.int p4), .val (.int p5), .val (.int ((p0 &&& (2147483647 : Int32)) % (5 : Int32))), .val (.ref ob), .val (.int mu), .unset, .unset] [(.int (1 : Int32)), (.int p1), (.ref ob)])) rfl (by rw [hml]; rfl) (argsL := [(.int p1), (.int (1 : Int32))]) (rest := [(.ref ob)]) (lenOf (d := "(II)I") (ps := [.int, .int]) (r := some .int) (by decide +kernel) rfl) rfl (by show 2 * 0 + _ ≤ _; exact Nat.le_of_eq rfl) (hb hby at_64) (fun _ _ => ⟨rfl, rfl, (by decide : 20 + 0 ≤ _), (by decide : 1228 + 0 ≤ _)⟩)
        dsimp only [Pt.U, Pt.locs, Pt.cells, Pt.slots] at X20 l20 y20 z20 st20 hQ20
        subst l20 y20 z20
        obtain ⟨j64, hj64, rfl, N20q, e20⟩ := hQ20
        have N20 := Fr.app Nj N20q
        refine own_pre st20 ?_
        show OwnGoes p e below _ (T20.setTop (mkF m 67 #[.val (.int p0), .val (.int p1), .val (.int p2), .val (.int p3), .val (.int p4), .val (.int p5), .val (.int ((p0 &&& (2147483647 : Int32)) % (5 : Int32))), .val (.ref ob), .val (.int mu), .unset, .unset] [(.int (Int32.ofNat j64)), (.ref ob)]))
        refine own_pre (fun _ kz_ => XS.iloadN X20.here hx rfl (hb hby at_67) rfl kz_) ?_
        show OwnGoes p e below _ (T20.setTop (mkF m 68 #[.val (.int p0), .val (.int p1), .val (.int p2), .val (.int p3), .val (.int p4), .val (.int p5), .val (.int ((p0 &&& (2147483647 : Int32)) % (5 : Int32))), .val (.ref ob), .val (.int mu), .unset, .unset] [(.int p3), (.int (Int32.ofNat j64)), (.ref ob)]))
        obtain ⟨_, _, ⟨T21, L21, k21, n21⟩, -, X21, ⟨Lc21, hQ21, l21, y21, z21⟩, st21⟩ := Jvm.LawKit.callS X20 hx (y := (⟨"com/example/hyperloom/hyperloom/hyperheuristic/ChoiceFunctionDeltaPinLaw", "imp", "(I)D"⟩ : MethodName)) hown (mvT hZ (hw _ (List.mem_of_getElem? (i := 39) rfl))) (mvT hZ (hw _ (List.mem_of_getElem? (i := 40) rfl))) (mvT hZ (hw _ (List.mem_of_getElem? (i := 37) rfl))) (mvT hZ (hw _ (List.mem_of_getElem? (i := 41) rfl))) (by decide) (backOf (W := 2) (rmIm l Z a0 hw [] p3 Tj.heap n0 Ij.sz) hZ (hw _ (List.mem_of_getElem? (i := 41) rfl)) (hw _ (List.mem_of_getElem? (i := 37) rfl)) (by decide) (by decide)) (g := (mkF m 68 #[.val (.int p0), .val (.int p1), .val (.int p2), .val (.int p3), .val (.int p4), .val (.int p5), .val (.int ((p0 &&& (2147483647 : Int32)) % (5 : Int32))), .val (.ref ob), .val (.int mu), .unset, .unset] [(.int p3), (.int (Int32.ofNat j64)), (.ref ob)])) rfl (by rw [hml]; rfl) (argsL := [(.int p3)]) (rest := [(.int (Int32.ofNat j64)), (.ref ob)]) (lenOf (d := "(I)D") (ps := [.int]) (r := some .double) (by decide +kernel) rfl) rfl (by show 2 * 0 + _ ≤ _; exact Nat.le_of_eq rfl) (hb hby at_68) (fun _ _ => ⟨rfl, e20, (by decide : 20 + 0 ≤ _), (by decide : 1228 + 0 ≤ _)⟩)
        dsimp only [Pt.U, Pt.locs, Pt.cells, Pt.slots] at X21 l21 y21 z21 st21 hQ21
        subst l21 y21 z21
        obtain ⟨rfl, N21q, e21⟩ := hQ21
        have N21 := Fr.app N20 N21q
        refine own_pre st21 ?_
        show OwnGoes p e below _ (T21.setTop (mkF m 71 #[.val (.int p0), .val (.int p1), .val (.int p2), .val (.int p3), .val (.int p4), .val (.int p5), .val (.int ((p0 &&& (2147483647 : Int32)) % (5 : Int32))), .val (.ref ob), .val (.int mu), .unset, .unset] [(.double (Jvm.FP.i2d (p3 % (1000 : Int32)))), (.int (Int32.ofNat j64)), (.ref ob)]))
        obtain ⟨cq22, kq22, q22a, q22b, q22c⟩ := isOf hZ e21 Ij.1
        obtain ⟨_, _, ⟨T22, L22, k22, n22⟩, -, X22, ⟨Lc22, hQ22, l22, y22, z22⟩, st22⟩ := X21.virtualBack hx (y := (⟨"com/example/hyperloom/hyperloom/hyperheuristic/ChoiceFunction", "record", "(ID)V"⟩ : MethodName)) (z := (⟨"com/example/hyperloom/hyperloom/hyperheuristic/ChoiceFunction", "record", "(ID)V"⟩ : MethodName)) hown (mvT hZ (hw _ (List.mem_of_getElem? (i := 42) rfl))) (mvT hZ (hw _ (List.mem_of_getElem? (i := 43) rfl))) (notFace_of_selects (args := #[]) (mvT hZ (hw _ (List.mem_of_getElem? (i := 45) rfl)))) (mvT hZ (hw _ (List.mem_of_getElem? (i := 45) rfl))) (mvT hZ (hw _ (List.mem_of_getElem? (i := 44) rfl))) (by decide) (backOf (W := 0) (rmRec0 l Z a0 hw [] ob B j64 (p3 % (1000 : Int32)) mu cl lst cont Kj Tj.heap n0 Ij.sz Ij hj64 hm (by omega) (by omega)) hZ (hw _ (List.mem_of_getElem? (i := 46) rfl)) (hw _ (List.mem_of_getElem? (i := 3) rfl)) (by decide) (by decide)) q22a q22c (g := (mkF m 71 #[.val (.int p0), .val (.int p1), .val (.int p2), .val (.int p3), .val (.int p4), .val (.int p5), .val (.int ((p0 &&& (2147483647 : Int32)) % (5 : Int32))), .val (.ref ob), .val (.int mu), .unset, .unset] [(.double (Jvm.FP.i2d (p3 % (1000 : Int32)))), (.int (Int32.ofNat j64)), (.ref ob)])) rfl (by rw [hml]; rfl) (Steps.refl _) (argsL := [(.int (Int32.ofNat j64)), (.double (Jvm.FP.i2d (p3 % (1000 : Int32))))]) (rest := []) (lenOf (d := "(ID)V") (ps := [.int, .double]) (r := none) (by decide +kernel) rfl) rfl (by show 2 * 0 + _ ≤ _; exact Nat.le_of_eq rfl) (hb hby at_71) (fun _ _ => ⟨rfl, e21, (by decide : 20 + 0 ≤ _), (by decide : 1228 + 0 ≤ _)⟩)
        dsimp only [Pt.U, Pt.locs, Pt.cells, Pt.slots] at X22 l22 y22 z22 st22 hQ22
        subst l22 y22 z22
        obtain ⟨rfl, N22q, I22q⟩ := hQ22
        have N22 := Fr.app N21 N22q
        refine own_tr st22 ?_
        have hm22 := own_c0m (1 + j64) (Jvm.Free.Fl.i2d_mag (p3 % (1000 : Int32))) hm (by omega) (by omega)
        show OwnGoes p e below _ (T22.setTop (mkF m 74 #[.val (.int p0), .val (.int p1), .val (.int p2), .val (.int p3), .val (.int p4), .val (.int p5), .val (.int ((p0 &&& (2147483647 : Int32)) % (5 : Int32))), .val (.ref ob), .val (.int mu), .unset, .unset] []))
        refine own_pre (fun _ kz_ => XS.iload X22.here hx rfl (hb hby at_74) rfl kz_) ?_
        show OwnGoes p e below _ (T22.setTop (mkF m 76 #[.val (.int p0), .val (.int p1), .val (.int p2), .val (.int p3), .val (.int p4), .val (.int p5), .val (.int ((p0 &&& (2147483647 : Int32)) % (5 : Int32))), .val (.ref ob), .val (.int mu), .unset, .unset] [(.int mu)]))
        refine own_pre (fun _ kz_ => XS.iloadN X22.here hx rfl (hb hby at_76) rfl kz_) ?_
        show OwnGoes p e below _ (T22.setTop (mkF m 77 #[.val (.int p0), .val (.int p1), .val (.int p2), .val (.int p3), .val (.int p4), .val (.int p5), .val (.int ((p0 &&& (2147483647 : Int32)) % (5 : Int32))), .val (.ref ob), .val (.int mu), .unset, .unset] [(.int p3), (.int mu)]))
        refine own_pre (fun _ kz_ => XS.sipush X22.here hx rfl (hb hby at_77) kz_) ?_
        show OwnGoes p e below _ (T22.setTop (mkF m 80 #[.val (.int p0), .val (.int p1), .val (.int p2), .val (.int p3), .val (.int p4), .val (.int p5), .val (.int ((p0 &&& (2147483647 : Int32)) % (5 : Int32))), .val (.ref ob), .val (.int mu), .unset, .unset] [(.int (1000 : Int32)), (.int p3), (.int mu)]))
        refine own_pre (fun _ kz_ => iremM X22 hx rfl (hb hby at_80) rfl (by decide) kz_) ?_
        show OwnGoes p e below _ (T22.setTop (mkF m 81 #[.val (.int p0), .val (.int p1), .val (.int p2), .val (.int p3), .val (.int p4), .val (.int p5), .val (.int ((p0 &&& (2147483647 : Int32)) % (5 : Int32))), .val (.ref ob), .val (.int mu), .unset, .unset] [(.int (p3 % (1000 : Int32))), (.int mu)]))
        obtain ⟨_, _, ⟨T23, L23, k23, n23⟩, -, X23, ⟨Lc23, hQ23, l23, y23, z23⟩, st23⟩ := Jvm.LawKit.callS X22 hx (y := (⟨"com/example/hyperloom/hyperloom/hyperheuristic/ChoiceFunctionDeltaPinLaw", "next", "(II)I"⟩ : MethodName)) hown (mvT hZ (hw _ (List.mem_of_getElem? (i := 52) rfl))) (mvT hZ (hw _ (List.mem_of_getElem? (i := 53) rfl))) (mvT hZ (hw _ (List.mem_of_getElem? (i := 37) rfl))) (mvT hZ (hw _ (List.mem_of_getElem? (i := 54) rfl))) (by decide) (backOf (W := 0) (rmNx l Z a0 hw [] mu (p3 % (1000 : Int32)) T22.heap n0 I22q.sz) hZ (hw _ (List.mem_of_getElem? (i := 54) rfl)) (hw _ (List.mem_of_getElem? (i := 37) rfl)) (by decide) (by decide)) (g := (mkF m 81 #[.val (.int p0), .val (.int p1), .val (.int p2), .val (.int p3), .val (.int p4), .val (.int p5), .val (.int ((p0 &&& (2147483647 : Int32)) % (5 : Int32))), .val (.ref ob), .val (.int mu), .unset, .unset] [(.int (p3 % (1000 : Int32))), (.int mu)])) rfl (by rw [hml]; rfl) (argsL := [(.int mu), (.int (p3 % (1000 : Int32)))]) (rest := []) (lenOf (d := "(II)I") (ps := [.int, .int]) (r := some .int) (by decide +kernel) rfl) rfl (by show 2 * 0 + _ ≤ _; exact Nat.le_of_eq rfl) (hb hby at_81) (fun _ _ => ⟨rfl, rfl, (by decide : 20 + 0 ≤ _), (by decide : 1228 + 0 ≤ _)⟩)
        dsimp only [Pt.U, Pt.locs, Pt.cells, Pt.slots] at X23 l23 y23 z23 st23 hQ23
        subst l23 y23 z23
        obtain ⟨rfl, N23q, e23⟩ := hQ23
        have N23 := Fr.app N22 N23q
        refine own_pre st23 ?_
        show OwnGoes p e below _ (T23.setTop (mkF m 84 #[.val (.int p0), .val (.int p1), .val (.int p2), .val (.int p3), .val (.int p4), .val (.int p5), .val (.int ((p0 &&& (2147483647 : Int32)) % (5 : Int32))), .val (.ref ob), .val (.int mu), .unset, .unset] [(.int (own_next mu (p3 % (1000 : Int32))))]))
        refine own_pre (fun _ kz_ => XS.istore X23.here hx rfl (hb hby at_84) rfl (l' := #[.val (.int p0), .val (.int p1), .val (.int p2), .val (.int p3), .val (.int p4), .val (.int p5), .val (.int ((p0 &&& (2147483647 : Int32)) % (5 : Int32))), .val (.ref ob), .val (.int (own_next mu (p3 % (1000 : Int32)))), .unset, .unset]) rfl kz_) ?_
        show OwnGoes p e below _ (T23.setTop (mkF m 86 #[.val (.int p0), .val (.int p1), .val (.int p2), .val (.int p3), .val (.int p4), .val (.int p5), .val (.int ((p0 &&& (2147483647 : Int32)) % (5 : Int32))), .val (.ref ob), .val (.int (own_next mu (p3 % (1000 : Int32)))), .unset, .unset] []))
        exact J86 _ _ X23 N23 ob B _ _ _ _ _ _ (by rw [e23]; exact I22q) (Or.inr ⟨_, hj64, rfl⟩) hm22 (by omega) (by omega)
    · have hp : (Int32.ofNat pn) = (-1 : Int32) ∨ ∃ pz : Nat, pz < 3 ∧ (Int32.ofNat pn) = Int32.ofNat pz := Or.inr ⟨pn, hpn, rfl⟩
      show OwnGoes p e below _ (Tj.setTop (mkF m 54 #[.val (.int p0), .val (.int p1), .val (.int p2), .val (.int p3), .val (.int p4), .val (.int p5), .val (.int ((p0 &&& (2147483647 : Int32)) % (5 : Int32))), .val (.ref ob), .val (.int mu), .unset, .unset] []))
      refine own_pre (fun _ kz_ => XS.iload Xj.here hx rfl (hb hby at_54) rfl kz_) ?_
      show OwnGoes p e below _ (Tj.setTop (mkF m 56 #[.val (.int p0), .val (.int p1), .val (.int p2), .val (.int p3), .val (.int p4), .val (.int p5), .val (.int ((p0 &&& (2147483647 : Int32)) % (5 : Int32))), .val (.ref ob), .val (.int mu), .unset, .unset] [(.int ((p0 &&& (2147483647 : Int32)) % (5 : Int32)))]))
      refine own_pre (fun _ kz_ => XS.iconst Xj.here hx rfl (hb hby at_56) kz_) ?_
      show OwnGoes p e below _ (Tj.setTop (mkF m 57 #[.val (.int p0), .val (.int p1), .val (.int p2), .val (.int p3), .val (.int p4), .val (.int p5), .val (.int ((p0 &&& (2147483647 : Int32)) % (5 : Int32))), .val (.ref ob), .val (.int mu), .unset, .unset] [(.int (2 : Int32)), (.int ((p0 &&& (2147483647 : Int32)) % (5 : Int32)))]))
      by_cases h57 : ((p0 &&& (2147483647 : Int32)) % (5 : Int32)) < (2 : Int32)
      · refine own_pre (fun _ kz_ => XS.icmpYes Xj.here hx rfl (pc0 := 57) (pc' := 86) rfl (hb hby at_57) rfl (tlt h57).1 (by decide) (by decide) kz_) ?_
        show OwnGoes p e below _ (Tj.setTop (mkF m 86 #[.val (.int p0), .val (.int p1), .val (.int p2), .val (.int p3), .val (.int p4), .val (.int p5), .val (.int ((p0 &&& (2147483647 : Int32)) % (5 : Int32))), .val (.ref ob), .val (.int mu), .unset, .unset] []))
        exact J86 _ _ Xj Nj ob B _ _ _ _ _ _ Ij hp hm (by omega) (by omega)
      · refine own_pre (fun _ kz_ => XS.icmpNo Xj.here hx rfl (hb hby at_57) rfl (flt h57).1 kz_) ?_
        show OwnGoes p e below _ (Tj.setTop (mkF m 60 #[.val (.int p0), .val (.int p1), .val (.int p2), .val (.int p3), .val (.int p4), .val (.int p5), .val (.int ((p0 &&& (2147483647 : Int32)) % (5 : Int32))), .val (.ref ob), .val (.int mu), .unset, .unset] []))
        refine own_pre (fun _ kz_ => XS.aload Xj.here hx rfl (hb hby at_60) rfl rfl kz_) ?_
        show OwnGoes p e below _ (Tj.setTop (mkF m 62 #[.val (.int p0), .val (.int p1), .val (.int p2), .val (.int p3), .val (.int p4), .val (.int p5), .val (.int ((p0 &&& (2147483647 : Int32)) % (5 : Int32))), .val (.ref ob), .val (.int mu), .unset, .unset] [(.ref ob)]))
        refine own_pre (fun _ kz_ => XS.iloadN Xj.here hx rfl (hb hby at_62) rfl kz_) ?_
        show OwnGoes p e below _ (Tj.setTop (mkF m 63 #[.val (.int p0), .val (.int p1), .val (.int p2), .val (.int p3), .val (.int p4), .val (.int p5), .val (.int ((p0 &&& (2147483647 : Int32)) % (5 : Int32))), .val (.ref ob), .val (.int mu), .unset, .unset] [(.int p1), (.ref ob)]))
        refine own_pre (fun _ kz_ => XS.iconst Xj.here hx rfl (hb hby at_63) kz_) ?_
        show OwnGoes p e below _ (Tj.setTop (mkF m 64 #[.val (.int p0), .val (.int p1), .val (.int p2), .val (.int p3), .val (.int p4), .val (.int p5), .val (.int ((p0 &&& (2147483647 : Int32)) % (5 : Int32))), .val (.ref ob), .val (.int mu), .unset, .unset] [(.int (1 : Int32)), (.int p1), (.ref ob)]))
        obtain ⟨_, _, ⟨T24, L24, k24, n24⟩, -, X24, ⟨Lc24, hQ24, l24, y24, z24⟩, st24⟩ := Jvm.LawKit.callS Xj hx (y := (⟨"com/example/hyperloom/hyperloom/hyperheuristic/ChoiceFunctionDeltaPinLaw", "pick", "(II)I"⟩ : MethodName)) hown (mvT hZ (hw _ (List.mem_of_getElem? (i := 35) rfl))) (mvT hZ (hw _ (List.mem_of_getElem? (i := 36) rfl))) (mvT hZ (hw _ (List.mem_of_getElem? (i := 37) rfl))) (mvT hZ (hw _ (List.mem_of_getElem? (i := 38) rfl))) (by decide) (backOf (W := 1) (rmPk l Z a0 hw [] p1 (1 : Int32) Tj.heap n0 Ij.sz) hZ (hw _ (List.mem_of_getElem? (i := 38) rfl)) (hw _ (List.mem_of_getElem? (i := 37) rfl)) (by decide) (by decide)) (g := (mkF m 64 #[.val (.int p0), .val (.int p1), .val (.int p2), .val (.int p3), .val (.int p4), .val (.int p5), .val (.int ((p0 &&& (2147483647 : Int32)) % (5 : Int32))), .val (.ref ob), .val (.int mu), .unset, .unset] [(.int (1 : Int32)), (.int p1), (.ref ob)])) rfl (by rw [hml]; rfl) (argsL := [(.int p1), (.int (1 : Int32))]) (rest := [(.ref ob)]) (lenOf (d := "(II)I") (ps := [.int, .int]) (r := some .int) (by decide +kernel) rfl) rfl (by show 2 * 0 + _ ≤ _; exact Nat.le_of_eq rfl) (hb hby at_64) (fun _ _ => ⟨rfl, rfl, (by decide : 20 + 0 ≤ _), (by decide : 1228 + 0 ≤ _)⟩)
        dsimp only [Pt.U, Pt.locs, Pt.cells, Pt.slots] at X24 l24 y24 z24 st24 hQ24
        subst l24 y24 z24
        obtain ⟨j64, hj64, rfl, N24q, e24⟩ := hQ24
        have N24 := Fr.app Nj N24q
        refine own_pre st24 ?_
        show OwnGoes p e below _ (T24.setTop (mkF m 67 #[.val (.int p0), .val (.int p1), .val (.int p2), .val (.int p3), .val (.int p4), .val (.int p5), .val (.int ((p0 &&& (2147483647 : Int32)) % (5 : Int32))), .val (.ref ob), .val (.int mu), .unset, .unset] [(.int (Int32.ofNat j64)), (.ref ob)]))
        refine own_pre (fun _ kz_ => XS.iloadN X24.here hx rfl (hb hby at_67) rfl kz_) ?_
        show OwnGoes p e below _ (T24.setTop (mkF m 68 #[.val (.int p0), .val (.int p1), .val (.int p2), .val (.int p3), .val (.int p4), .val (.int p5), .val (.int ((p0 &&& (2147483647 : Int32)) % (5 : Int32))), .val (.ref ob), .val (.int mu), .unset, .unset] [(.int p3), (.int (Int32.ofNat j64)), (.ref ob)]))
        obtain ⟨_, _, ⟨T25, L25, k25, n25⟩, -, X25, ⟨Lc25, hQ25, l25, y25, z25⟩, st25⟩ := Jvm.LawKit.callS X24 hx (y := (⟨"com/example/hyperloom/hyperloom/hyperheuristic/ChoiceFunctionDeltaPinLaw", "imp", "(I)D"⟩ : MethodName)) hown (mvT hZ (hw _ (List.mem_of_getElem? (i := 39) rfl))) (mvT hZ (hw _ (List.mem_of_getElem? (i := 40) rfl))) (mvT hZ (hw _ (List.mem_of_getElem? (i := 37) rfl))) (mvT hZ (hw _ (List.mem_of_getElem? (i := 41) rfl))) (by decide) (backOf (W := 2) (rmIm l Z a0 hw [] p3 Tj.heap n0 Ij.sz) hZ (hw _ (List.mem_of_getElem? (i := 41) rfl)) (hw _ (List.mem_of_getElem? (i := 37) rfl)) (by decide) (by decide)) (g := (mkF m 68 #[.val (.int p0), .val (.int p1), .val (.int p2), .val (.int p3), .val (.int p4), .val (.int p5), .val (.int ((p0 &&& (2147483647 : Int32)) % (5 : Int32))), .val (.ref ob), .val (.int mu), .unset, .unset] [(.int p3), (.int (Int32.ofNat j64)), (.ref ob)])) rfl (by rw [hml]; rfl) (argsL := [(.int p3)]) (rest := [(.int (Int32.ofNat j64)), (.ref ob)]) (lenOf (d := "(I)D") (ps := [.int]) (r := some .double) (by decide +kernel) rfl) rfl (by show 2 * 0 + _ ≤ _; exact Nat.le_of_eq rfl) (hb hby at_68) (fun _ _ => ⟨rfl, e24, (by decide : 20 + 0 ≤ _), (by decide : 1228 + 0 ≤ _)⟩)
        dsimp only [Pt.U, Pt.locs, Pt.cells, Pt.slots] at X25 l25 y25 z25 st25 hQ25
        subst l25 y25 z25
        obtain ⟨rfl, N25q, e25⟩ := hQ25
        have N25 := Fr.app N24 N25q
        refine own_pre st25 ?_
        show OwnGoes p e below _ (T25.setTop (mkF m 71 #[.val (.int p0), .val (.int p1), .val (.int p2), .val (.int p3), .val (.int p4), .val (.int p5), .val (.int ((p0 &&& (2147483647 : Int32)) % (5 : Int32))), .val (.ref ob), .val (.int mu), .unset, .unset] [(.double (Jvm.FP.i2d (p3 % (1000 : Int32)))), (.int (Int32.ofNat j64)), (.ref ob)]))
        obtain ⟨cq26, kq26, q26a, q26b, q26c⟩ := isOf hZ e25 Ij.1
        obtain ⟨_, _, ⟨T26, L26, k26, n26⟩, -, X26, ⟨Lc26, hQ26, l26, y26, z26⟩, st26⟩ := X25.virtualBack hx (y := (⟨"com/example/hyperloom/hyperloom/hyperheuristic/ChoiceFunction", "record", "(ID)V"⟩ : MethodName)) (z := (⟨"com/example/hyperloom/hyperloom/hyperheuristic/ChoiceFunction", "record", "(ID)V"⟩ : MethodName)) hown (mvT hZ (hw _ (List.mem_of_getElem? (i := 42) rfl))) (mvT hZ (hw _ (List.mem_of_getElem? (i := 43) rfl))) (notFace_of_selects (args := #[]) (mvT hZ (hw _ (List.mem_of_getElem? (i := 45) rfl)))) (mvT hZ (hw _ (List.mem_of_getElem? (i := 45) rfl))) (mvT hZ (hw _ (List.mem_of_getElem? (i := 44) rfl))) (by decide) (backOf (W := 0) (rmRec1 l Z a0 hw [] ob B j64 pn (p3 % (1000 : Int32)) mu cl lst cont Kj Tj.heap n0 Ij.sz Ij hj64 hpn hm (by omega) (by omega)) hZ (hw _ (List.mem_of_getElem? (i := 46) rfl)) (hw _ (List.mem_of_getElem? (i := 3) rfl)) (by decide) (by decide)) q26a q26c (g := (mkF m 71 #[.val (.int p0), .val (.int p1), .val (.int p2), .val (.int p3), .val (.int p4), .val (.int p5), .val (.int ((p0 &&& (2147483647 : Int32)) % (5 : Int32))), .val (.ref ob), .val (.int mu), .unset, .unset] [(.double (Jvm.FP.i2d (p3 % (1000 : Int32)))), (.int (Int32.ofNat j64)), (.ref ob)])) rfl (by rw [hml]; rfl) (Steps.refl _) (argsL := [(.int (Int32.ofNat j64)), (.double (Jvm.FP.i2d (p3 % (1000 : Int32))))]) (rest := []) (lenOf (d := "(ID)V") (ps := [.int, .double]) (r := none) (by decide +kernel) rfl) rfl (by show 2 * 0 + _ ≤ _; exact Nat.le_of_eq rfl) (hb hby at_71) (fun _ _ => ⟨rfl, e25, (by decide : 20 + 0 ≤ _), (by decide : 1228 + 0 ≤ _)⟩)
        dsimp only [Pt.U, Pt.locs, Pt.cells, Pt.slots] at X26 l26 y26 z26 st26 hQ26
        subst l26 y26 z26
        obtain ⟨rfl, N26q, I26q⟩ := hQ26
        have N26 := Fr.app N25 N26q
        refine own_tr st26 ?_
        have hm26 := own_c0m (6 + 4 * pn + j64) (Jvm.Free.Fl.i2d_mag (p3 % (1000 : Int32))) (own_c0m (1 + j64) (Jvm.Free.Fl.i2d_mag (p3 % (1000 : Int32))) hm (by omega) (by omega)) (by omega) (by omega)
        show OwnGoes p e below _ (T26.setTop (mkF m 74 #[.val (.int p0), .val (.int p1), .val (.int p2), .val (.int p3), .val (.int p4), .val (.int p5), .val (.int ((p0 &&& (2147483647 : Int32)) % (5 : Int32))), .val (.ref ob), .val (.int mu), .unset, .unset] []))
        refine own_pre (fun _ kz_ => XS.iload X26.here hx rfl (hb hby at_74) rfl kz_) ?_
        show OwnGoes p e below _ (T26.setTop (mkF m 76 #[.val (.int p0), .val (.int p1), .val (.int p2), .val (.int p3), .val (.int p4), .val (.int p5), .val (.int ((p0 &&& (2147483647 : Int32)) % (5 : Int32))), .val (.ref ob), .val (.int mu), .unset, .unset] [(.int mu)]))
        refine own_pre (fun _ kz_ => XS.iloadN X26.here hx rfl (hb hby at_76) rfl kz_) ?_
        show OwnGoes p e below _ (T26.setTop (mkF m 77 #[.val (.int p0), .val (.int p1), .val (.int p2), .val (.int p3), .val (.int p4), .val (.int p5), .val (.int ((p0 &&& (2147483647 : Int32)) % (5 : Int32))), .val (.ref ob), .val (.int mu), .unset, .unset] [(.int p3), (.int mu)]))
        refine own_pre (fun _ kz_ => XS.sipush X26.here hx rfl (hb hby at_77) kz_) ?_
        show OwnGoes p e below _ (T26.setTop (mkF m 80 #[.val (.int p0), .val (.int p1), .val (.int p2), .val (.int p3), .val (.int p4), .val (.int p5), .val (.int ((p0 &&& (2147483647 : Int32)) % (5 : Int32))), .val (.ref ob), .val (.int mu), .unset, .unset] [(.int (1000 : Int32)), (.int p3), (.int mu)]))
        refine own_pre (fun _ kz_ => iremM X26 hx rfl (hb hby at_80) rfl (by decide) kz_) ?_
        show OwnGoes p e below _ (T26.setTop (mkF m 81 #[.val (.int p0), .val (.int p1), .val (.int p2), .val (.int p3), .val (.int p4), .val (.int p5), .val (.int ((p0 &&& (2147483647 : Int32)) % (5 : Int32))), .val (.ref ob), .val (.int mu), .unset, .unset] [(.int (p3 % (1000 : Int32))), (.int mu)]))
        obtain ⟨_, _, ⟨T27, L27, k27, n27⟩, -, X27, ⟨Lc27, hQ27, l27, y27, z27⟩, st27⟩ := Jvm.LawKit.callS X26 hx (y := (⟨"com/example/hyperloom/hyperloom/hyperheuristic/ChoiceFunctionDeltaPinLaw", "next", "(II)I"⟩ : MethodName)) hown (mvT hZ (hw _ (List.mem_of_getElem? (i := 52) rfl))) (mvT hZ (hw _ (List.mem_of_getElem? (i := 53) rfl))) (mvT hZ (hw _ (List.mem_of_getElem? (i := 37) rfl))) (mvT hZ (hw _ (List.mem_of_getElem? (i := 54) rfl))) (by decide) (backOf (W := 0) (rmNx l Z a0 hw [] mu (p3 % (1000 : Int32)) T26.heap n0 I26q.sz) hZ (hw _ (List.mem_of_getElem? (i := 54) rfl)) (hw _ (List.mem_of_getElem? (i := 37) rfl)) (by decide) (by decide)) (g := (mkF m 81 #[.val (.int p0), .val (.int p1), .val (.int p2), .val (.int p3), .val (.int p4), .val (.int p5), .val (.int ((p0 &&& (2147483647 : Int32)) % (5 : Int32))), .val (.ref ob), .val (.int mu), .unset, .unset] [(.int (p3 % (1000 : Int32))), (.int mu)])) rfl (by rw [hml]; rfl) (argsL := [(.int mu), (.int (p3 % (1000 : Int32)))]) (rest := []) (lenOf (d := "(II)I") (ps := [.int, .int]) (r := some .int) (by decide +kernel) rfl) rfl (by show 2 * 0 + _ ≤ _; exact Nat.le_of_eq rfl) (hb hby at_81) (fun _ _ => ⟨rfl, rfl, (by decide : 20 + 0 ≤ _), (by decide : 1228 + 0 ≤ _)⟩)
        dsimp only [Pt.U, Pt.locs, Pt.cells, Pt.slots] at X27 l27 y27 z27 st27 hQ27
        subst l27 y27 z27
        obtain ⟨rfl, N27q, e27⟩ := hQ27
        have N27 := Fr.app N26 N27q
        refine own_pre st27 ?_
        show OwnGoes p e below _ (T27.setTop (mkF m 84 #[.val (.int p0), .val (.int p1), .val (.int p2), .val (.int p3), .val (.int p4), .val (.int p5), .val (.int ((p0 &&& (2147483647 : Int32)) % (5 : Int32))), .val (.ref ob), .val (.int mu), .unset, .unset] [(.int (own_next mu (p3 % (1000 : Int32))))]))
        refine own_pre (fun _ kz_ => XS.istore X27.here hx rfl (hb hby at_84) rfl (l' := #[.val (.int p0), .val (.int p1), .val (.int p2), .val (.int p3), .val (.int p4), .val (.int p5), .val (.int ((p0 &&& (2147483647 : Int32)) % (5 : Int32))), .val (.ref ob), .val (.int (own_next mu (p3 % (1000 : Int32)))), .unset, .unset]) rfl kz_) ?_
        show OwnGoes p e below _ (T27.setTop (mkF m 86 #[.val (.int p0), .val (.int p1), .val (.int p2), .val (.int p3), .val (.int p4), .val (.int p5), .val (.int ((p0 &&& (2147483647 : Int32)) % (5 : Int32))), .val (.ref ob), .val (.int (own_next mu (p3 % (1000 : Int32)))), .unset, .unset] []))
        exact J86 _ _ X27 N27 ob B _ _ _ _ _ _ (by rw [e27]; exact I26q) (Or.inr ⟨_, hj64, rfl⟩) hm26 (by omega) (by omega)
  show OwnGoes p e below _ (T2.setTop (mkF m 16 #[.val (.int p0), .val (.int p1), .val (.int p2), .val (.int p3), .val (.int p4), .val (.int p5), .val (.int ((p0 &&& (2147483647 : Int32)) % (5 : Int32))), .unset, .unset, .unset, .unset] [(.ref ob)]))
  refine own_pre (fun _ kz_ => XS.astore X2.here hx rfl (hb hby at_16) rfl rfl (l' := #[.val (.int p0), .val (.int p1), .val (.int p2), .val (.int p3), .val (.int p4), .val (.int p5), .val (.int ((p0 &&& (2147483647 : Int32)) % (5 : Int32))), .val (.ref ob), .unset, .unset, .unset]) rfl kz_) ?_
  show OwnGoes p e below _ (T2.setTop (mkF m 18 #[.val (.int p0), .val (.int p1), .val (.int p2), .val (.int p3), .val (.int p4), .val (.int p5), .val (.int ((p0 &&& (2147483647 : Int32)) % (5 : Int32))), .val (.ref ob), .unset, .unset, .unset] []))
  refine own_pre (fun _ kz_ => XS.bipush X2.here hx rfl (hb hby at_18) kz_) ?_
  show OwnGoes p e below _ (T2.setTop (mkF m 20 #[.val (.int p0), .val (.int p1), .val (.int p2), .val (.int p3), .val (.int p4), .val (.int p5), .val (.int ((p0 &&& (2147483647 : Int32)) % (5 : Int32))), .val (.ref ob), .unset, .unset, .unset] [(.int (50 : Int32))]))
  refine own_pre (fun _ kz_ => XS.istore X2.here hx rfl (hb hby at_20) rfl (l' := #[.val (.int p0), .val (.int p1), .val (.int p2), .val (.int p3), .val (.int p4), .val (.int p5), .val (.int ((p0 &&& (2147483647 : Int32)) % (5 : Int32))), .val (.ref ob), .val (.int (50 : Int32)), .unset, .unset]) rfl kz_) ?_
  show OwnGoes p e below _ (T2.setTop (mkF m 22 #[.val (.int p0), .val (.int p1), .val (.int p2), .val (.int p3), .val (.int p4), .val (.int p5), .val (.int ((p0 &&& (2147483647 : Int32)) % (5 : Int32))), .val (.ref ob), .val (.int (50 : Int32)), .unset, .unset] []))
  refine own_pre (fun _ kz_ => XS.iload X2.here hx rfl (hb hby at_22) rfl kz_) ?_
  show OwnGoes p e below _ (T2.setTop (mkF m 24 #[.val (.int p0), .val (.int p1), .val (.int p2), .val (.int p3), .val (.int p4), .val (.int p5), .val (.int ((p0 &&& (2147483647 : Int32)) % (5 : Int32))), .val (.ref ob), .val (.int (50 : Int32)), .unset, .unset] [(.int ((p0 &&& (2147483647 : Int32)) % (5 : Int32)))]))
  refine own_pre (fun _ kz_ => XS.iconst X2.here hx rfl (hb hby at_24) kz_) ?_
  show OwnGoes p e below _ (T2.setTop (mkF m 25 #[.val (.int p0), .val (.int p1), .val (.int p2), .val (.int p3), .val (.int p4), .val (.int p5), .val (.int ((p0 &&& (2147483647 : Int32)) % (5 : Int32))), .val (.ref ob), .val (.int (50 : Int32)), .unset, .unset] [(.int (1 : Int32)), (.int ((p0 &&& (2147483647 : Int32)) % (5 : Int32)))]))
  by_cases h25 : ((p0 &&& (2147483647 : Int32)) % (5 : Int32)) < (1 : Int32)
  · refine own_pre (fun _ kz_ => XS.icmpYes X2.here hx rfl (pc0 := 25) (pc' := 54) rfl (hb hby at_25) rfl (tlt h25).1 (by decide) (by decide) kz_) ?_
    show OwnGoes p e below _ (T2.setTop (mkF m 54 #[.val (.int p0), .val (.int p1), .val (.int p2), .val (.int p3), .val (.int p4), .val (.int p5), .val (.int ((p0 &&& (2147483647 : Int32)) % (5 : Int32))), .val (.ref ob), .val (.int (50 : Int32)), .unset, .unset] []))
    exact J54 _ _ X2 N2 ob B _ _ _ _ _ _ I2q (Or.inl rfl) own_m0 (by omega) (by omega)
  · refine own_pre (fun _ kz_ => XS.icmpNo X2.here hx rfl (hb hby at_25) rfl (flt h25).1 kz_) ?_
    show OwnGoes p e below _ (T2.setTop (mkF m 28 #[.val (.int p0), .val (.int p1), .val (.int p2), .val (.int p3), .val (.int p4), .val (.int p5), .val (.int ((p0 &&& (2147483647 : Int32)) % (5 : Int32))), .val (.ref ob), .val (.int (50 : Int32)), .unset, .unset] []))
    refine own_pre (fun _ kz_ => XS.aload X2.here hx rfl (hb hby at_28) rfl rfl kz_) ?_
    show OwnGoes p e below _ (T2.setTop (mkF m 30 #[.val (.int p0), .val (.int p1), .val (.int p2), .val (.int p3), .val (.int p4), .val (.int p5), .val (.int ((p0 &&& (2147483647 : Int32)) % (5 : Int32))), .val (.ref ob), .val (.int (50 : Int32)), .unset, .unset] [(.ref ob)]))
    refine own_pre (fun _ kz_ => XS.iloadN X2.here hx rfl (hb hby at_30) rfl kz_) ?_
    show OwnGoes p e below _ (T2.setTop (mkF m 31 #[.val (.int p0), .val (.int p1), .val (.int p2), .val (.int p3), .val (.int p4), .val (.int p5), .val (.int ((p0 &&& (2147483647 : Int32)) % (5 : Int32))), .val (.ref ob), .val (.int (50 : Int32)), .unset, .unset] [(.int p1), (.ref ob)]))
    refine own_pre (fun _ kz_ => XS.iconst X2.here hx rfl (hb hby at_31) kz_) ?_
    show OwnGoes p e below _ (T2.setTop (mkF m 32 #[.val (.int p0), .val (.int p1), .val (.int p2), .val (.int p3), .val (.int p4), .val (.int p5), .val (.int ((p0 &&& (2147483647 : Int32)) % (5 : Int32))), .val (.ref ob), .val (.int (50 : Int32)), .unset, .unset] [(.int (0 : Int32)), (.int p1), (.ref ob)]))
    obtain ⟨_, _, ⟨T28, L28, k28, n28⟩, -, X28, ⟨Lc28, hQ28, l28, y28, z28⟩, st28⟩ := Jvm.LawKit.callS X2 hx (y := (⟨"com/example/hyperloom/hyperloom/hyperheuristic/ChoiceFunctionDeltaPinLaw", "pick", "(II)I"⟩ : MethodName)) hown (mvT hZ (hw _ (List.mem_of_getElem? (i := 35) rfl))) (mvT hZ (hw _ (List.mem_of_getElem? (i := 36) rfl))) (mvT hZ (hw _ (List.mem_of_getElem? (i := 37) rfl))) (mvT hZ (hw _ (List.mem_of_getElem? (i := 38) rfl))) (by decide) (backOf (W := 1) (rmPk l Z a0 hw [] p1 (0 : Int32) T2.heap n0 I2q.sz) hZ (hw _ (List.mem_of_getElem? (i := 38) rfl)) (hw _ (List.mem_of_getElem? (i := 37) rfl)) (by decide) (by decide)) (g := (mkF m 32 #[.val (.int p0), .val (.int p1), .val (.int p2), .val (.int p3), .val (.int p4), .val (.int p5), .val (.int ((p0 &&& (2147483647 : Int32)) % (5 : Int32))), .val (.ref ob), .val (.int (50 : Int32)), .unset, .unset] [(.int (0 : Int32)), (.int p1), (.ref ob)])) rfl (by rw [hml]; rfl) (argsL := [(.int p1), (.int (0 : Int32))]) (rest := [(.ref ob)]) (lenOf (d := "(II)I") (ps := [.int, .int]) (r := some .int) (by decide +kernel) rfl) rfl (by show 2 * 0 + _ ≤ _; exact Nat.le_of_eq rfl) (hb hby at_32) (fun _ _ => ⟨rfl, rfl, (by decide : 20 + 0 ≤ _), (by decide : 1228 + 0 ≤ _)⟩)
    dsimp only [Pt.U, Pt.locs, Pt.cells, Pt.slots] at X28 l28 y28 z28 st28 hQ28
    subst l28 y28 z28
    obtain ⟨j32, hj32, rfl, N28q, e28⟩ := hQ28
    have N28 := Fr.app N2 N28q
    refine own_pre st28 ?_
    show OwnGoes p e below _ (T28.setTop (mkF m 35 #[.val (.int p0), .val (.int p1), .val (.int p2), .val (.int p3), .val (.int p4), .val (.int p5), .val (.int ((p0 &&& (2147483647 : Int32)) % (5 : Int32))), .val (.ref ob), .val (.int (50 : Int32)), .unset, .unset] [(.int (Int32.ofNat j32)), (.ref ob)]))
    refine own_pre (fun _ kz_ => XS.iloadN X28.here hx rfl (hb hby at_35) rfl kz_) ?_
    show OwnGoes p e below _ (T28.setTop (mkF m 36 #[.val (.int p0), .val (.int p1), .val (.int p2), .val (.int p3), .val (.int p4), .val (.int p5), .val (.int ((p0 &&& (2147483647 : Int32)) % (5 : Int32))), .val (.ref ob), .val (.int (50 : Int32)), .unset, .unset] [(.int p2), (.int (Int32.ofNat j32)), (.ref ob)]))
    obtain ⟨_, _, ⟨T29, L29, k29, n29⟩, -, X29, ⟨Lc29, hQ29, l29, y29, z29⟩, st29⟩ := Jvm.LawKit.callS X28 hx (y := (⟨"com/example/hyperloom/hyperloom/hyperheuristic/ChoiceFunctionDeltaPinLaw", "imp", "(I)D"⟩ : MethodName)) hown (mvT hZ (hw _ (List.mem_of_getElem? (i := 39) rfl))) (mvT hZ (hw _ (List.mem_of_getElem? (i := 40) rfl))) (mvT hZ (hw _ (List.mem_of_getElem? (i := 37) rfl))) (mvT hZ (hw _ (List.mem_of_getElem? (i := 41) rfl))) (by decide) (backOf (W := 2) (rmIm l Z a0 hw [] p2 T2.heap n0 I2q.sz) hZ (hw _ (List.mem_of_getElem? (i := 41) rfl)) (hw _ (List.mem_of_getElem? (i := 37) rfl)) (by decide) (by decide)) (g := (mkF m 36 #[.val (.int p0), .val (.int p1), .val (.int p2), .val (.int p3), .val (.int p4), .val (.int p5), .val (.int ((p0 &&& (2147483647 : Int32)) % (5 : Int32))), .val (.ref ob), .val (.int (50 : Int32)), .unset, .unset] [(.int p2), (.int (Int32.ofNat j32)), (.ref ob)])) rfl (by rw [hml]; rfl) (argsL := [(.int p2)]) (rest := [(.int (Int32.ofNat j32)), (.ref ob)]) (lenOf (d := "(I)D") (ps := [.int]) (r := some .double) (by decide +kernel) rfl) rfl (by show 2 * 0 + _ ≤ _; exact Nat.le_of_eq rfl) (hb hby at_36) (fun _ _ => ⟨rfl, e28, (by decide : 20 + 0 ≤ _), (by decide : 1228 + 0 ≤ _)⟩)
    dsimp only [Pt.U, Pt.locs, Pt.cells, Pt.slots] at X29 l29 y29 z29 st29 hQ29
    subst l29 y29 z29
    obtain ⟨rfl, N29q, e29⟩ := hQ29
    have N29 := Fr.app N28 N29q
    refine own_pre st29 ?_
    show OwnGoes p e below _ (T29.setTop (mkF m 39 #[.val (.int p0), .val (.int p1), .val (.int p2), .val (.int p3), .val (.int p4), .val (.int p5), .val (.int ((p0 &&& (2147483647 : Int32)) % (5 : Int32))), .val (.ref ob), .val (.int (50 : Int32)), .unset, .unset] [(.double (Jvm.FP.i2d (p2 % (1000 : Int32)))), (.int (Int32.ofNat j32)), (.ref ob)]))
    obtain ⟨cq30, kq30, q30a, q30b, q30c⟩ := isOf hZ e29 I2q.1
    obtain ⟨_, _, ⟨T30, L30, k30, n30⟩, -, X30, ⟨Lc30, hQ30, l30, y30, z30⟩, st30⟩ := X29.virtualBack hx (y := (⟨"com/example/hyperloom/hyperloom/hyperheuristic/ChoiceFunction", "record", "(ID)V"⟩ : MethodName)) (z := (⟨"com/example/hyperloom/hyperloom/hyperheuristic/ChoiceFunction", "record", "(ID)V"⟩ : MethodName)) hown (mvT hZ (hw _ (List.mem_of_getElem? (i := 42) rfl))) (mvT hZ (hw _ (List.mem_of_getElem? (i := 43) rfl))) (notFace_of_selects (args := #[]) (mvT hZ (hw _ (List.mem_of_getElem? (i := 45) rfl)))) (mvT hZ (hw _ (List.mem_of_getElem? (i := 45) rfl))) (mvT hZ (hw _ (List.mem_of_getElem? (i := 44) rfl))) (by decide) (backOf (W := 0) (rmRec0 l Z a0 hw [] ob B j32 (p2 % (1000 : Int32)) (50 : Int32) 0 (fun _ => 0) (fun _ _ => 0) 1056 T2.heap n0 I2q.sz I2q hj32 own_m0 (by omega) (by omega)) hZ (hw _ (List.mem_of_getElem? (i := 46) rfl)) (hw _ (List.mem_of_getElem? (i := 3) rfl)) (by decide) (by decide)) q30a q30c (g := (mkF m 39 #[.val (.int p0), .val (.int p1), .val (.int p2), .val (.int p3), .val (.int p4), .val (.int p5), .val (.int ((p0 &&& (2147483647 : Int32)) % (5 : Int32))), .val (.ref ob), .val (.int (50 : Int32)), .unset, .unset] [(.double (Jvm.FP.i2d (p2 % (1000 : Int32)))), (.int (Int32.ofNat j32)), (.ref ob)])) rfl (by rw [hml]; rfl) (Steps.refl _) (argsL := [(.int (Int32.ofNat j32)), (.double (Jvm.FP.i2d (p2 % (1000 : Int32))))]) (rest := []) (lenOf (d := "(ID)V") (ps := [.int, .double]) (r := none) (by decide +kernel) rfl) rfl (by show 2 * 0 + _ ≤ _; exact Nat.le_of_eq rfl) (hb hby at_39) (fun _ _ => ⟨rfl, e29, (by decide : 20 + 0 ≤ _), (by decide : 1228 + 0 ≤ _)⟩)
    dsimp only [Pt.U, Pt.locs, Pt.cells, Pt.slots] at X30 l30 y30 z30 st30 hQ30
    subst l30 y30 z30
    obtain ⟨rfl, N30q, I30q⟩ := hQ30
    have N30 := Fr.app N29 N30q
    refine own_tr st30 ?_
    have hm30 := own_c0m (1 + j32) (Jvm.Free.Fl.i2d_mag (p2 % (1000 : Int32))) own_m0 (by omega) (by omega)
    show OwnGoes p e below _ (T30.setTop (mkF m 42 #[.val (.int p0), .val (.int p1), .val (.int p2), .val (.int p3), .val (.int p4), .val (.int p5), .val (.int ((p0 &&& (2147483647 : Int32)) % (5 : Int32))), .val (.ref ob), .val (.int (50 : Int32)), .unset, .unset] []))
    refine own_pre (fun _ kz_ => XS.iload X30.here hx rfl (hb hby at_42) rfl kz_) ?_
    show OwnGoes p e below _ (T30.setTop (mkF m 44 #[.val (.int p0), .val (.int p1), .val (.int p2), .val (.int p3), .val (.int p4), .val (.int p5), .val (.int ((p0 &&& (2147483647 : Int32)) % (5 : Int32))), .val (.ref ob), .val (.int (50 : Int32)), .unset, .unset] [(.int (50 : Int32))]))
    refine own_pre (fun _ kz_ => XS.iloadN X30.here hx rfl (hb hby at_44) rfl kz_) ?_
    show OwnGoes p e below _ (T30.setTop (mkF m 45 #[.val (.int p0), .val (.int p1), .val (.int p2), .val (.int p3), .val (.int p4), .val (.int p5), .val (.int ((p0 &&& (2147483647 : Int32)) % (5 : Int32))), .val (.ref ob), .val (.int (50 : Int32)), .unset, .unset] [(.int p2), (.int (50 : Int32))]))
    refine own_pre (fun _ kz_ => XS.sipush X30.here hx rfl (hb hby at_45) kz_) ?_
    show OwnGoes p e below _ (T30.setTop (mkF m 48 #[.val (.int p0), .val (.int p1), .val (.int p2), .val (.int p3), .val (.int p4), .val (.int p5), .val (.int ((p0 &&& (2147483647 : Int32)) % (5 : Int32))), .val (.ref ob), .val (.int (50 : Int32)), .unset, .unset] [(.int (1000 : Int32)), (.int p2), (.int (50 : Int32))]))
    refine own_pre (fun _ kz_ => iremM X30 hx rfl (hb hby at_48) rfl (by decide) kz_) ?_
    show OwnGoes p e below _ (T30.setTop (mkF m 49 #[.val (.int p0), .val (.int p1), .val (.int p2), .val (.int p3), .val (.int p4), .val (.int p5), .val (.int ((p0 &&& (2147483647 : Int32)) % (5 : Int32))), .val (.ref ob), .val (.int (50 : Int32)), .unset, .unset] [(.int (p2 % (1000 : Int32))), (.int (50 : Int32))]))
    obtain ⟨_, _, ⟨T31, L31, k31, n31⟩, -, X31, ⟨Lc31, hQ31, l31, y31, z31⟩, st31⟩ := Jvm.LawKit.callS X30 hx (y := (⟨"com/example/hyperloom/hyperloom/hyperheuristic/ChoiceFunctionDeltaPinLaw", "next", "(II)I"⟩ : MethodName)) hown (mvT hZ (hw _ (List.mem_of_getElem? (i := 52) rfl))) (mvT hZ (hw _ (List.mem_of_getElem? (i := 53) rfl))) (mvT hZ (hw _ (List.mem_of_getElem? (i := 37) rfl))) (mvT hZ (hw _ (List.mem_of_getElem? (i := 54) rfl))) (by decide) (backOf (W := 0) (rmNx l Z a0 hw [] (50 : Int32) (p2 % (1000 : Int32)) T30.heap n0 I30q.sz) hZ (hw _ (List.mem_of_getElem? (i := 54) rfl)) (hw _ (List.mem_of_getElem? (i := 37) rfl)) (by decide) (by decide)) (g := (mkF m 49 #[.val (.int p0), .val (.int p1), .val (.int p2), .val (.int p3), .val (.int p4), .val (.int p5), .val (.int ((p0 &&& (2147483647 : Int32)) % (5 : Int32))), .val (.ref ob), .val (.int (50 : Int32)), .unset, .unset] [(.int (p2 % (1000 : Int32))), (.int (50 : Int32))])) rfl (by rw [hml]; rfl) (argsL := [(.int (50 : Int32)), (.int (p2 % (1000 : Int32)))]) (rest := []) (lenOf (d := "(II)I") (ps := [.int, .int]) (r := some .int) (by decide +kernel) rfl) rfl (by show 2 * 0 + _ ≤ _; exact Nat.le_of_eq rfl) (hb hby at_49) (fun _ _ => ⟨rfl, rfl, (by decide : 20 + 0 ≤ _), (by decide : 1228 + 0 ≤ _)⟩)
    dsimp only [Pt.U, Pt.locs, Pt.cells, Pt.slots] at X31 l31 y31 z31 st31 hQ31
    subst l31 y31 z31
    obtain ⟨rfl, N31q, e31⟩ := hQ31
    have N31 := Fr.app N30 N31q
    refine own_pre st31 ?_
    show OwnGoes p e below _ (T31.setTop (mkF m 52 #[.val (.int p0), .val (.int p1), .val (.int p2), .val (.int p3), .val (.int p4), .val (.int p5), .val (.int ((p0 &&& (2147483647 : Int32)) % (5 : Int32))), .val (.ref ob), .val (.int (50 : Int32)), .unset, .unset] [(.int (own_next (50 : Int32) (p2 % (1000 : Int32))))]))
    refine own_pre (fun _ kz_ => XS.istore X31.here hx rfl (hb hby at_52) rfl (l' := #[.val (.int p0), .val (.int p1), .val (.int p2), .val (.int p3), .val (.int p4), .val (.int p5), .val (.int ((p0 &&& (2147483647 : Int32)) % (5 : Int32))), .val (.ref ob), .val (.int (own_next (50 : Int32) (p2 % (1000 : Int32)))), .unset, .unset]) rfl kz_) ?_
    show OwnGoes p e below _ (T31.setTop (mkF m 54 #[.val (.int p0), .val (.int p1), .val (.int p2), .val (.int p3), .val (.int p4), .val (.int p5), .val (.int ((p0 &&& (2147483647 : Int32)) % (5 : Int32))), .val (.ref ob), .val (.int (own_next (50 : Int32) (p2 % (1000 : Int32)))), .unset, .unset] []))
    exact J54 _ _ X31 N31 ob B _ _ _ _ _ _ (by rw [e31]; exact I30q) (Or.inr ⟨_, hj32, rfl⟩) hm30 (by omega) (by omega)
set_option maxRecDepth 65536 in
set_option maxHeartbeats 40000000 in
theorem comes_1 {Post : Tables → Env → Array Value → State → Outcome → State → Prop} (hpost : ∀ tb e args s v u, (limb_1_1.after args s (.returned v) u = true ∧ limb_1_2.after args s (.returned v) u = true ∧ True) → FrameEnd s (.returned v) u (Jvm.fieldLocs frame_1_writes args s ++ Jvm.arrayLocs frame_1_arrays args s ++ Jvm.staticLocs frame_1_statics s) 48 2560 → Post tb e args s (.returned v) u) :
    ArmFor flags0 classFile x code maxLocals ret World_1 tables_1 room_1 Calls_1 rest_1 Pre_1 Post := by
  intro l hfl _ _ p e ha hc hk s m args below hf hA hF happ hP
  obtain ⟨hcalls, hrest, hpre⟩ := hP
  obtain ⟨-, -, -, hnamed, -, -, -, hat⟩ := (Spec.applies_iff hf).mp happ
  obtain ⟨hg, hn⟩ := and_e (Cond.before_iff.mp (show (Jvm.Cond.and given_1 narrow_1).before args s = true from hpre))
  obtain ⟨hcount, hgs⟩ := and_e hg
  obtain ⟨ha0, hgs0⟩ := and_e hgs
  obtain ⟨ha1, hgs1⟩ := and_e hgs0
  obtain ⟨ha2, hgs2⟩ := and_e hgs1
  obtain ⟨ha3, hgs3⟩ := and_e hgs2
  obtain ⟨ha4, hgs4⟩ := and_e hgs3
  have ha5 := hgs4
  obtain ⟨w0, w1, w2, w3, w4, w5, rfl⟩ : ∃ w0 w1 w2 w3 w4 w5 : Value, args = #[w0, w1, w2, w3, w4, w5] := by
    have hs : args.size = 6 := by simpa [Cond.value, given_1] using hcount
    obtain ⟨L⟩ := args
    match L, hs with
    | [w0, w1, w2, w3, w4, w5], _ => exact ⟨w0, w1, w2, w3, w4, w5, rfl⟩
  have hw := fun d (hd : d ∈ tables_1) => atoms_spec (ws := Jvm.Cond.code x code maxLocals ret :: tables_1) hat d (List.mem_cons_of_mem _ hd)
  have hfit : Fit s := fun {y c} hc i hi => by
    obtain ⟨ha, rfl⟩ := Array.getElem?_eq_some_iff.mp hc
    have q := List.all_eq_true.mp ((Array.all_eq_true_iff_forall_mem.mp hF) _ (Array.getElem_mem ha)) i (List.mem_range.mpr hi)
    simpa [Array.getElem?_eq_getElem hi] using q
  obtain ⟨i0, ei0⟩ := is_v ha0
  obtain rfl : w0 = (.int i0) := Option.some.inj ei0
  obtain ⟨i1, ei1⟩ := is_v ha1
  obtain rfl : w1 = (.int i1) := Option.some.inj ei1
  obtain ⟨i2, ei2⟩ := is_v ha2
  obtain rfl : w2 = (.int i2) := Option.some.inj ei2
  obtain ⟨i3, ei3⟩ := is_v ha3
  obtain rfl : w3 = (.int i3) := Option.some.inj ei3
  obtain ⟨i4, ei4⟩ := is_v ha4
  obtain rfl : w4 = (.int i4) := Option.some.inj ei4
  obtain ⟨i5, ei5⟩ := is_v ha5
  obtain rfl : w5 = (.int i5) := Option.some.inj ei5
  obtain ⟨n, o, h1, h2, h3, _, L, rfl, ⟨rfl, N⟩, hq⟩ := rm0 l s _ hw tables_1 i0 i1 i2 i3 i4 i5 s.heap s.heap.size (Nat.le_refl _) p e ha hc hk s m _ below hf ((Spec.applies_iff_loose hf).mp happ).1 ⟨rfl, State.Warmed39.refl s, rfl⟩ trivial
  refine ⟨n, _, h1, h2, h3, hpost _ _ _ _ _ _ ⟨Cond.after_iff.mpr rfl, Cond.after_iff.mpr (eq_i res_at (Term.int_eval (1)) rfl), trivial⟩ ⟨hq.1, hq.2.1, (hq.2.2.sift fun y hy => Or.inr (N y hy)).mono (by decide) (by decide)⟩⟩
theorem main_1_1 : Claimed_1_1 := comes_1 fun _ _ _ _ _ _ h hF => ⟨h.1, hF⟩
theorem main_1_2 : Claimed_1_2 := comes_1 fun _ _ _ _ _ _ h hF => ⟨h.2.1, hF⟩
end Jvm.Pilot.@@N@@
namespace Jvm.Pilot.@@N@@
open Jvm Jvm.ClassFile Sem Op Lib Jvm.Free Jvm.Stand Jvm.Pilot.@@N@@.Jvm.D
/-! MADE BY PROGRAM (witnessworld.py) out of the Statement's table words and the real class files: 16 classes; the members and pool entries that the words name. The judged class is class 1, her method 1. -/
namespace start1
open Jvm.ClassFile
def u (s : String) : CpInfo := .utf8 (stringToUtf16 s)
/-- a pool by its gaps: so many unusable entries, then the entry; so many at the end -/
def gap : Nat → List CpInfo → List CpInfo
  | 0, r => r
  | n + 1, r => .unusable :: gap n r
def poolList (es : List (Nat × CpInfo)) (last : Nat) : List CpInfo := es.foldr (fun e r => gap e.1 (e.2 :: r)) (gap last [])
def pool (es : List (Nat × CpInfo)) (last : Nat) : Array CpInfo := ⟨poolList es last⟩
def fileOf (pool : Array CpInfo) (this : Nat) (attrs : Array Attribute := #[]) (ms : Array MethodInfo := #[]) (fl : Nat := 33) (sup : Nat := 0) (ifs : Array Nat := #[]) (fds : Array FieldInfo := #[]) : ClassFile where
  minorVersion := 0
  majorVersion := 65
  constantPool := pool
  accessFlags := fl
  thisClass := this
  superClass := sup
  interfaces := ifs
  fields := fds
  methods := ms
  attributes := attrs
def plain (name : String) (sup : Option ClassId) : Class where
  name := name
  kind := .ordinary
  loader := none
  accessFlags := 33
  super := sup
  interfaces := #[]
  cf := none
  fields := #[]
  methods := #[]
  instanceTypes := #[]
  staticTypes := #[]
  resolved := #[]
  callSites := []
  init := .initialized
  statics := none
  mirror := none

def pool0 : Array CpInfo := pool [(5, u "<init>"), (0, u "()V"), (1, .class_ 10), (1, u "java/lang/Object")] 113

def k0c0 : Code := { maxStack := 0, maxLocals := 1, code := object_method_1_code, exceptionTable := #[], attributes := #[] }
def k0m0 : Method := { name := "<init>", desc := "()V", sig := { parameters := [], returnType := none }, accessFlags := 1, code := some k0c0 }
/-- java/lang/Object -/
def k0 : Class := { plain "java/lang/Object" none with
  accessFlags := 33
  interfaces := #[]
  cf := some (fileOf pool0 8 #[] #[{ accessFlags := 1, nameIndex := 5, descriptorIndex := 6, attributes := #[] }] 33 0 #[] #[])
  fields := #[]
  methods := #[k0m0]
  instanceTypes := #[]
  staticTypes := #[]
  resolved := Array.replicate 124 none
  statics := none }

def pool1 : Array CpInfo := pool [(2, .class_ 4), (1, u "java/lang/Object"), (0, u "<init>"), (0, u "()V"), (0, .integer 2147483647), (0, .class_ 9), (0, u "com/example/hyperloom/hyperloom/hyperheuristic/ChoiceFunction"), (0, .methodref 8 11), (0, .nameAndType 5 12), (0, u "(I)V"), (0, .methodref 14 15), (0, .class_ 16), (0, .nameAndType 17 18), (0, u "com/example/hyperloom/hyperloom/hyperheuristic/ChoiceFunctionDeltaPinLaw"), (0, u "pick"), (0, u "(II)I"), (0, .methodref 14 20), (0, .nameAndType 21 22), (0, u "imp"), (0, u "(I)D"), (0, .methodref 8 24), (0, .nameAndType 25 26), (0, u "record"), (0, u "(ID)V"), (0, .methodref 14 28), (0, .nameAndType 29 18), (0, u "next"), (0, .methodref 8 31), (0, .nameAndType 32 33), (0, u "delta"), (0, u "()D"), (0, .double 4636737291354636288), (1, .methodref 37 38), (0, .class_ 39), (0, .nameAndType 40 18), (0, u "java/lang/Math"), (0, u "max"), (2, u "law"), (0, u "(IIIIII)Z")] 3

def k1m0 : Method := { name := "<init>", desc := "()V", sig := { parameters := [], returnType := none }, accessFlags := 1, code := none }
def k1c1 : Code := { maxStack := 6, maxLocals := 11, code := code, exceptionTable := #[], attributes := #[] }
def k1m1 : Method := { name := "law", desc := "(IIIIII)Z", sig := { parameters := [.int, .int, .int, .int, .int, .int], returnType := some .boolean }, accessFlags := 9, code := some k1c1 }
def k1c2 : Code := { maxStack := 3, maxLocals := 2, code := method_3_code, exceptionTable := #[], attributes := #[] }
def k1m2 : Method := { name := "pick", desc := "(II)I", sig := { parameters := [.int, .int], returnType := some .int }, accessFlags := 10, code := some k1c2 }
def k1c3 : Code := { maxStack := 2, maxLocals := 1, code := method_4_code, exceptionTable := #[], attributes := #[] }
def k1m3 : Method := { name := "imp", desc := "(I)D", sig := { parameters := [.int], returnType := some .double }, accessFlags := 10, code := some k1c3 }
def k1c4 : Code := { maxStack := 3, maxLocals := 2, code := method_5_code, exceptionTable := #[], attributes := #[] }
def k1m4 : Method := { name := "next", desc := "(II)I", sig := { parameters := [.int, .int], returnType := some .int }, accessFlags := 10, code := some k1c4 }
/-- com/example/hyperloom/hyperloom/hyperheuristic/ChoiceFunctionDeltaPinLaw -/
def k1 : Class := { plain "com/example/hyperloom/hyperloom/hyperheuristic/ChoiceFunctionDeltaPinLaw" (some 0) with
  accessFlags := 49
  interfaces := #[]
  cf := some (fileOf pool1 14 #[] #[{ accessFlags := 1, nameIndex := 5, descriptorIndex := 6, attributes := #[] }, { accessFlags := 9, nameIndex := 43, descriptorIndex := 44, attributes := #[] }, { accessFlags := 10, nameIndex := 17, descriptorIndex := 18, attributes := #[] }, { accessFlags := 10, nameIndex := 21, descriptorIndex := 22, attributes := #[] }, { accessFlags := 10, nameIndex := 29, descriptorIndex := 18, attributes := #[] }] 49 2 #[] #[])
  fields := #[]
  methods := #[k1m0, k1m1, k1m2, k1m3, k1m4]
  instanceTypes := #[]
  staticTypes := #[]
  resolved := Array.replicate 48 none
  statics := none }

def pool2 : Array CpInfo := pool [(1, .methodref 2 3), (0, .class_ 4), (0, .nameAndType 5 6), (0, u "java/lang/Object"), (0, u "<init>"), (0, u "()V"), (0, .fieldref 8 9), (0, .class_ 10), (0, .nameAndType 11 12), (0, u "com/example/hyperloom/hyperloom/hyperheuristic/ChoiceFunction"), (0, u "previous"), (0, u "I"), (0, .fieldref 8 14), (0, .nameAndType 15 12), (0, u "mu"), (0, .class_ 17), (0, u "[[D"), (0, .fieldref 8 19), (0, .nameAndType 20 17), (0, u "alone"), (0, .class_ 22), (0, u "[[[D"), (0, .fieldref 8 24), (0, .nameAndType 25 22), (0, u "after"), (0, .fieldref 8 27), (0, .nameAndType 28 29), (0, u "lastCalled"), (0, u "[J"), (0, .fieldref 8 31), (0, .nameAndType 32 33), (0, u "scores"), (0, u "[D"), (0, .double 4636737291354636288), (1, .fieldref 8 37), (0, .nameAndType 38 39), (0, u "calls"), (0, u "J"), (2, u "()D"), (2, u "delta"), (10, .methodref 8 57), (0, .nameAndType 58 59), (0, u "add"), (0, u "([DD)V"), (0, .methodref 61 62), (0, .class_ 63), (0, .nameAndType 64 65), (0, u "java/lang/Math"), (0, u "max"), (0, u "(II)I"), (0, u "HUNDRED"), (2, u "START"), (1, u "AFTER_IMPROVING"), (1, u "LOWEST"), (1, u "(I)V"), (5, u "record"), (0, u "(ID)V")] 2

def k2c0 : Code := { maxStack := 4, maxLocals := 2, code := prog_45_method_1_code, exceptionTable := #[], attributes := #[] }
def k2m0 : Method := { name := "<init>", desc := "(I)V", sig := { parameters := [.int], returnType := none }, accessFlags := 0, code := some k2c0 }
def k2c1 : Code := { maxStack := 4, maxLocals := 1, code := prog_45_method_3_code, exceptionTable := #[], attributes := #[] }
def k2m1 : Method := { name := "delta", desc := "()D", sig := { parameters := [], returnType := some .double }, accessFlags := 0, code := some k2c1 }
def k2c2 : Code := { maxStack := 5, maxLocals := 4, code := prog_45_method_6_code, exceptionTable := #[], attributes := #[] }
def k2m2 : Method := { name := "record", desc := "(ID)V", sig := { parameters := [.int, .double], returnType := none }, accessFlags := 0, code := some k2c2 }
def k2c3 : Code := { maxStack := 8, maxLocals := 4, code := prog_45_method_7_code, exceptionTable := #[], attributes := #[] }
def k2m3 : Method := { name := "add", desc := "([DD)V", sig := { parameters := [(.array .double), .double], returnType := none }, accessFlags := 10, code := some k2c3 }
/-- com/example/hyperloom/hyperloom/hyperheuristic/ChoiceFunction -/
def k2 : Class := { plain "com/example/hyperloom/hyperloom/hyperheuristic/ChoiceFunction" (some 0) with
  accessFlags := 48
  interfaces := #[]
  cf := some (fileOf pool2 8 #[] #[{ accessFlags := 0, nameIndex := 5, descriptorIndex := 75, attributes := #[] }, { accessFlags := 0, nameIndex := 45, descriptorIndex := 42, attributes := #[] }, { accessFlags := 0, nameIndex := 81, descriptorIndex := 82, attributes := #[] }, { accessFlags := 10, nameIndex := 58, descriptorIndex := 59, attributes := #[] }] 48 2 #[] #[{ accessFlags := 26, nameIndex := 66, descriptorIndex := 12, attributes := #[] }, { accessFlags := 26, nameIndex := 69, descriptorIndex := 12, attributes := #[] }, { accessFlags := 26, nameIndex := 71, descriptorIndex := 12, attributes := #[] }, { accessFlags := 26, nameIndex := 73, descriptorIndex := 12, attributes := #[] }, { accessFlags := 18, nameIndex := 20, descriptorIndex := 17, attributes := #[] }, { accessFlags := 18, nameIndex := 25, descriptorIndex := 22, attributes := #[] }, { accessFlags := 18, nameIndex := 28, descriptorIndex := 29, attributes := #[] }, { accessFlags := 18, nameIndex := 32, descriptorIndex := 33, attributes := #[] }, { accessFlags := 2, nameIndex := 38, descriptorIndex := 39, attributes := #[] }, { accessFlags := 2, nameIndex := 11, descriptorIndex := 12, attributes := #[] }, { accessFlags := 2, nameIndex := 15, descriptorIndex := 12, attributes := #[] }])
  fields := #[{ name := "HUNDRED", type := .int, accessFlags := 26, slot := 0, constantValue := 0 }, { name := "START", type := .int, accessFlags := 26, slot := 1, constantValue := 0 }, { name := "AFTER_IMPROVING", type := .int, accessFlags := 26, slot := 2, constantValue := 0 }, { name := "LOWEST", type := .int, accessFlags := 26, slot := 3, constantValue := 0 }, { name := "alone", type := (.array (.array .double)), accessFlags := 18, slot := 0, constantValue := 0 }, { name := "after", type := (.array (.array (.array .double))), accessFlags := 18, slot := 1, constantValue := 0 }, { name := "lastCalled", type := (.array .long), accessFlags := 18, slot := 2, constantValue := 0 }, { name := "scores", type := (.array .double), accessFlags := 18, slot := 3, constantValue := 0 }, { name := "calls", type := .long, accessFlags := 2, slot := 4, constantValue := 0 }, { name := "previous", type := .int, accessFlags := 2, slot := 5, constantValue := 0 }, { name := "mu", type := .int, accessFlags := 2, slot := 6, constantValue := 0 }]
  methods := #[k2m0, k2m1, k2m2, k2m3]
  instanceTypes := #[(.array (.array .double)), (.array (.array (.array .double))), (.array .long), (.array .double), .long, .int, .int]
  staticTypes := #[.int, .int, .int, .int]
  resolved := Array.replicate 85 none
  statics := none }

def pool3 : Array CpInfo := pool [(1, .class_ 2), (0, u "java/lang/Math"), (1, .class_ 6), (1, u "java/lang/Object"), (0, u "<init>"), (0, u "()V"), (89, .class_ 100), (1, u "java/lang/Math$RandomNumberGeneratorHolder"), (71, u "negativeZeroFloatBits"), (0, u "J"), (2, u "negativeZeroDoubleBits"), (21, u "max"), (46, u "$assertionsDisabled"), (0, u "Z"), (88, u "(II)I"), (2, u "twoToTheDoubleScaleDown"), (0, u "D"), (4, u "twoToTheDoubleScaleUp"), (9, u "E"), (3, u "PI"), (2, u "TAU"), (2, u "DEGREES_TO_RADIANS"), (0, u "RADIANS_TO_DEGREES")] 94

def k3m0 : Method := { name := "<init>", desc := "()V", sig := { parameters := [], returnType := none }, accessFlags := 2, code := none }
def k3c1 : Code := { maxStack := 2, maxLocals := 2, code := jdk_29_method_65_code, exceptionTable := #[], attributes := #[] }
def k3m1 : Method := { name := "max", desc := "(II)I", sig := { parameters := [.int, .int], returnType := some .int }, accessFlags := 9, code := some k3c1 }
/-- java/lang/Math -/
def k3 : Class := { plain "java/lang/Math" (some 0) with
  accessFlags := 49
  interfaces := #[]
  cf := some (fileOf pool3 1 #[.nestMembers #[98]] #[{ accessFlags := 2, nameIndex := 7, descriptorIndex := 8, attributes := #[] }, { accessFlags := 9, nameIndex := 198, descriptorIndex := 335, attributes := #[] }] 49 4 #[] #[{ accessFlags := 25, nameIndex := 354, descriptorIndex := 339, attributes := #[] }, { accessFlags := 25, nameIndex := 358, descriptorIndex := 339, attributes := #[] }, { accessFlags := 25, nameIndex := 361, descriptorIndex := 339, attributes := #[] }, { accessFlags := 26, nameIndex := 364, descriptorIndex := 339, attributes := #[] }, { accessFlags := 26, nameIndex := 365, descriptorIndex := 339, attributes := #[] }, { accessFlags := 26, nameIndex := 172, descriptorIndex := 173, attributes := #[] }, { accessFlags := 26, nameIndex := 176, descriptorIndex := 173, attributes := #[] }, { accessFlags := 8, nameIndex := 344, descriptorIndex := 339, attributes := #[] }, { accessFlags := 8, nameIndex := 338, descriptorIndex := 339, attributes := #[] }, { accessFlags := 4120, nameIndex := 245, descriptorIndex := 246, attributes := #[] }])
  fields := #[{ name := "E", type := .double, accessFlags := 25, slot := 0, constantValue := 0 }, { name := "PI", type := .double, accessFlags := 25, slot := 1, constantValue := 0 }, { name := "TAU", type := .double, accessFlags := 25, slot := 2, constantValue := 0 }, { name := "DEGREES_TO_RADIANS", type := .double, accessFlags := 26, slot := 3, constantValue := 0 }, { name := "RADIANS_TO_DEGREES", type := .double, accessFlags := 26, slot := 4, constantValue := 0 }, { name := "negativeZeroFloatBits", type := .long, accessFlags := 26, slot := 5, constantValue := 0 }, { name := "negativeZeroDoubleBits", type := .long, accessFlags := 26, slot := 6, constantValue := 0 }, { name := "twoToTheDoubleScaleUp", type := .double, accessFlags := 8, slot := 7, constantValue := 0 }, { name := "twoToTheDoubleScaleDown", type := .double, accessFlags := 8, slot := 8, constantValue := 0 }, { name := "$assertionsDisabled", type := .boolean, accessFlags := 4120, slot := 9, constantValue := 0 }]
  methods := #[k3m0, k3m1]
  instanceTypes := #[]
  staticTypes := #[.double, .double, .double, .double, .double, .long, .long, .double, .double, .boolean]
  resolved := Array.replicate 460 none
  statics := none }

def pool4 : Array CpInfo := pool [(1, u "java/lang/Cloneable"), (0, .class_ 1), (0, u "java/lang/Object"), (0, .class_ 3)] 3

/-- java/lang/Cloneable -/
def k4 : Class := { plain "java/lang/Cloneable" (some 0) with
  accessFlags := 1537
  interfaces := #[]
  cf := some (fileOf pool4 2 #[] #[] 1537 4 #[] #[])
  fields := #[]
  methods := #[]
  instanceTypes := #[]
  staticTypes := #[]
  resolved := Array.replicate 8 none
  statics := none }

def pool5 : Array CpInfo := pool [(1, u "java/io/Serializable"), (0, .class_ 1), (0, u "java/lang/Object"), (0, .class_ 3)] 3

/-- java/io/Serializable -/
def k5 : Class := { plain "java/io/Serializable" (some 0) with
  accessFlags := 1537
  interfaces := #[]
  cf := some (fileOf pool5 2 #[] #[] 1537 4 #[] #[])
  fields := #[]
  methods := #[]
  instanceTypes := #[]
  staticTypes := #[]
  resolved := Array.replicate 8 none
  statics := none }

/-- the primitive byte -/
def k6 : Class := { plain "byte" none with kind := .primitive 'B', accessFlags := 0x411 }
/-- [B -/
def k7 : Class := { plain "[B" (some 0) with kind := .array 6 .byte, interfaces := #[4, 5], accessFlags := 1041 }

/-- the primitive double -/
def k8 : Class := { plain "double" none with kind := .primitive 'D', accessFlags := 0x411 }
/-- [D -/
def k9 : Class := { plain "[D" (some 0) with kind := .array 8 .double, interfaces := #[4, 5], accessFlags := 1041 }

/-- the primitive int -/
def k10 : Class := { plain "int" none with kind := .primitive 'I', accessFlags := 0x411 }
/-- [I -/
def k11 : Class := { plain "[I" (some 0) with kind := .array 10 .int, interfaces := #[4, 5], accessFlags := 1041 }

/-- the primitive long -/
def k12 : Class := { plain "long" none with kind := .primitive 'J', accessFlags := 0x411 }
/-- [J -/
def k13 : Class := { plain "[J" (some 0) with kind := .array 12 .long, interfaces := #[4, 5], accessFlags := 1041 }

/-- [[D -/
def k14 : Class := { plain "[[D" (some 0) with kind := .array 9 (.array .double), interfaces := #[4, 5], accessFlags := 1041 }

/-- [[[D -/
def k15 : Class := { plain "[[[D" (some 0) with kind := .array 14 (.array (.array .double)), interfaces := #[4, 5], accessFlags := 1041 }

def heap : Heap := #[]
def classes : Array Class := #[k0, k1, k2, k3, k4, k5, k6, k7, k8, k9, k10, k11, k12, k13, k14, k15]
def interned : List (Array UInt16 × Addr) := []
def slotsUsed : Nat := 0
def theMethod : MethodId := ⟨1, 1⟩
def args0 : Array Value := #[.int 4, .int 5, .int 6, .int 7, .int 8, .int 9]
def aboutOver (below : List Frame) : State where
  vm := { classes := classes, interned := interned.toArray }
  heap := heap
  slotsUsed := slotsUsed
  threads := #[{ frames := .invoking theMethod args0 :: below }]
def below0 : List Frame := [.native { method := ⟨0, 0⟩, args := #[] }]
def about1 : State := aboutOver below0
def p0 : Program := .bare "" "" ""
def e0 : Env := launch0.env 0 0 0
theorem w_frames : about1.frames = Frame.invoking theMethod args0 :: below0 := rfl
set_option maxRecDepth 65536 in
theorem w_args : argsFit about1.vm theMethod args0 = true := by decide +kernel
set_option maxRecDepth 65536 in
theorem w_heap : heapFits about1 = true := by decide +kernel
set_option maxRecDepth 65536 in
theorem w_runnable : about1.curStatus? = some .runnable := by decide +kernel
set_option maxRecDepth 65536 in
theorem w_alone : about1.alone = true := by decide +kernel
set_option maxRecDepth 65536 in
theorem w_named : about1.methodNamed? x = some theMethod := by decide +kernel
set_option maxRecDepth 65536 in
theorem w_hears : about1.hears theMethod below0 = true := by decide +kernel
set_option maxRecDepth 65536 in
theorem w_ripe : about1.ripe theMethod args0 below0 = true := by decide +kernel
theorem w_running : about1.status = .running := rfl
set_option maxRecDepth 65536 in
theorem w_room : about1.hasRoom e0.platform room_1 = true :=
  launch0.hasRoom_least _ room_1 (by decide +kernel) (by decide +kernel) (by decide +kernel) (by decide +kernel) (by decide +kernel) (by decide +kernel)
theorem allAtoms_all (ts : List Jvm.Cond) (a : Array Jvm.Value) (st : Jvm.State) : (allAtoms ts).before a st = ts.all (fun c => c.before a st) := by
  induction ts with
  | nil => rfl
  | cons c t ih =>
    show (Jvm.Cond.and c (allAtoms t)).before a st = _
    rw [Jvm.Cond.before_and, ih, List.all_cons]
def words1 : List Jvm.Cond := Jvm.Cond.code x code maxLocals ret :: tables_1
/-- a 'code' word, met by the world's own term for the bytes: nothing is compared byte by byte -/
theorem code_word {y : MethodName} {bytes : ByteArray} {mx : Nat} {rt : Option FieldType} {a : Array Value} {s : State} {m : MethodId} {meth : Method} {c : Code} (h1 : s.methodNamed? y = some m) (h2 : s.vm.method? m = some meth) (h3 : meth.code = some c) (h4 : c.code = bytes)
    (h5 : (c.maxLocals == mx && c.exceptionTable.isEmpty && decide (c.maxStack ≤ mostOperands) && decide (meth.sig.returnType = rt) && !meth.locks && decide (parseMethodDescriptor y.desc = some meth.sig)) = true) : (Jvm.Cond.code y bytes mx rt).before a s = true := by
  simp only [Bool.and_eq_true, beq_iff_eq, Bool.not_eq_true', decide_eq_true_eq] at h5
  obtain ⟨⟨⟨⟨⟨g1, g2⟩, g3⟩, g4⟩, g5⟩, g6⟩ := h5
  simp [Cond.before, Cond.holds, Cond.value, h1, h2, h3, h4, g1, g2, g3, g4, g5, g6]
def isCode : Jvm.Cond → Bool
  | .code _ _ _ _ => true
  | _ => false
theorem all_split {L : List Jvm.Cond} {P : Jvm.Cond → Bool} (h1 : L.all (fun c => isCode c || P c) = true) (h2 : ∀ c ∈ L.filter isCode, P c = true) : L.all P = true := by
  refine List.all_eq_true.mpr fun c hc => ?_
  have h := List.all_eq_true.mp h1 c hc
  rcases Bool.eq_false_or_eq_true (isCode c) with hi | hi
  · exact h2 c (List.mem_filter.mpr ⟨hc, hi⟩)
  · simpa [hi] using h
set_option maxRecDepth 65536 in
theorem w_c0 : (Jvm.Cond.code x code maxLocals ret).before args0 about1 = true := code_word (m := ⟨1, 1⟩) (meth := k1m1) (c := k1c1) (by decide +kernel) rfl rfl rfl (by decide +kernel)
set_option maxRecDepth 65536 in
theorem w_c1 : (Jvm.Cond.code ({ cls := "com/example/hyperloom/hyperloom/hyperheuristic/ChoiceFunction", name := "<init>", desc := "(I)V" } : Jvm.MethodName) prog_45_method_1_code (2 : Nat) (Option.none : Option Jvm.ClassFile.FieldType)).before args0 about1 = true := code_word (m := ⟨2, 0⟩) (meth := k2m0) (c := k2c0) (by decide +kernel) rfl rfl rfl (by decide +kernel)
set_option maxRecDepth 65536 in
theorem w_c2 : (Jvm.Cond.code ({ cls := "java/lang/Object", name := "<init>", desc := "()V" } : Jvm.MethodName) object_method_1_code (1 : Nat) (Option.none : Option Jvm.ClassFile.FieldType)).before args0 about1 = true := code_word (m := ⟨0, 0⟩) (meth := k0m0) (c := k0c0) (by decide +kernel) rfl rfl rfl (by decide +kernel)
set_option maxRecDepth 65536 in
theorem w_c3 : (Jvm.Cond.code ({ cls := "com/example/hyperloom/hyperloom/hyperheuristic/ChoiceFunction", name := "delta", desc := "()D" } : Jvm.MethodName) prog_45_method_3_code (1 : Nat) (Option.some Jvm.ClassFile.FieldType.double)).before args0 about1 = true := code_word (m := ⟨2, 1⟩) (meth := k2m1) (c := k2c1) (by decide +kernel) rfl rfl rfl (by decide +kernel)
set_option maxRecDepth 65536 in
theorem w_c4 : (Jvm.Cond.code ({ cls := "com/example/hyperloom/hyperloom/hyperheuristic/ChoiceFunctionDeltaPinLaw", name := "pick", desc := "(II)I" } : Jvm.MethodName) method_3_code (2 : Nat) (Option.some Jvm.ClassFile.FieldType.int)).before args0 about1 = true := code_word (m := ⟨1, 2⟩) (meth := k1m2) (c := k1c2) (by decide +kernel) rfl rfl rfl (by decide +kernel)
set_option maxRecDepth 65536 in
theorem w_c5 : (Jvm.Cond.code ({ cls := "com/example/hyperloom/hyperloom/hyperheuristic/ChoiceFunctionDeltaPinLaw", name := "imp", desc := "(I)D" } : Jvm.MethodName) method_4_code (1 : Nat) (Option.some Jvm.ClassFile.FieldType.double)).before args0 about1 = true := code_word (m := ⟨1, 3⟩) (meth := k1m3) (c := k1c3) (by decide +kernel) rfl rfl rfl (by decide +kernel)
set_option maxRecDepth 65536 in
theorem w_c6 : (Jvm.Cond.code ({ cls := "com/example/hyperloom/hyperloom/hyperheuristic/ChoiceFunction", name := "record", desc := "(ID)V" } : Jvm.MethodName) prog_45_method_6_code (4 : Nat) (Option.none : Option Jvm.ClassFile.FieldType)).before args0 about1 = true := code_word (m := ⟨2, 2⟩) (meth := k2m2) (c := k2c2) (by decide +kernel) rfl rfl rfl (by decide +kernel)
set_option maxRecDepth 65536 in
theorem w_c7 : (Jvm.Cond.code ({ cls := "com/example/hyperloom/hyperloom/hyperheuristic/ChoiceFunction", name := "add", desc := "([DD)V" } : Jvm.MethodName) prog_45_method_7_code (4 : Nat) (Option.none : Option Jvm.ClassFile.FieldType)).before args0 about1 = true := code_word (m := ⟨2, 3⟩) (meth := k2m3) (c := k2c3) (by decide +kernel) rfl rfl rfl (by decide +kernel)
set_option maxRecDepth 65536 in
theorem w_c8 : (Jvm.Cond.code ({ cls := "com/example/hyperloom/hyperloom/hyperheuristic/ChoiceFunctionDeltaPinLaw", name := "next", desc := "(II)I" } : Jvm.MethodName) method_5_code (2 : Nat) (Option.some Jvm.ClassFile.FieldType.int)).before args0 about1 = true := code_word (m := ⟨1, 4⟩) (meth := k1m4) (c := k1c4) (by decide +kernel) rfl rfl rfl (by decide +kernel)
set_option maxRecDepth 65536 in
theorem w_c9 : (Jvm.Cond.code ({ cls := "java/lang/Math", name := "max", desc := "(II)I" } : Jvm.MethodName) jdk_29_method_65_code (2 : Nat) (Option.some Jvm.ClassFile.FieldType.int)).before args0 about1 = true := code_word (m := ⟨3, 1⟩) (meth := k3m1) (c := k3c1) (by decide +kernel) rfl rfl rfl (by decide +kernel)
def codes1 : List Jvm.Cond := [Jvm.Cond.code x code maxLocals ret, Jvm.Cond.code ({ cls := "com/example/hyperloom/hyperloom/hyperheuristic/ChoiceFunction", name := "<init>", desc := "(I)V" } : Jvm.MethodName) prog_45_method_1_code (2 : Nat) (Option.none : Option Jvm.ClassFile.FieldType), Jvm.Cond.code ({ cls := "java/lang/Object", name := "<init>", desc := "()V" } : Jvm.MethodName) object_method_1_code (1 : Nat) (Option.none : Option Jvm.ClassFile.FieldType), Jvm.Cond.code ({ cls := "com/example/hyperloom/hyperloom/hyperheuristic/ChoiceFunction", name := "delta", desc := "()D" } : Jvm.MethodName) prog_45_method_3_code (1 : Nat) (Option.some Jvm.ClassFile.FieldType.double), Jvm.Cond.code ({ cls := "com/example/hyperloom/hyperloom/hyperheuristic/ChoiceFunctionDeltaPinLaw", name := "pick", desc := "(II)I" } : Jvm.MethodName) method_3_code (2 : Nat) (Option.some Jvm.ClassFile.FieldType.int), Jvm.Cond.code ({ cls := "com/example/hyperloom/hyperloom/hyperheuristic/ChoiceFunctionDeltaPinLaw", name := "imp", desc := "(I)D" } : Jvm.MethodName) method_4_code (1 : Nat) (Option.some Jvm.ClassFile.FieldType.double), Jvm.Cond.code ({ cls := "com/example/hyperloom/hyperloom/hyperheuristic/ChoiceFunction", name := "record", desc := "(ID)V" } : Jvm.MethodName) prog_45_method_6_code (4 : Nat) (Option.none : Option Jvm.ClassFile.FieldType), Jvm.Cond.code ({ cls := "com/example/hyperloom/hyperloom/hyperheuristic/ChoiceFunction", name := "add", desc := "([DD)V" } : Jvm.MethodName) prog_45_method_7_code (4 : Nat) (Option.none : Option Jvm.ClassFile.FieldType), Jvm.Cond.code ({ cls := "com/example/hyperloom/hyperloom/hyperheuristic/ChoiceFunctionDeltaPinLaw", name := "next", desc := "(II)I" } : Jvm.MethodName) method_5_code (2 : Nat) (Option.some Jvm.ClassFile.FieldType.int), Jvm.Cond.code ({ cls := "java/lang/Math", name := "max", desc := "(II)I" } : Jvm.MethodName) jdk_29_method_65_code (2 : Nat) (Option.some Jvm.ClassFile.FieldType.int)]
set_option maxRecDepth 65536 in
theorem codes_eq : words1.filter isCode = codes1 := rfl
theorem w_codes : ∀ c ∈ words1.filter isCode, c.before args0 about1 = true := by
  rw [codes_eq]
  intro c hc
  simp only [codes1, List.mem_cons, List.not_mem_nil, or_false] at hc
  rcases hc with rfl | rfl | rfl | rfl | rfl | rfl | rfl | rfl | rfl | rfl
  · exact w_c0
  · exact w_c1
  · exact w_c2
  · exact w_c3
  · exact w_c4
  · exact w_c5
  · exact w_c6
  · exact w_c7
  · exact w_c8
  · exact w_c9
set_option maxRecDepth 65536 in
theorem w_t1 : (words1.take 24).all (fun c => isCode c || c.before args0 about1) = true := by decide +kernel
set_option maxRecDepth 65536 in
theorem w_t2 : ((words1.drop 24).take 24).all (fun c => isCode c || c.before args0 about1) = true := by decide +kernel
set_option maxRecDepth 65536 in
theorem w_t3 : ((words1.drop 24).drop 24).all (fun c => isCode c || c.before args0 about1) = true := by decide +kernel
theorem w_tables : (allAtoms (Jvm.Cond.code x code maxLocals ret :: tables_1)).before args0 about1 = true := by
  rw [allAtoms_all]
  show words1.all (fun c => c.before args0 about1) = true
  refine all_split ?_ w_codes
  rw [← List.take_append_drop 24 words1, List.all_append, w_t1, ← List.take_append_drop 24 (words1.drop 24), List.all_append, w_t2, w_t3]
  rfl
set_option maxRecDepth 65536 in
theorem w_case : (Jvm.Cond.and given_1 narrow_1).before args0 about1 = true := by decide +kernel
theorem w_applies : (headSpec (Jvm.Cond.code x code maxLocals ret :: tables_1) room_1).applies x e0.platform about1 = true :=
  (Spec.applies_iff w_frames).mpr ⟨w_running, w_runnable, w_alone, w_named, w_hears, w_ripe, w_room, w_tables⟩
theorem atStart : AtStart classFile x code maxLocals ret World_1 tables_1 room_1 Calls_1 rest_1 Pre_1 launch0 p0 e0 about1 theMethod args0 below0 :=
  ⟨lists_1, trivial, launch0.admits_env _ _ _, launch0.least_env, fairChoices_fair.cas, fairChoices_fair.clock, w_frames, w_args, w_heap, w_applies, trivial, trivial, w_case⟩
end start1
theorem witness_1 : WitnessClaimed_1 := ⟨start1.p0, start1.e0, start1.about1, start1.theMethod, start1.args0, start1.below0, start1.atStart⟩
end Jvm.Pilot.@@N@@

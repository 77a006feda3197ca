import JvmDerived
import JvmDerived.Pilot.@@N@@Statement
import JvmDerived.Pilot.@@N@@Code
set_option linter.unusedVariables false
set_option linter.unusedSimpArgs false
namespace Jvm.Pilot.@@N@@
open Jvm Jvm.ClassFile Sem Op Lib Jvm.Free Jvm.Stand Jvm.LawKit Jvm.RoadKit Bundle Jvm.Pilot.@@N@@.Jvm.D
/-! the walk in continuation style: 'from U the run comes to an end of which P holds' -/
def OwnGoes (p : Program) (e : Env) (below : List Frame) (P : Outcome → State → Prop) (U : State) : Prop := ∃ s₂ o, Steps p.tables e below U s₂ ∧ s₂.status = .running ∧ Ended s₂ below o ∧ P o s₂
theorem own_pre {p : Program} {e : Env} {below : List Frame} {P : Outcome → State → Prop} {U U' : State} (h : ∀ t, Steps p.tables e below U' t → Steps p.tables e below U t) (k : OwnGoes p e below P U') : OwnGoes p e below P U := by
  obtain ⟨s₂, o, h1, h2⟩ := k
  exact ⟨s₂, o, h _ h1, h2⟩
theorem own_tr {p : Program} {e : Env} {below : List Frame} {P : Outcome → State → Prop} {U U' : State} (h : Steps p.tables e below U U') (k : OwnGoes p e below P U') : OwnGoes p e below P U := own_pre (fun _ q => h.trans q) k
theorem own_ret {p : Program} {l : Launch} {e : Env} {R : Room} {s : State} {m : MethodId} {args : Array Value} {below : List Frame} {meth : Method} {c : Code} {T : State} {locs : List Loc} {cells slots : Nat}
    (X : Stand p l e R s m args below meth c T locs cells slots) (hx : p.tables.exec = Jvm.exec) {pc : Nat} {Ls : Array Slot} {w : Value} {t : FieldType} {i : Instr} {rest : List Value} (hret : meth.sig.returnType = some t) (hn : narrow t w = w)
    (hi : (i = .ireturn ∧ (t = .int ∨ t = .boolean ∨ t = .byte ∨ t = .char ∨ t = .short) ∧ ∃ z, w = .int z) ∨ (i = .lreturn ∧ t = .long ∧ ∃ z, w = .long z) ∨ (i = .dreturn ∧ t = .double ∧ ∃ z, w = .double z) ∨ (i = .freturn ∧ t = .float ∧ ∃ z, w = .float z) ∨ (i = .areturn ∧ t.isReference = true ∧ w.isRef = true))
    (hlocks : meth.locks = false) (hd : decode c.code pc = .ok (i, 1)) {Qh : Option Value → Heap → List Loc → Prop} {rc rs : Nat} (hQ : Qh (some w) T.heap locs) (hc : cells ≤ rc) (hs : slots ≤ rs) :
    OwnGoes p e below (fun o U' => ∃ v L, o = .returned v ∧ Qh v U'.heap L ∧ FrameEnd s o U' L rc rs) (T.setTop (mkF m pc Ls (w :: rest))) := by
  obtain ⟨fs, hr, hrun, hended, hW, hsame⟩ := X.leave (v := some w) (fun h => by rw [hret] at h; cases h) hlocks
  exact ⟨_, _, retOut X hx hret hn hi hd hr, hrun, hended, _, _, rfl, hQ, ⟨_, rfl⟩, hW, hsame.mono hc hs⟩
theorem own_retV {p : Program} {l : Launch} {e : Env} {R : Room} {s : State} {m : MethodId} {args : Array Value} {below : List Frame} {meth : Method} {c : Code} {T : State} {locs : List Loc} {cells slots : Nat}
    (X : Stand p l e R s m args below meth c T locs cells slots) (hx : p.tables.exec = Jvm.exec) {pc : Nat} {Ls : Array Slot} (hret : meth.sig.returnType = none) (hlocks : meth.locks = false) (hd : decode c.code pc = .ok (.return_, 1)) {Qh : Option Value → Heap → List Loc → Prop} {rc rs : Nat} (hQ : Qh none T.heap locs) (hc : cells ≤ rc) (hs : slots ≤ rs) :
    OwnGoes p e below (fun o U' => ∃ v L, o = .returned v ∧ Qh v U'.heap L ∧ FrameEnd s o U' L rc rs) (T.setTop (mkF m pc Ls [])) := by
  obtain ⟨fs, hr, hrun, hended, hW, hsame⟩ := X.leave (v := none) (fun _ => rfl) hlocks
  exact ⟨_, _, X.returnOut hx hret hd hr, hrun, hended, _, _, rfl, hQ, ⟨_, rfl⟩, hW, hsame.mono hc hs⟩
/-! an array by the list of what it holds -/
def OwnA (Z : State) (h : Heap) (b : Addr) (ty : FieldType) (vs : List Value) : Prop := ∃ c : Cell, Jvm.RoadKit.Arr Z h b c ty ∧ c.slots = vs.toArray
section OwnArrays
variable {Z : State} {h h' : Heap} {a b : Addr} {ty : FieldType} {vs ws : List Value} {v : Value} {sl : Nat} {as : List Addr}
theorem OwnA.lt (F : OwnA Z h b ty vs) : b < h.size := by obtain ⟨c, A, -⟩ := F; exact A.lt
theorem OwnA.ext (F : OwnA Z h b ty vs) (E : Ext h h') : OwnA Z h' b ty vs := by obtain ⟨c, A, r⟩ := F; exact ⟨c, A.ext E, r⟩
theorem OwnA.other (F : OwnA Z h b ty vs) (W : Wr h h' a sl v) (q : b ≠ a) : OwnA Z h' b ty vs := by obtain ⟨c, A, r⟩ := F; exact ⟨c, A.other W q, r⟩
theorem OwnA.keep (F : OwnA Z h b ty vs) (K : Keep h h' as) (q : b ∉ as) : OwnA Z h' b ty vs := by obtain ⟨c, A, r⟩ := F; exact ⟨c, ⟨K.2.1 _ _ A.1 q, A.2⟩, r⟩
theorem OwnA.same (F : OwnA Z h a ty vs) (W : Wr h h' a sl v) : OwnA Z h' a ty (vs.set sl v) := by
  obtain ⟨c, A, r⟩ := F
  refine ⟨_, A.same W, ?_⟩
  show c.slots.setIfInBounds sl v = _
  rw [r]; simp
theorem OwnA.plain (F : OwnA Z h a ty vs) : ∀ cell : Cell, h[a]? = some cell → cell.vm.isStatics = false := fun cell hc => by
  obtain ⟨c, A, r⟩ := F
  cases hc.symm.trans A.1
  exact A.plain
variable {p : Program} {l : Launch} {e : Env} {R : Room} {s : State} {m : MethodId} {args : Array Value} {below : List Frame} {meth : Method} {c : Code} {T : State} {locs : List Loc} {cells slots : Nat} {a0 : Array Value}
theorem own_hin {c : Cell} {vs : List Value} {j : Int32} (hs : c.slots = vs.toArray) (h0 : ¬ j < 0) (h1 : j.toNatClampNeg < vs.length) : ¬ (j < 0 ∨ c.slots.size ≤ j.toNatClampNeg) := by
  rw [hs]; simp only [List.size_toArray]; intro q; rcases q with q | q
  · exact h0 q
  · omega
theorem own_alen (X : Stand p l e R s m args below meth c T locs cells slots) (hx : p.tables.exec = Jvm.exec) (hZ : Z.Warmed39 s.vm) (eT : T.heap = h) (A : OwnA Z h a ty vs) {n : Int32} (hn : n = Int32.ofNat vs.length)
    {g : JFrame} (hg : g.method = m) {rest : List Value} (hs : g.stack = .ref a :: rest) (hd : decode c.code g.pc = .ok (.arraylength, 1)) :
    ∀ t, Steps p.tables e below (T.setTop { g with pc := g.pc + 1, stack := .int n :: rest }) t → Steps p.tables e below (T.setTop g) t := fun t k => by
  obtain ⟨c, A, r⟩ := A
  refine X.arraylength hx (by rw [eT]; exact A.1) (State.isArrayOf_alike hZ.alike A.2.1) hg hs hd t ?_
  have q : c.slots.size.toInt32 = n := by rw [r, hn, List.size_toArray]
  rw [q]; exact k
theorem own_iald (X : Stand p l e R s m args below meth c T locs cells slots) (hx : p.tables.exec = Jvm.exec) (hZ : Z.Warmed39 s.vm) (eT : T.heap = h) (A : OwnA Z h a .int vs) {j : Int32} {v : Value} (h0 : ¬ j < 0) (hv : vs[j.toNatClampNeg]? = some v)
    {g : JFrame} (hg : g.method = m) {rest : List Value} (hs : g.stack = .int j :: .ref a :: rest) (hd : decode c.code g.pc = .ok (.iaload, 1)) :
    ∀ t, Steps p.tables e below (T.setTop { g with pc := g.pc + 1, stack := v :: rest }) t → Steps p.tables e below (T.setTop g) t := fun t k => by
  obtain ⟨c, A, r⟩ := A
  exact X.iaload hx (by rw [eT]; exact A.1) (State.isArrayOf_alike hZ.alike A.2.1) A.2.2 (own_hin r h0 (List.getElem?_eq_some_iff.mp hv).1) (by rw [r]; simpa using hv) hg hs hd t k
theorem own_lald (X : Stand p l e R s m args below meth c T locs cells slots) (hx : p.tables.exec = Jvm.exec) (hZ : Z.Warmed39 s.vm) (eT : T.heap = h) (A : OwnA Z h a .long vs) {j : Int32} {v : Value} (h0 : ¬ j < 0) (hv : vs[j.toNatClampNeg]? = some v)
    {g : JFrame} (hg : g.method = m) {rest : List Value} (hs : g.stack = .int j :: .ref a :: rest) (hd : decode c.code g.pc = .ok (.laload, 1)) :
    ∀ t, Steps p.tables e below (T.setTop { g with pc := g.pc + 1, stack := v :: rest }) t → Steps p.tables e below (T.setTop g) t := fun t k => by
  obtain ⟨c, A, r⟩ := A
  exact X.laload hx (by rw [eT]; exact A.1) (State.isArrayOf_alike hZ.alike A.2.1) A.2.2 (own_hin r h0 (List.getElem?_eq_some_iff.mp hv).1) (by rw [r]; simpa using hv) hg hs hd t k
theorem own_ist (X : Stand p l e R s m args below meth c T locs cells slots) (hx : p.tables.exec = Jvm.exec) (hZ : Z.Warmed39 s.vm) (eT : T.heap = h) (A : OwnA Z h a .int vs) {j x : Int32} (h0 : ¬ j < 0) (h1 : j.toNatClampNeg < vs.length)
    {g : JFrame} (hg : g.method = m) {rest : List Value} (hs : g.stack = .int x :: .int j :: .ref a :: rest) (hd : decode c.code g.pc = .ok (.iastore, 1)) :
    ∃ T' h', Stand p l e R s m args below meth c T' (locs ++ [⟨a, j.toNatClampNeg⟩]) cells slots ∧ T'.heap = h' ∧ Wr h h' a j.toNatClampNeg (.int x) ∧ OwnA Z h' a .int (vs.set j.toNatClampNeg (.int x)) ∧
      ∀ t, Steps p.tables e below (T'.setTop { g with pc := g.pc + 1, stack := rest }) t → Steps p.tables e below (T.setTop g) t := by
  have F := A
  obtain ⟨c, A, r⟩ := A
  obtain ⟨T', h', X', e', W, st⟩ := stI X hx hZ eT A (own_hin r h0 h1) hg hs hd
  exact ⟨T', h', X', e', W, F.same W, st⟩
theorem own_jst (X : Stand p l e R s m args below meth c T locs cells slots) (hx : p.tables.exec = Jvm.exec) (hZ : Z.Warmed39 s.vm) (eT : T.heap = h) (A : OwnA Z h a .long vs) {j : Int32} {x : Int64} (h0 : ¬ j < 0) (h1 : j.toNatClampNeg < vs.length)
    {g : JFrame} (hg : g.method = m) {rest : List Value} (hs : g.stack = .long x :: .int j :: .ref a :: rest) (hd : decode c.code g.pc = .ok (.lastore, 1)) :
    ∃ T' h', Stand p l e R s m args below meth c T' (locs ++ [⟨a, j.toNatClampNeg⟩]) cells slots ∧ T'.heap = h' ∧ Wr h h' a j.toNatClampNeg (.long x) ∧ OwnA Z h' a .long (vs.set j.toNatClampNeg (.long x)) ∧
      ∀ t, Steps p.tables e below (T'.setTop { g with pc := g.pc + 1, stack := rest }) t → Steps p.tables e below (T.setTop g) t := by
  have F := A
  obtain ⟨c, A, r⟩ := A
  obtain ⟨T', h', X', e', W, st⟩ := stJ X hx hZ eT A (own_hin r h0 h1) hg hs hd
  exact ⟨T', h', X', e', W, F.same W, st⟩
theorem own_dald (X : Stand p l e R s m args below meth c T locs cells slots) (hx : p.tables.exec = Jvm.exec) (hZ : Z.Warmed39 s.vm) (eT : T.heap = h) (A : OwnA Z h a .double vs) {j : Int32} {v : Value} (h0 : ¬ j < 0) (hv : vs[j.toNatClampNeg]? = some v)
    {g : JFrame} (hg : g.method = m) {rest : List Value} (hs : g.stack = .int j :: .ref a :: rest) (hd : decode c.code g.pc = .ok (.daload, 1)) :
    ∀ t, Steps p.tables e below (T.setTop { g with pc := g.pc + 1, stack := v :: rest }) t → Steps p.tables e below (T.setTop g) t := fun t k => by
  obtain ⟨c, A, r⟩ := A
  exact X.daload hx (by rw [eT]; exact A.1) (State.isArrayOf_alike hZ.alike A.2.1) A.2.2 (own_hin r h0 (List.getElem?_eq_some_iff.mp hv).1) (by rw [r]; simpa using hv) hg hs hd t k
theorem own_dst (X : Stand p l e R s m args below meth c T locs cells slots) (hx : p.tables.exec = Jvm.exec) (hZ : Z.Warmed39 s.vm) (eT : T.heap = h) (A : OwnA Z h a .double vs) {j : Int32} {x : UInt64} (h0 : ¬ j < 0) (h1 : j.toNatClampNeg < vs.length)
    {g : JFrame} (hg : g.method = m) {rest : List Value} (hs : g.stack = .double x :: .int j :: .ref a :: rest) (hd : decode c.code g.pc = .ok (.dastore, 1)) :
    ∃ T' h', Stand p l e R s m args below meth c T' (locs ++ [⟨a, j.toNatClampNeg⟩]) cells slots ∧ T'.heap = h' ∧ Wr h h' a j.toNatClampNeg (.double x) ∧ OwnA Z h' a .double (vs.set j.toNatClampNeg (.double x)) ∧
      ∀ t, Steps p.tables e below (T'.setTop { g with pc := g.pc + 1, stack := rest }) t → Steps p.tables e below (T.setTop g) t := by
  have F := A
  obtain ⟨c, A, r⟩ := A
  obtain ⟨T', h', X', e', W, st⟩ := stD X hx hZ eT A (own_hin r h0 h1) hg hs hd
  exact ⟨T', h', X', e', W, F.same W, st⟩
theorem own_newa (X : Stand p l e R s m args below meth c T locs cells slots) (hx : p.tables.exec = Jvm.exec) (hZ : Z.Warmed39 s.vm) {aty : ArrayType} (w : (Jvm.Cond.arrayClass (newarray.typeOf aty)).before a0 Z = true) (eT : T.heap = h) {g : JFrame} (hg : g.method = m) (hd : decode c.code g.pc = .ok (.newarray aty, 2)) {n : Int32} {rest : List Value} (hs : g.stack = .int n :: rest)
    (hn : ¬ n < 0) {cap : Nat} (hcap : n.toNatClampNeg ≤ cap) (hb : cap * 8 ≤ 536870912) (hc : cells + 1 ≤ R.cells) (hl : slots + cap ≤ R.slots) :
    ∃ T' h', Stand p l e R s m args below meth c T' locs (cells + 1) (slots + cap) ∧ T'.heap = h' ∧ Ext h h' ∧ OwnA Z h' h.size (newarray.typeOf aty) (List.replicate n.toNatClampNeg (defaultValue (newarray.typeOf aty))) ∧
      ∀ t, Steps p.tables e below (T'.setTop { g with pc := g.pc + 2, stack := .ref h.size :: rest }) t → Steps p.tables e below (T.setTop g) t := by
  obtain ⟨T', h', cA, X', e', E, A, st⟩ := newP X hx hZ w eT hg hd hs hn hcap hb hc hl
  exact ⟨T', h', X', e', E, ⟨_, A, by simp [newA]⟩, st⟩
/-- System.arraycopy from place 0 to place 0 of another array of the same plain kind -/
theorem own_acopy (X : Stand p l e R s m args below meth c T locs cells slots) (hx : p.tables.exec = Jvm.exec) (hZ : Z.Warmed39 s.vm) {own : String} {index : Nat} (hown : s.vm.findClass own = some m.cls) (hwz : ∀ w ∈ XT.acW own index, w.before args s = true)
    (eT : T.heap = h) (A : OwnA Z h a ty vs) (B : OwnA Z h b ty ws) (hty : refKind ty = false) (href : ty.isReference = false) (hfit : ∀ x ∈ vs, fits ty x = true) (h1 : vs.length < 2 ^ 31) (h2 : ws.length < 2 ^ 31) {n : Nat} {jn : Int32} (hjn : jn = Int32.ofNat n) (hn1 : n ≤ vs.length) (hn2 : n ≤ ws.length)
    {g : JFrame} (hg : g.method = m) (hsize : g.locals.size = c.maxLocals) {rest : List Value} (hs : g.stack = .int jn :: .int 0 :: .ref b :: .int 0 :: .ref a :: rest) (hd : decode c.code g.pc = .ok (.invokestatic index, 3))
    {W : Nat} (hW : 2 * g.monitorRoom + (rest.map fun v => v.category).sum ≤ W) (hfr : 1 ≤ R.frames) (hlo : W + 40 ≤ R.locals) :
    ∃ T' h', Stand p l e R s m args below meth c T' (locs ++ copyLocs b 0 n) cells slots ∧ T'.heap = h' ∧ Keep h h' [b] ∧ OwnA Z h' b ty (vs.take n ++ ws.drop n) ∧
      ∀ t, Steps p.tables e below (T'.setTop { g with pc := g.pc + 3, stack := rest }) t → Steps p.tables e below (T.setTop g) t := by
  obtain ⟨cA, A, rA⟩ := A
  obtain ⟨cB, B, rB⟩ := B
  have hU : Z.Warmed39 T.vm := wtrans hZ X.warmed
  have A' : XT.Arr ty a cA T := ⟨by rw [eT]; exact A.1, State.isArrayOf_alike hU.alike A.2.1, A.2.2, by rw [rA]; simpa using h1⟩
  have B' : XT.Arr ty b cB T := ⟨by rw [eT]; exact B.1, State.isArrayOf_alike hU.alike B.2.1, B.2.2, by rw [rB]; simpa using h2⟩
  obtain ⟨T', B1, X', P, c1, c2, c3, c4, st⟩ := X.acopy hx hown hwz A' B' (by simp [hty]) (o := 0) (q := 0) (n := n) (jo := 0) (jq := 0) rfl rfl hjn (by rw [rA]; simpa using hn1) (by rw [rB]; simpa using hn2)
    (fun i hi => ⟨hfit _ (by
      rw [rA, Array.getD_eq_getD_getElem?]
      have hi' : 0 + i < vs.length := by omega
      simp only [List.getElem?_toArray, List.getElem?_eq_getElem hi', Option.getD_some]
      exact List.getElem_mem hi'), fun q => by rw [href] at q; cases q⟩) hg hsize hs hd hW hfr hlo
  refine ⟨T', _, X', rfl, ⟨?_, fun x cx hx hne => ?_, fun x cx hx => ?_⟩, ⟨B1, ⟨P.1, ?_, by rw [c2]; exact B.2.2⟩, ?_⟩, st⟩
  · rw [P.2.2, eT]; exact Nat.le_refl _
  · rw [P.2.1 x (fun q => hne (by rw [q]; exact List.mem_singleton.mpr rfl)), eT]; exact hx
  · by_cases q : x = b
    · subst q
      cases hx.symm.trans B.1
      exact ⟨B1, P.1, c1, c2, c3⟩
    · exact ⟨cx, by rw [P.2.1 x q, eT]; exact hx, rfl, rfl, rfl⟩
  · obtain ⟨q1, k, q2, q3⟩ := B.2.1
    exact ⟨by rw [c2]; exact q1, k, by rw [c1]; exact q2, q3⟩
  · apply Array.ext_getElem?
    intro j
    rw [c4 j]
    rw [rA, rB, Array.getD_eq_getD_getElem?]
    simp only [List.getElem?_toArray]
    by_cases q : j < n
    · have q2 : j < vs.length := by omega
      rw [if_pos ⟨Nat.zero_le _, by omega⟩, List.getElem?_append_left (by rw [List.length_take]; omega), List.getElem?_take_of_lt q]
      simp [List.getElem?_eq_getElem q2]
    · rw [if_neg (by omega), List.getElem?_append_right (by rw [List.length_take]; omega), List.getElem?_drop, List.length_take]
      congr 1
      omega
theorem own_frcopy {n0 : Nat} {locs : List Loc} (N : Fr n0 locs) {b : Addr} (hb : n0 ≤ b) (k : Nat) : Fr n0 (locs ++ copyLocs b 0 k) := Fr.app N (fun y hy => by
  simp only [copyLocs, List.mem_map] at hy
  obtain ⟨i, -, rfl⟩ := hy
  exact hb)
end OwnArrays


section Num
def own_w (ws : Int64) (i : Int32) : Int32 := (((ws.toUInt64 >>> (((5 : Int32) * i) &&& 0x3f).toInt64.toUInt64).toInt64) &&& (31 : Int64)).toInt32 - (16 : Int32)
def own_x (vec : Int64) (c : Int32) : Int32 := (((vec.toUInt64 >>> (((16 : Int32) * c) &&& 0x3f).toInt64.toUInt64).toInt64) &&& (65535 : Int64)).toInt32 - (32768 : Int32)
def own_i (r c : Int32) : Int32 := (4 : Int32) * r + c
def own_bit (sh : Int32) (i : Int32) : Int32 := ((sh.toUInt32 >>> (i &&& 31).toUInt32).toInt32) &&& (1 : Int32)
def own_term (sh : Int32) (ws vec : Int64) (r c : Int32) : Int64 := if own_bit sh (own_i r c) = 0 then 0 else (own_w ws (own_i r c)).toInt64 * (own_x vec c).toInt64
theorem own_wb (ws : Int64) (i : Int32) : -16 ≤ (own_w ws i).toInt ∧ (own_w ws i).toInt ≤ 15 := by
  unfold own_w
  generalize (ws.toUInt64 >>> (((5 : Int32) * i) &&& 0x3f).toInt64.toUInt64).toInt64 = y
  have h1 := c_maskL y 31 5 (by decide) (by decide)
  have h2 := c_l2i (y &&& 31)
  have h3 := rng32 (y &&& 31).toInt32
  have h4 := c_isub (y &&& 31).toInt32 16
  have h5 := rng32 ((y &&& 31).toInt32 - 16)
  have e : (16 : Int32).toInt = 16 := rfl
  omega
theorem own_xb (vec : Int64) (c : Int32) : -32768 ≤ (own_x vec c).toInt ∧ (own_x vec c).toInt ≤ 32767 := by
  unfold own_x
  generalize (vec.toUInt64 >>> (((16 : Int32) * c) &&& 0x3f).toInt64.toUInt64).toInt64 = y
  have h1 := c_maskL y 65535 16 (by decide) (by decide)
  have h2 := c_l2i (y &&& 65535)
  have h3 := rng32 (y &&& 65535).toInt32
  have h4 := c_isub (y &&& 65535).toInt32 32768
  have h5 := rng32 ((y &&& 65535).toInt32 - 32768)
  have e : (32768 : Int32).toInt = 32768 := rfl
  omega
abbrev OwnE := List (Int32 × Int32)
def own_cols (es : OwnE) : List Value := es.map (fun e => Value.int e.1) ++ List.replicate (12 - es.length) (.int (0 : Int32))
def own_vals (es : OwnE) : List Value := es.map (fun e => Value.double (Jvm.FP.i2d e.2)) ++ List.replicate (12 - es.length) (.double (0 : UInt64))
def own_add (es : OwnE) (sh : Int32) (ws : Int64) (r c : Int32) : OwnE := if own_bit sh (own_i r c) = 0 then es else es ++ [(c, own_w ws (own_i r c))]
theorem own_clen {es : OwnE} (h : es.length ≤ 12) : (own_cols es).length = 12 := by simp [own_cols]; omega
theorem own_vlen {es : OwnE} (h : es.length ≤ 12) : (own_vals es).length = 12 := by simp [own_vals]; omega
theorem own_setG {α : Type} {xs : List α} {d y : α} {n : Nat} (h : xs.length < n) : (xs ++ List.replicate (n - xs.length) d).set xs.length y = (xs ++ [y]) ++ List.replicate (n - (xs.length + 1)) d := by
  rw [List.set_append_right _ _ (Nat.le_refl _), Nat.sub_self, show n - xs.length = (n - (xs.length + 1)) + 1 by omega, List.replicate_succ, List.set_cons_zero, List.append_assoc]; rfl
theorem own_cset {es : OwnE} (h : es.length < 12) (c w : Int32) : (own_cols es).set es.length (.int c) = own_cols (es ++ [(c, w)]) := by
  have q := own_setG (xs := es.map (fun e => Value.int e.1)) (d := Value.int 0) (y := Value.int c) (n := 12) (by simpa using h)
  simp only [List.length_map] at q
  unfold own_cols; rw [q]; simp
theorem own_vset {es : OwnE} (h : es.length < 12) (c w : Int32) : (own_vals es).set es.length (.double (Jvm.FP.i2d w)) = own_vals (es ++ [(c, w)]) := by
  have q := own_setG (xs := es.map (fun e => Value.double (Jvm.FP.i2d e.2))) (d := Value.double 0) (y := Value.double (Jvm.FP.i2d w)) (n := 12) (by simpa using h)
  simp only [List.length_map] at q
  unfold own_vals; rw [q]; simp
theorem own_addlen (es : OwnE) (sh : Int32) (ws : Int64) (r c : Int32) : (own_add es sh ws r c).length ≤ es.length + 1 := by
  unfold own_add; split <;> simp
theorem own_addapp (es fs : OwnE) (sh : Int32) (ws : Int64) (r c : Int32) : own_add (es ++ fs) sh ws r c = es ++ own_add fs sh ws r c := by
  unfold own_add; split <;> simp
def own_row (es : OwnE) (sh : Int32) (ws : Int64) (r : Int32) : OwnE := own_add (own_add (own_add (own_add es sh ws r 0) sh ws r 1) sh ws r 2) sh ws r 3
theorem own_rowapp (es : OwnE) (sh : Int32) (ws : Int64) (r : Int32) : own_row es sh ws r = es ++ own_row [] sh ws r := by
  have q : ∀ e : OwnE, own_add e sh ws r 0 = e ++ own_add [] sh ws r 0 := fun e => by have := own_addapp e [] sh ws r 0; rwa [List.append_nil] at this
  unfold own_row
  rw [q es, own_addapp, own_addapp, own_addapp]
/-- what the entries of a row give with the vector -/
def own_sum (vec : Int64) (es : OwnE) : Int := (es.map (fun e => e.2.toInt * (own_x vec e.1).toInt)).foldr (· + ·) 0
theorem own_sumapp (vec : Int64) (es fs : OwnE) : own_sum vec (es ++ fs) = own_sum vec es + own_sum vec fs := by
  unfold own_sum
  induction es with
  | nil => simp
  | cons a t ih => simp only [List.cons_append, List.map_cons, List.foldr_cons]; rw [ih]; omega
def OwnOk (es : OwnE) : Prop := ∀ e ∈ es, (e.1 = 0 ∨ e.1 = 1 ∨ e.1 = 2 ∨ e.1 = 3) ∧ -16 ≤ e.2.toInt ∧ e.2.toInt ≤ 15
theorem own_okadd {es : OwnE} {sh : Int32} {ws : Int64} {r c : Int32} (h : OwnOk es) (hc : c = 0 ∨ c = 1 ∨ c = 2 ∨ c = 3) : OwnOk (own_add es sh ws r c) := by
  unfold own_add
  split
  · exact h
  · intro e he
    rcases List.mem_append.mp he with he | he
    · exact h e he
    · cases List.mem_singleton.mp he
      exact ⟨hc, own_wb _ _⟩
theorem own_okrow {es : OwnE} {sh : Int32} {ws : Int64} {r : Int32} (h : OwnOk es) : OwnOk (own_row es sh ws r) := own_okadd (own_okadd (own_okadd (own_okadd h (by simp)) (by simp)) (by simp)) (by simp)
theorem own_sumadd (es : OwnE) (sh : Int32) (ws vec : Int64) (r c : Int32) : own_sum vec (own_add es sh ws r c) = own_sum vec es + (own_term sh ws vec r c).toInt := by
  unfold own_add own_term
  split
  · simp
  · rw [own_sumapp]
    congr 1
    have h1 := own_wb ws (own_i r c)
    have h2 := own_xb vec c
    show (own_w ws (own_i r c)).toInt * (own_x vec c).toInt + 0 = _
    have h3 := c_lmul (own_w ws (own_i r c)).toInt64 (own_x vec c).toInt64
    rw [Int32.toInt_toInt64, Int32.toInt_toInt64] at h3
    have h4 := rng64 ((own_w ws (own_i r c)).toInt64 * (own_x vec c).toInt64)
    have h5 := mc h1.1 h1.2 h2.1 h2.2
    generalize (own_w ws (own_i r c)).toInt * (own_x vec c).toInt = z at *
    omega
theorem own_termb (sh : Int32) (ws vec : Int64) (r c : Int32) : -1000000 ≤ (own_term sh ws vec r c).toInt ∧ (own_term sh ws vec r c).toInt ≤ 1000000 := by
  have h := own_sumadd [] sh ws vec r c
  have h1 := own_wb ws (own_i r c)
  have h2 := own_xb vec c
  have h5 := mc h1.1 h1.2 h2.1 h2.2
  unfold own_add at h
  split at h
  · simp [own_sum] at h; omega
  · have e : own_sum vec ([] ++ [(c, own_w ws (own_i r c))]) = (own_w ws (own_i r c)).toInt * (own_x vec c).toInt + 0 := rfl
    rw [e] at h
    have e0 : own_sum vec [] = 0 := rfl
    rw [e0] at h
    generalize (own_w ws (own_i r c)).toInt * (own_x vec c).toInt = z at *
    omega
theorem own_ref (sh : Int32) (ws vec : Int64) (r : Int32) : (own_term sh ws vec r 0 + own_term sh ws vec r 1 + own_term sh ws vec r 2 + own_term sh ws vec r 3).toInt = own_sum vec (own_row [] sh ws r) := by
  unfold own_row
  rw [own_sumadd, own_sumadd, own_sumadd, own_sumadd]
  have b0 := own_termb sh ws vec r 0
  have b1 := own_termb sh ws vec r 1
  have b2 := own_termb sh ws vec r 2
  have b3 := own_termb sh ws vec r 3
  generalize own_term sh ws vec r 0 = t0 at *
  generalize own_term sh ws vec r 1 = t1 at *
  generalize own_term sh ws vec r 2 = t2 at *
  generalize own_term sh ws vec r 3 = t3 at *
  have h1 := c_ladd t0 t1
  have h2 := c_ladd (t0 + t1) t2
  have h3 := c_ladd (t0 + t1 + t2) t3
  have r1 := rng64 (t0 + t1)
  have r2 := rng64 (t0 + t1 + t2)
  have r3 := rng64 (t0 + t1 + t2 + t3)
  have e0 : own_sum vec [] = 0 := rfl
  omega
theorem own_sumb (vec : Int64) (es : OwnE) (h : OwnOk es) : -(600000 * (es.length : Int)) ≤ own_sum vec es ∧ own_sum vec es ≤ 600000 * (es.length : Int) := by
  induction es with
  | nil => exact ⟨by simp [own_sum], by simp [own_sum]⟩
  | cons a t ih =>
    have h1 := ih (fun e he => h e (List.mem_cons_of_mem _ he))
    obtain ⟨-, w1, w2⟩ := h a (List.mem_cons_self ..)
    have h2 := own_xb vec a.1
    have h5 := mc w1 w2 h2.1 h2.2
    show -(600000 * ((t.length + 1 : Nat) : Int)) ≤ a.2.toInt * (own_x vec a.1).toInt + own_sum vec t ∧ a.2.toInt * (own_x vec a.1).toInt + own_sum vec t ≤ _
    have e : ((t.length + 1 : Nat) : Int) = t.length + 1 := by omega
    simp only [List.length_cons]
    rw [e]
    generalize a.2.toInt * (own_x vec a.1).toInt = z at *
    omega
end Num
def own_vec (vec : Int64) : List Value := [.double (Jvm.FP.i2d (own_x vec 0)), .double (Jvm.FP.i2d (own_x vec 1)), .double (Jvm.FP.i2d (own_x vec 2)), .double (Jvm.FP.i2d (own_x vec 3))]
theorem own_nn {i : Int} {a : UInt64} (h : Jvm.FP.Core.DInt i a) : Jvm.Free.Fl.NoNaN64 a := Jvm.Free.Fl.val64_no.mpr (Jvm.FP.Core.Whole.ne_nan h)
/-- one entry more -/
theorem own_step {vec : Int64} {es : OwnE} {i : Nat} {e : Int32 × Int32} {s : UInt64} {S : Int} (ok : OwnOk es) (he : es[i]? = some e) (hS : Jvm.FP.Core.DInt S s) (hb : -100000000 ≤ S ∧ S ≤ 100000000) :
    Jvm.FP.Core.DInt (e.2.toInt * (own_x vec e.1).toInt) (Jvm.FP.dmul (Jvm.FP.i2d e.2) (Jvm.FP.i2d (own_x vec e.1))) ∧ Jvm.FP.Core.DInt (S + e.2.toInt * (own_x vec e.1).toInt) (Jvm.FP.dadd s (Jvm.FP.dmul (Jvm.FP.i2d e.2) (Jvm.FP.i2d (own_x vec e.1)))) := by
  obtain ⟨-, w1, w2⟩ := ok e (List.mem_of_getElem? he)
  have h2 := own_xb vec e.1
  have h5 := mc w1 w2 h2.1 h2.2
  have p53 : (2 : Nat) ^ 53 = 9007199254740992 := by decide
  have d1 : Jvm.FP.Core.DInt (e.2.toInt * (own_x vec e.1).toInt) (Jvm.FP.dmul (Jvm.FP.i2d e.2) (Jvm.FP.i2d (own_x vec e.1))) := Jvm.FP.Core.dmul_int (Jvm.FP.Core.i2d_int _) (Jvm.FP.Core.i2d_int _) (by rw [p53]; generalize e.2.toInt * (own_x vec e.1).toInt = z at *; omega)
  exact ⟨d1, Jvm.FP.Core.dadd_int hS d1 (by rw [p53]; generalize e.2.toInt * (own_x vec e.1).toInt = z at *; omega)⟩
theorem own_vecat {vec : Int64} {es : OwnE} {i : Nat} {e : Int32 × Int32} (ok : OwnOk es) (he : es[i]? = some e) : ¬ e.1 < 0 ∧ (own_vec vec)[e.1.toNatClampNeg]? = some (.double (Jvm.FP.i2d (own_x vec e.1))) := by
  obtain ⟨hc, -⟩ := ok e (List.mem_of_getElem? he)
  rcases hc with h | h | h | h <;> rw [h] <;> exact ⟨by decide, rfl⟩
theorem own_colat {es : OwnE} {i : Nat} {e : Int32 × Int32} (he : es[i]? = some e) (hi : i < 2 ^ 31) : (own_cols es)[(Int32.ofNat i).toNatClampNeg]? = some (.int e.1) := by
  have hl := (List.getElem?_eq_some_iff.mp he).1
  rw [XT.n32 hi]; unfold own_cols
  rw [List.getElem?_append_left (by simpa using hl)]; simp [he]
theorem own_valat {es : OwnE} {i : Nat} {e : Int32 × Int32} (he : es[i]? = some e) (hi : i < 2 ^ 31) : (own_vals es)[(Int32.ofNat i).toNatClampNeg]? = some (.double (Jvm.FP.i2d e.2)) := by
  have hl := (List.getElem?_eq_some_iff.mp he).1
  rw [XT.n32 hi]; unfold own_vals
  rw [List.getElem?_append_left (by simpa using hl)]; simp [he]

theorem d1_0 : decode method_3_code 0 = .ok (.iconst 4, 1) := by decide +kernel
theorem d1_1 : decode method_3_code 1 = .ok (.iload 6, 2) := by decide +kernel
theorem d1_3 : decode method_3_code 3 = .ok (.imul, 1) := by decide +kernel
theorem d1_4 : decode method_3_code 4 = .ok (.iload 7, 2) := by decide +kernel
theorem d1_6 : decode method_3_code 6 = .ok (.iadd, 1) := by decide +kernel
theorem d1_7 : decode method_3_code 7 = .ok (.istore 8, 2) := by decide +kernel
theorem d1_9 : decode method_3_code 9 = .ok (.iload_n 3, 1) := by decide +kernel
theorem d1_10 : decode method_3_code 10 = .ok (.iload 8, 2) := by decide +kernel
theorem d1_12 : decode method_3_code 12 = .ok (.iushr, 1) := by decide +kernel
theorem d1_13 : decode method_3_code 13 = .ok (.iconst 1, 1) := by decide +kernel
theorem d1_14 : decode method_3_code 14 = .ok (.iand, 1) := by decide +kernel
theorem d1_15 : decode method_3_code 15 = .ok (.ifCond .ne 5, 3) := by decide +kernel
theorem d1_18 : decode method_3_code 18 = .ok (.iload_n 2, 1) := by decide +kernel
theorem d1_19 : decode method_3_code 19 = .ok (.ireturn, 1) := by decide +kernel
theorem d1_20 : decode method_3_code 20 = .ok (.aload_n 0, 1) := by decide +kernel
theorem d1_21 : decode method_3_code 21 = .ok (.iload_n 2, 1) := by decide +kernel
theorem d1_22 : decode method_3_code 22 = .ok (.iload 7, 2) := by decide +kernel
theorem d1_24 : decode method_3_code 24 = .ok (.iastore, 1) := by decide +kernel
theorem d1_25 : decode method_3_code 25 = .ok (.aload_n 1, 1) := by decide +kernel
theorem d1_26 : decode method_3_code 26 = .ok (.iload_n 2, 1) := by decide +kernel
theorem d1_27 : decode method_3_code 27 = .ok (.lload 4, 2) := by decide +kernel
theorem d1_29 : decode method_3_code 29 = .ok (.iload 8, 2) := by decide +kernel
theorem d1_31 : decode method_3_code 31 = .ok (.invokestatic 30, 3) := by decide +kernel
theorem d1_34 : decode method_3_code 34 = .ok (.i2d, 1) := by decide +kernel
theorem d1_35 : decode method_3_code 35 = .ok (.dastore, 1) := by decide +kernel
theorem d1_36 : decode method_3_code 36 = .ok (.iload_n 2, 1) := by decide +kernel
theorem d1_37 : decode method_3_code 37 = .ok (.iconst 1, 1) := by decide +kernel
theorem d1_38 : decode method_3_code 38 = .ok (.iadd, 1) := by decide +kernel
theorem d1_39 : decode method_3_code 39 = .ok (.ireturn, 1) := by decide +kernel
theorem d2_0 : decode method_5_code 0 = .ok (.lload_n 0, 1) := by decide +kernel
theorem d2_1 : decode method_5_code 1 = .ok (.bipush 16, 2) := by decide +kernel
theorem d2_3 : decode method_5_code 3 = .ok (.iload_n 2, 1) := by decide +kernel
theorem d2_4 : decode method_5_code 4 = .ok (.imul, 1) := by decide +kernel
theorem d2_5 : decode method_5_code 5 = .ok (.lushr, 1) := by decide +kernel
theorem d2_6 : decode method_5_code 6 = .ok (.ldc2_w 35, 3) := by decide +kernel
theorem d2_9 : decode method_5_code 9 = .ok (.land, 1) := by decide +kernel
theorem d2_10 : decode method_5_code 10 = .ok (.l2i, 1) := by decide +kernel
theorem d2_11 : decode method_5_code 11 = .ok (.ldc 37, 2) := by decide +kernel
theorem d2_13 : decode method_5_code 13 = .ok (.isub, 1) := by decide +kernel
theorem d2_14 : decode method_5_code 14 = .ok (.ireturn, 1) := by decide +kernel
theorem d3_0 : decode prog_68_method_1_code 0 = .ok (.aload_n 0, 1) := by decide +kernel
theorem d3_1 : decode prog_68_method_1_code 1 = .ok (.invokespecial 1, 3) := by decide +kernel
theorem d3_4 : decode prog_68_method_1_code 4 = .ok (.aload_n 0, 1) := by decide +kernel
theorem d3_5 : decode prog_68_method_1_code 5 = .ok (.aload_n 1, 1) := by decide +kernel
theorem d3_6 : decode prog_68_method_1_code 6 = .ok (.putfield 7, 3) := by decide +kernel
theorem d3_9 : decode prog_68_method_1_code 9 = .ok (.aload_n 0, 1) := by decide +kernel
theorem d3_10 : decode prog_68_method_1_code 10 = .ok (.aload_n 2, 1) := by decide +kernel
theorem d3_11 : decode prog_68_method_1_code 11 = .ok (.putfield 13, 3) := by decide +kernel
theorem d3_14 : decode prog_68_method_1_code 14 = .ok (.aload_n 0, 1) := by decide +kernel
theorem d3_15 : decode prog_68_method_1_code 15 = .ok (.aload_n 3, 1) := by decide +kernel
theorem d3_16 : decode prog_68_method_1_code 16 = .ok (.putfield 16, 3) := by decide +kernel
theorem d3_19 : decode prog_68_method_1_code 19 = .ok (.return_, 1) := by decide +kernel
theorem d5_0 : decode prog_68_method_8_code 0 = .ok (.dconst 0, 1) := by decide +kernel
theorem d5_1 : decode prog_68_method_8_code 1 = .ok (.dstore_n 3, 1) := by decide +kernel
theorem d5_2 : decode prog_68_method_8_code 2 = .ok (.aload_n 0, 1) := by decide +kernel
theorem d5_3 : decode prog_68_method_8_code 3 = .ok (.getfield 7, 3) := by decide +kernel
theorem d5_6 : decode prog_68_method_8_code 6 = .ok (.iload_n 1, 1) := by decide +kernel
theorem d5_7 : decode prog_68_method_8_code 7 = .ok (.iaload, 1) := by decide +kernel
theorem d5_8 : decode prog_68_method_8_code 8 = .ok (.istore 5, 2) := by decide +kernel
theorem d5_10 : decode prog_68_method_8_code 10 = .ok (.iload 5, 2) := by decide +kernel
theorem d5_12 : decode prog_68_method_8_code 12 = .ok (.aload_n 0, 1) := by decide +kernel
theorem d5_13 : decode prog_68_method_8_code 13 = .ok (.getfield 7, 3) := by decide +kernel
theorem d5_16 : decode prog_68_method_8_code 16 = .ok (.iload_n 1, 1) := by decide +kernel
theorem d5_17 : decode prog_68_method_8_code 17 = .ok (.iconst 1, 1) := by decide +kernel
theorem d5_18 : decode prog_68_method_8_code 18 = .ok (.iadd, 1) := by decide +kernel
theorem d5_19 : decode prog_68_method_8_code 19 = .ok (.iaload, 1) := by decide +kernel
theorem d5_20 : decode prog_68_method_8_code 20 = .ok (.if_icmp .ge 29, 3) := by decide +kernel
theorem d5_23 : decode prog_68_method_8_code 23 = .ok (.dload_n 3, 1) := by decide +kernel
theorem d5_24 : decode prog_68_method_8_code 24 = .ok (.aload_n 0, 1) := by decide +kernel
theorem d5_25 : decode prog_68_method_8_code 25 = .ok (.getfield 16, 3) := by decide +kernel
theorem d5_28 : decode prog_68_method_8_code 28 = .ok (.iload 5, 2) := by decide +kernel
theorem d5_30 : decode prog_68_method_8_code 30 = .ok (.daload, 1) := by decide +kernel
theorem d5_31 : decode prog_68_method_8_code 31 = .ok (.aload_n 2, 1) := by decide +kernel
theorem d5_32 : decode prog_68_method_8_code 32 = .ok (.aload_n 0, 1) := by decide +kernel
theorem d5_33 : decode prog_68_method_8_code 33 = .ok (.getfield 13, 3) := by decide +kernel
theorem d5_36 : decode prog_68_method_8_code 36 = .ok (.iload 5, 2) := by decide +kernel
theorem d5_38 : decode prog_68_method_8_code 38 = .ok (.iaload, 1) := by decide +kernel
theorem d5_39 : decode prog_68_method_8_code 39 = .ok (.daload, 1) := by decide +kernel
theorem d5_40 : decode prog_68_method_8_code 40 = .ok (.dmul, 1) := by decide +kernel
theorem d5_41 : decode prog_68_method_8_code 41 = .ok (.dadd, 1) := by decide +kernel
theorem d5_42 : decode prog_68_method_8_code 42 = .ok (.dstore_n 3, 1) := by decide +kernel
theorem d5_43 : decode prog_68_method_8_code 43 = .ok (.iinc 5 1, 3) := by decide +kernel
theorem d5_46 : decode prog_68_method_8_code 46 = .ok (.goto (-36), 3) := by decide +kernel
theorem d5_49 : decode prog_68_method_8_code 49 = .ok (.dload_n 3, 1) := by decide +kernel
theorem d5_50 : decode prog_68_method_8_code 50 = .ok (.dreturn, 1) := by decide +kernel
theorem d6_0 : decode method_6_code 0 = .ok (.iconst 4, 1) := by decide +kernel
theorem d6_1 : decode method_6_code 1 = .ok (.iload 5, 2) := by decide +kernel
theorem d6_3 : decode method_6_code 3 = .ok (.imul, 1) := by decide +kernel
theorem d6_4 : decode method_6_code 4 = .ok (.iload 6, 2) := by decide +kernel
theorem d6_6 : decode method_6_code 6 = .ok (.iadd, 1) := by decide +kernel
theorem d6_7 : decode method_6_code 7 = .ok (.istore 7, 2) := by decide +kernel
theorem d6_9 : decode method_6_code 9 = .ok (.iload_n 0, 1) := by decide +kernel
theorem d6_10 : decode method_6_code 10 = .ok (.iload 7, 2) := by decide +kernel
theorem d6_12 : decode method_6_code 12 = .ok (.iushr, 1) := by decide +kernel
theorem d6_13 : decode method_6_code 13 = .ok (.iconst 1, 1) := by decide +kernel
theorem d6_14 : decode method_6_code 14 = .ok (.iand, 1) := by decide +kernel
theorem d6_15 : decode method_6_code 15 = .ok (.ifCond .ne 5, 3) := by decide +kernel
theorem d6_18 : decode method_6_code 18 = .ok (.lconst 0, 1) := by decide +kernel
theorem d6_19 : decode method_6_code 19 = .ok (.lreturn, 1) := by decide +kernel
theorem d6_20 : decode method_6_code 20 = .ok (.lload_n 1, 1) := by decide +kernel
theorem d6_21 : decode method_6_code 21 = .ok (.iload 7, 2) := by decide +kernel
theorem d6_23 : decode method_6_code 23 = .ok (.invokestatic 30, 3) := by decide +kernel
theorem d6_26 : decode method_6_code 26 = .ok (.i2l, 1) := by decide +kernel
theorem d6_27 : decode method_6_code 27 = .ok (.lload_n 3, 1) := by decide +kernel
theorem d6_28 : decode method_6_code 28 = .ok (.iload 6, 2) := by decide +kernel
theorem d6_30 : decode method_6_code 30 = .ok (.invokestatic 13, 3) := by decide +kernel
theorem d6_33 : decode method_6_code 33 = .ok (.i2l, 1) := by decide +kernel
theorem d6_34 : decode method_6_code 34 = .ok (.lmul, 1) := by decide +kernel
theorem d6_35 : decode method_6_code 35 = .ok (.lreturn, 1) := by decide +kernel
theorem d7_0 : decode method_4_code 0 = .ok (.lload_n 0, 1) := by decide +kernel
theorem d7_1 : decode method_4_code 1 = .ok (.iconst 5, 1) := by decide +kernel
theorem d7_2 : decode method_4_code 2 = .ok (.iload_n 2, 1) := by decide +kernel
theorem d7_3 : decode method_4_code 3 = .ok (.imul, 1) := by decide +kernel
theorem d7_4 : decode method_4_code 4 = .ok (.lushr, 1) := by decide +kernel
theorem d7_5 : decode method_4_code 5 = .ok (.ldc2_w 33, 3) := by decide +kernel
theorem d7_8 : decode method_4_code 8 = .ok (.land, 1) := by decide +kernel
theorem d7_9 : decode method_4_code 9 = .ok (.l2i, 1) := by decide +kernel
theorem d7_10 : decode method_4_code 10 = .ok (.bipush 16, 2) := by decide +kernel
theorem d7_12 : decode method_4_code 12 = .ok (.isub, 1) := by decide +kernel
theorem d7_13 : decode method_4_code 13 = .ok (.ireturn, 1) := by decide +kernel
def QW (r : Int32) (h0 : Heap) (n0 : Nat) (v : Option Value) (h : Heap) (L : List Loc) : Prop := v = some (.int r) ∧ Fr n0 L ∧ h = h0
set_option maxRecDepth 65536 in
set_option maxHeartbeats 40000000 in
theorem rmW (l : Launch) (Z : State) (a0 : Array Value) (hw : ∀ d ∈ tables_1, d.before a0 Z = true) (ws : List Jvm.Cond) (q : Int64) (i : Int32) (h0 : Heap) (n0 : Nat) (Z0 : n0 ≤ h0.size) :
    MetFree l (⟨"com/example/dual_bounds/dualbounds/numerics/SparseMatrixRowTimesPinLaw", "w", "(JI)I"⟩ : MethodName) (head1 (Jvm.Cond.code (⟨"com/example/dual_bounds/dualbounds/numerics/SparseMatrixRowTimesPinLaw", "w", "(JI)I"⟩ : MethodName) method_4_code 3 (some .int) :: ws) ({ frames := 0, cells := 0, slots := 0, locals := 0 } : Room)) (fun a U => a = #[(.long q), (.int i)] ∧ Z.Warmed39 U.vm ∧ U.heap = h0) (fun _ _ _ _ _ => True) (fun _ Uw_ ow_ Ue_ => ∃ vw_ Lw_, ow_ = .returned vw_ ∧ QW (own_w q i) h0 n0 vw_ Ue_.heap Lw_ ∧ FrameEnd Uw_ ow_ Ue_ Lw_ ({ frames := 0, cells := 0, slots := 0, locals := 0 } : Room).cells ({ frames := 0, cells := 0, slots := 0, locals := 0 } : Room).slots) := by
  refine MetFree.of_bodySF (plainFor_of_name (by first | (simp [plainName, overriddenIn]; done) | decide +kernel)) hisR ?_
  intro p e s m args below meth c s₁ Bd hml0 hP hK
  obtain ⟨rfl, hZ, hh⟩ := hP
  have hx := Bd.exec
  have hby := Bd.bytes
  have hml : c.maxLocals = 3 := hml0
  have hown : s.vm.findClass "com/example/dual_bounds/dualbounds/numerics/SparseMatrixRowTimesPinLaw" = some m.cls := findClass_of_methodNamed Bd.named
  have hnm := (name_of_methodNamed Bd.named Bd.method).1
  have X0 : Stand p l e ({ frames := 0, cells := 0, slots := 0, locals := 0 } : Room) s m #[(.long q), (.int i)] below meth c s₁ [] 0 0 := Stand.of_body Bd
  have e0 : s₁.heap = h0 := by rw [← hh, Bd.state]; rfl
  have N0 := Fr.nil n0
  have ef : entryFrame m #[(.long q), (.int i)] 3 = (mkF m 0 #[.val (.long q), .second, .val (.int i)] []) := by first | (simp [entryFrame, mkF, argsToLocals, Value.category]; done) | rfl
  show OwnGoes p e below (fun ow_ Ue_ => ∃ vw_ Lw_, ow_ = .returned vw_ ∧ QW (own_w q i) h0 n0 vw_ Ue_.heap Lw_ ∧ FrameEnd s ow_ Ue_ Lw_ ({ frames := 0, cells := 0, slots := 0, locals := 0 } : Room).cells ({ frames := 0, cells := 0, slots := 0, locals := 0 } : Room).slots) (s₁.setTop (entryFrame m #[(.long q), (.int i)] 3))
  refine own_pre (fun t k => castTop ef k) ?_
  show OwnGoes p e below _ (s₁.setTop (mkF m 0 #[.val (.long q), .second, .val (.int i)] []))
  refine own_pre (fun _ kz_ => XS.lloadN X0.here hx rfl (hb hby d7_0) rfl kz_) ?_
  show OwnGoes p e below _ (s₁.setTop (mkF m 1 #[.val (.long q), .second, .val (.int i)] [(.long q)]))
  refine own_pre (fun _ kz_ => XS.iconst X0.here hx rfl (hb hby d7_1) kz_) ?_
  show OwnGoes p e below _ (s₁.setTop (mkF m 2 #[.val (.long q), .second, .val (.int i)] [(.int (5 : Int32)), (.long q)]))
  refine own_pre (fun _ kz_ => XS.iloadN X0.here hx rfl (hb hby d7_2) rfl kz_) ?_
  show OwnGoes p e below _ (s₁.setTop (mkF m 3 #[.val (.long q), .second, .val (.int i)] [(.int i), (.int (5 : Int32)), (.long q)]))
  refine own_pre (fun _ kz_ => XS.imul X0.here hx rfl (hb hby d7_3) rfl kz_) ?_
  show OwnGoes p e below _ (s₁.setTop (mkF m 4 #[.val (.long q), .second, .val (.int i)] [(.int ((5 : Int32) * i)), (.long q)]))
  refine own_pre (fun _ kz_ => XS.lushr X0.here hx rfl (hb hby d7_4) rfl kz_) ?_
  show OwnGoes p e below _ (s₁.setTop (mkF m 5 #[.val (.long q), .second, .val (.int i)] [(.long ((q.toUInt64 >>> (((5 : Int32) * i) &&& 0x3f).toInt64.toUInt64).toInt64))]))
  refine own_pre (fun _ kz_ => X0.ldc2Long hx hown (mvT hZ (hw _ (List.mem_of_getElem? (i := 37) rfl))) (g := (mkF m 5 #[.val (.long q), .second, .val (.int i)] [(.long ((q.toUInt64 >>> (((5 : Int32) * i) &&& 0x3f).toInt64.toUInt64).toInt64))])) rfl (hb hby d7_5) _ kz_) ?_
  show OwnGoes p e below _ (s₁.setTop (mkF m 8 #[.val (.long q), .second, .val (.int i)] [(.long (31 : Int64)), (.long ((q.toUInt64 >>> (((5 : Int32) * i) &&& 0x3f).toInt64.toUInt64).toInt64))]))
  refine own_pre (fun _ kz_ => XS.land X0.here hx rfl (hb hby d7_8) rfl kz_) ?_
  show OwnGoes p e below _ (s₁.setTop (mkF m 9 #[.val (.long q), .second, .val (.int i)] [(.long (((q.toUInt64 >>> (((5 : Int32) * i) &&& 0x3f).toInt64.toUInt64).toInt64) &&& (31 : Int64)))]))
  refine own_pre (fun _ kz_ => XS.l2i X0.here hx rfl (hb hby d7_9) rfl kz_) ?_
  show OwnGoes p e below _ (s₁.setTop (mkF m 10 #[.val (.long q), .second, .val (.int i)] [(.int ((((q.toUInt64 >>> (((5 : Int32) * i) &&& 0x3f).toInt64.toUInt64).toInt64) &&& (31 : Int64)).toInt32))]))
  refine own_pre (fun _ kz_ => XS.bipush X0.here hx rfl (hb hby d7_10) kz_) ?_
  show OwnGoes p e below _ (s₁.setTop (mkF m 12 #[.val (.long q), .second, .val (.int i)] [(.int (16 : Int32)), (.int ((((q.toUInt64 >>> (((5 : Int32) * i) &&& 0x3f).toInt64.toUInt64).toInt64) &&& (31 : Int64)).toInt32))]))
  refine own_pre (fun _ kz_ => XS.isub X0.here hx rfl (hb hby d7_12) rfl kz_) ?_
  show OwnGoes p e below _ (s₁.setTop (mkF m 13 #[.val (.long q), .second, .val (.int i)] [(.int (((((q.toUInt64 >>> (((5 : Int32) * i) &&& 0x3f).toInt64.toUInt64).toInt64) &&& (31 : Int64)).toInt32) - (16 : Int32)))]))
  exact own_ret X0 hx Bd.returns (rfl) (Or.inl ⟨rfl, by simp, _, rfl⟩) Bd.notSynchronized (hb hby d7_13) ⟨rfl, N0, e0⟩ (by decide) (by decide)
set_option maxRecDepth 65536 in
set_option maxHeartbeats 40000000 in
theorem rmX (l : Launch) (Z : State) (a0 : Array Value) (hw : ∀ d ∈ tables_1, d.before a0 Z = true) (ws : List Jvm.Cond) (q : Int64) (i : Int32) (h0 : Heap) (n0 : Nat) (Z0 : n0 ≤ h0.size) :
    MetFree l (⟨"com/example/dual_bounds/dualbounds/numerics/SparseMatrixRowTimesPinLaw", "x", "(JI)I"⟩ : MethodName) (head1 (Jvm.Cond.code (⟨"com/example/dual_bounds/dualbounds/numerics/SparseMatrixRowTimesPinLaw", "x", "(JI)I"⟩ : MethodName) method_5_code 3 (some .int) :: ws) ({ frames := 0, cells := 0, slots := 0, locals := 0 } : Room)) (fun a U => a = #[(.long q), (.int i)] ∧ Z.Warmed39 U.vm ∧ U.heap = h0) (fun _ _ _ _ _ => True) (fun _ Uw_ ow_ Ue_ => ∃ vw_ Lw_, ow_ = .returned vw_ ∧ QW (own_x q i) h0 n0 vw_ Ue_.heap Lw_ ∧ FrameEnd Uw_ ow_ Ue_ Lw_ ({ frames := 0, cells := 0, slots := 0, locals := 0 } : Room).cells ({ frames := 0, cells := 0, slots := 0, locals := 0 } : Room).slots) := by
  refine MetFree.of_bodySF (plainFor_of_name (by first | (simp [plainName, overriddenIn]; done) | decide +kernel)) hisR ?_
  intro p e s m args below meth c s₁ Bd hml0 hP hK
  obtain ⟨rfl, hZ, hh⟩ := hP
  have hx := Bd.exec
  have hby := Bd.bytes
  have hml : c.maxLocals = 3 := hml0
  have hown : s.vm.findClass "com/example/dual_bounds/dualbounds/numerics/SparseMatrixRowTimesPinLaw" = some m.cls := findClass_of_methodNamed Bd.named
  have hnm := (name_of_methodNamed Bd.named Bd.method).1
  have X0 : Stand p l e ({ frames := 0, cells := 0, slots := 0, locals := 0 } : Room) s m #[(.long q), (.int i)] below meth c s₁ [] 0 0 := Stand.of_body Bd
  have e0 : s₁.heap = h0 := by rw [← hh, Bd.state]; rfl
  have N0 := Fr.nil n0
  have ef : entryFrame m #[(.long q), (.int i)] 3 = (mkF m 0 #[.val (.long q), .second, .val (.int i)] []) := by first | (simp [entryFrame, mkF, argsToLocals, Value.category]; done) | rfl
  show OwnGoes p e below (fun ow_ Ue_ => ∃ vw_ Lw_, ow_ = .returned vw_ ∧ QW (own_x q i) h0 n0 vw_ Ue_.heap Lw_ ∧ FrameEnd s ow_ Ue_ Lw_ ({ frames := 0, cells := 0, slots := 0, locals := 0 } : Room).cells ({ frames := 0, cells := 0, slots := 0, locals := 0 } : Room).slots) (s₁.setTop (entryFrame m #[(.long q), (.int i)] 3))
  refine own_pre (fun t k => castTop ef k) ?_
  show OwnGoes p e below _ (s₁.setTop (mkF m 0 #[.val (.long q), .second, .val (.int i)] []))
  refine own_pre (fun _ kz_ => XS.lloadN X0.here hx rfl (hb hby d2_0) rfl kz_) ?_
  show OwnGoes p e below _ (s₁.setTop (mkF m 1 #[.val (.long q), .second, .val (.int i)] [(.long q)]))
  refine own_pre (fun _ kz_ => XS.bipush X0.here hx rfl (hb hby d2_1) kz_) ?_
  show OwnGoes p e below _ (s₁.setTop (mkF m 3 #[.val (.long q), .second, .val (.int i)] [(.int (16 : Int32)), (.long q)]))
  refine own_pre (fun _ kz_ => XS.iloadN X0.here hx rfl (hb hby d2_3) rfl kz_) ?_
  show OwnGoes p e below _ (s₁.setTop (mkF m 4 #[.val (.long q), .second, .val (.int i)] [(.int i), (.int (16 : Int32)), (.long q)]))
  refine own_pre (fun _ kz_ => XS.imul X0.here hx rfl (hb hby d2_4) rfl kz_) ?_
  show OwnGoes p e below _ (s₁.setTop (mkF m 5 #[.val (.long q), .second, .val (.int i)] [(.int ((16 : Int32) * i)), (.long q)]))
  refine own_pre (fun _ kz_ => XS.lushr X0.here hx rfl (hb hby d2_5) rfl kz_) ?_
  show OwnGoes p e below _ (s₁.setTop (mkF m 6 #[.val (.long q), .second, .val (.int i)] [(.long ((q.toUInt64 >>> (((16 : Int32) * i) &&& 0x3f).toInt64.toUInt64).toInt64))]))
  refine own_pre (fun _ kz_ => X0.ldc2Long hx hown (mvT hZ (hw _ (List.mem_of_getElem? (i := 9) rfl))) (g := (mkF m 6 #[.val (.long q), .second, .val (.int i)] [(.long ((q.toUInt64 >>> (((16 : Int32) * i) &&& 0x3f).toInt64.toUInt64).toInt64))])) rfl (hb hby d2_6) _ kz_) ?_
  show OwnGoes p e below _ (s₁.setTop (mkF m 9 #[.val (.long q), .second, .val (.int i)] [(.long (65535 : Int64)), (.long ((q.toUInt64 >>> (((16 : Int32) * i) &&& 0x3f).toInt64.toUInt64).toInt64))]))
  refine own_pre (fun _ kz_ => XS.land X0.here hx rfl (hb hby d2_9) rfl kz_) ?_
  show OwnGoes p e below _ (s₁.setTop (mkF m 10 #[.val (.long q), .second, .val (.int i)] [(.long (((q.toUInt64 >>> (((16 : Int32) * i) &&& 0x3f).toInt64.toUInt64).toInt64) &&& (65535 : Int64)))]))
  refine own_pre (fun _ kz_ => XS.l2i X0.here hx rfl (hb hby d2_10) rfl kz_) ?_
  show OwnGoes p e below _ (s₁.setTop (mkF m 11 #[.val (.long q), .second, .val (.int i)] [(.int ((((q.toUInt64 >>> (((16 : Int32) * i) &&& 0x3f).toInt64.toUInt64).toInt64) &&& (65535 : Int64)).toInt32))]))
  refine own_pre (fun _ kz_ => X0.ldcInt hx hown (mvT hZ (hw _ (List.mem_of_getElem? (i := 10) rfl))) (g := (mkF m 11 #[.val (.long q), .second, .val (.int i)] [(.int ((((q.toUInt64 >>> (((16 : Int32) * i) &&& 0x3f).toInt64.toUInt64).toInt64) &&& (65535 : Int64)).toInt32))])) rfl (hb hby d2_11) _ kz_) ?_
  show OwnGoes p e below _ (s₁.setTop (mkF m 13 #[.val (.long q), .second, .val (.int i)] [(.int (32768 : Int32)), (.int ((((q.toUInt64 >>> (((16 : Int32) * i) &&& 0x3f).toInt64.toUInt64).toInt64) &&& (65535 : Int64)).toInt32))]))
  refine own_pre (fun _ kz_ => XS.isub X0.here hx rfl (hb hby d2_13) rfl kz_) ?_
  show OwnGoes p e below _ (s₁.setTop (mkF m 14 #[.val (.long q), .second, .val (.int i)] [(.int (((((q.toUInt64 >>> (((16 : Int32) * i) &&& 0x3f).toInt64.toUInt64).toInt64) &&& (65535 : Int64)).toInt32) - (32768 : Int32)))]))
  exact own_ret X0 hx Bd.returns (rfl) (Or.inl ⟨rfl, by simp, _, rfl⟩) Bd.notSynchronized (hb hby d2_14) ⟨rfl, N0, e0⟩ (by decide) (by decide)
def QT (r : Int64) (h0 : Heap) (n0 : Nat) (v : Option Value) (h : Heap) (L : List Loc) : Prop := v = some (.long r) ∧ Fr n0 L ∧ h = h0
set_option maxRecDepth 65536 in
set_option maxHeartbeats 40000000 in
theorem rmT (l : Launch) (Z : State) (a0 : Array Value) (hw : ∀ d ∈ tables_1, d.before a0 Z = true) (ws : List Jvm.Cond) (sh : Int32) (q1 q2 : Int64) (r ck : Int32) (h0 : Heap) (n0 : Nat) (Z0 : n0 ≤ h0.size) :
    MetFree l (⟨"com/example/dual_bounds/dualbounds/numerics/SparseMatrixRowTimesPinLaw", "term", "(IJJII)J"⟩ : MethodName) (head1 (Jvm.Cond.code (⟨"com/example/dual_bounds/dualbounds/numerics/SparseMatrixRowTimesPinLaw", "term", "(IJJII)J"⟩ : MethodName) method_6_code 8 (some .long) :: ws) ({ frames := 1, cells := 0, slots := 0, locals := 16 } : Room)) (fun a U => a = #[(.int sh), (.long q1), (.long q2), (.int r), (.int ck)] ∧ Z.Warmed39 U.vm ∧ U.heap = h0) (fun _ _ _ _ _ => True) (fun _ Uw_ ow_ Ue_ => ∃ vw_ Lw_, ow_ = .returned vw_ ∧ QT (own_term sh q1 q2 r ck) h0 n0 vw_ Ue_.heap Lw_ ∧ FrameEnd Uw_ ow_ Ue_ Lw_ ({ frames := 1, cells := 0, slots := 0, locals := 16 } : Room).cells ({ frames := 1, cells := 0, slots := 0, locals := 16 } : Room).slots) := by
  refine MetFree.of_bodySF (plainFor_of_name (by first | (simp [plainName, overriddenIn]; done) | decide +kernel)) hisR ?_
  intro p e s m args below meth c s₁ Bd hml0 hP hK
  obtain ⟨rfl, hZ, hh⟩ := hP
  have hx := Bd.exec
  have hby := Bd.bytes
  have hml : c.maxLocals = 8 := hml0
  have hown : s.vm.findClass "com/example/dual_bounds/dualbounds/numerics/SparseMatrixRowTimesPinLaw" = some m.cls := findClass_of_methodNamed Bd.named
  have hnm := (name_of_methodNamed Bd.named Bd.method).1
  have X0 : Stand p l e ({ frames := 1, cells := 0, slots := 0, locals := 16 } : Room) s m #[(.int sh), (.long q1), (.long q2), (.int r), (.int ck)] below meth c s₁ [] 0 0 := Stand.of_body Bd
  have e0 : s₁.heap = h0 := by rw [← hh, Bd.state]; rfl
  have N0 := Fr.nil n0
  have ef : entryFrame m #[(.int sh), (.long q1), (.long q2), (.int r), (.int ck)] 8 = (mkF m 0 #[.val (.int sh), .val (.long q1), .second, .val (.long q2), .second, .val (.int r), .val (.int ck), .unset] []) := by first | (simp [entryFrame, mkF, argsToLocals, Value.category]; done) | rfl
  show OwnGoes p e below (fun ow_ Ue_ => ∃ vw_ Lw_, ow_ = .returned vw_ ∧ QT (own_term sh q1 q2 r ck) h0 n0 vw_ Ue_.heap Lw_ ∧ FrameEnd s ow_ Ue_ Lw_ ({ frames := 1, cells := 0, slots := 0, locals := 16 } : Room).cells ({ frames := 1, cells := 0, slots := 0, locals := 16 } : Room).slots) (s₁.setTop (entryFrame m #[(.int sh), (.long q1), (.long q2), (.int r), (.int ck)] 8))
  refine own_pre (fun t k => castTop ef k) ?_
  show OwnGoes p e below _ (s₁.setTop (mkF m 0 #[.val (.int sh), .val (.long q1), .second, .val (.long q2), .second, .val (.int r), .val (.int ck), .unset] []))
  refine own_pre (fun _ kz_ => XS.iconst X0.here hx rfl (hb hby d6_0) kz_) ?_
  show OwnGoes p e below _ (s₁.setTop (mkF m 1 #[.val (.int sh), .val (.long q1), .second, .val (.long q2), .second, .val (.int r), .val (.int ck), .unset] [(.int (4 : Int32))]))
  refine own_pre (fun _ kz_ => XS.iload X0.here hx rfl (hb hby d6_1) rfl kz_) ?_
  show OwnGoes p e below _ (s₁.setTop (mkF m 3 #[.val (.int sh), .val (.long q1), .second, .val (.long q2), .second, .val (.int r), .val (.int ck), .unset] [(.int r), (.int (4 : Int32))]))
  refine own_pre (fun _ kz_ => XS.imul X0.here hx rfl (hb hby d6_3) rfl kz_) ?_
  show OwnGoes p e below _ (s₁.setTop (mkF m 4 #[.val (.int sh), .val (.long q1), .second, .val (.long q2), .second, .val (.int r), .val (.int ck), .unset] [(.int ((4 : Int32) * r))]))
  refine own_pre (fun _ kz_ => XS.iload X0.here hx rfl (hb hby d6_4) rfl kz_) ?_
  show OwnGoes p e below _ (s₁.setTop (mkF m 6 #[.val (.int sh), .val (.long q1), .second, .val (.long q2), .second, .val (.int r), .val (.int ck), .unset] [(.int ck), (.int ((4 : Int32) * r))]))
  refine own_pre (fun _ kz_ => XS.iadd X0.here hx rfl (hb hby d6_6) rfl kz_) ?_
  show OwnGoes p e below _ (s₁.setTop (mkF m 7 #[.val (.int sh), .val (.long q1), .second, .val (.long q2), .second, .val (.int r), .val (.int ck), .unset] [(.int (own_i r ck))]))
  refine own_pre (fun _ kz_ => XS.istore X0.here hx rfl (hb hby d6_7) rfl (l' := #[.val (.int sh), .val (.long q1), .second, .val (.long q2), .second, .val (.int r), .val (.int ck), .val (.int (own_i r ck))]) rfl kz_) ?_
  show OwnGoes p e below _ (s₁.setTop (mkF m 9 #[.val (.int sh), .val (.long q1), .second, .val (.long q2), .second, .val (.int r), .val (.int ck), .val (.int (own_i r ck))] []))
  refine own_pre (fun _ kz_ => XS.iloadN X0.here hx rfl (hb hby d6_9) rfl kz_) ?_
  show OwnGoes p e below _ (s₁.setTop (mkF m 10 #[.val (.int sh), .val (.long q1), .second, .val (.long q2), .second, .val (.int r), .val (.int ck), .val (.int (own_i r ck))] [(.int sh)]))
  refine own_pre (fun _ kz_ => XS.iload X0.here hx rfl (hb hby d6_10) rfl kz_) ?_
  show OwnGoes p e below _ (s₁.setTop (mkF m 12 #[.val (.int sh), .val (.long q1), .second, .val (.long q2), .second, .val (.int r), .val (.int ck), .val (.int (own_i r ck))] [(.int (own_i r ck)), (.int sh)]))
  refine own_pre (fun _ kz_ => XS.iushr X0.here hx rfl (hb hby d6_12) rfl kz_) ?_
  show OwnGoes p e below _ (s₁.setTop (mkF m 13 #[.val (.int sh), .val (.long q1), .second, .val (.long q2), .second, .val (.int r), .val (.int ck), .val (.int (own_i r ck))] [(.int ((sh.toUInt32 >>> ((own_i r ck) &&& 31).toUInt32).toInt32))]))
  refine own_pre (fun _ kz_ => XS.iconst X0.here hx rfl (hb hby d6_13) kz_) ?_
  show OwnGoes p e below _ (s₁.setTop (mkF m 14 #[.val (.int sh), .val (.long q1), .second, .val (.long q2), .second, .val (.int r), .val (.int ck), .val (.int (own_i r ck))] [(.int (1 : Int32)), (.int ((sh.toUInt32 >>> ((own_i r ck) &&& 31).toUInt32).toInt32))]))
  refine own_pre (fun _ kz_ => XS.iand X0.here hx rfl (hb hby d6_14) rfl kz_) ?_
  show OwnGoes p e below _ (s₁.setTop (mkF m 15 #[.val (.int sh), .val (.long q1), .second, .val (.long q2), .second, .val (.int r), .val (.int ck), .val (.int (own_i r ck))] [(.int (own_bit sh (own_i r ck)))]))
  by_cases h15 : (own_bit sh (own_i r ck)) = (0 : Int32)
  · refine own_pre (fun _ kz_ => XS.ifNo X0.here hx rfl (hb hby d6_15) rfl ((if0 _ _).trans (teq h15).2) kz_) ?_
    show OwnGoes p e below _ (s₁.setTop (mkF m 18 #[.val (.int sh), .val (.long q1), .second, .val (.long q2), .second, .val (.int r), .val (.int ck), .val (.int (own_i r ck))] []))
    refine own_pre (fun _ kz_ => XS.lconst X0.here hx rfl (hb hby d6_18) kz_) ?_
    show OwnGoes p e below _ (s₁.setTop (mkF m 19 #[.val (.int sh), .val (.long q1), .second, .val (.long q2), .second, .val (.int r), .val (.int ck), .val (.int (own_i r ck))] [(.long (0 : Int64))]))
    exact own_ret X0 hx Bd.returns (rfl) (Or.inr (Or.inl ⟨rfl, rfl, _, rfl⟩)) Bd.notSynchronized (hb hby d6_19) ⟨by unfold own_term; rw [if_pos h15], N0, e0⟩ (by decide) (by decide)
  · refine own_pre (fun _ kz_ => XS.ifYes X0.here hx rfl (pc0 := 15) (pc' := 20) rfl (hb hby d6_15) rfl ((if0 _ _).trans (feq h15).2) (by decide) (by decide) kz_) ?_
    show OwnGoes p e below _ (s₁.setTop (mkF m 20 #[.val (.int sh), .val (.long q1), .second, .val (.long q2), .second, .val (.int r), .val (.int ck), .val (.int (own_i r ck))] []))
    refine own_pre (fun _ kz_ => XS.lloadN X0.here hx rfl (hb hby d6_20) rfl kz_) ?_
    show OwnGoes p e below _ (s₁.setTop (mkF m 21 #[.val (.int sh), .val (.long q1), .second, .val (.long q2), .second, .val (.int r), .val (.int ck), .val (.int (own_i r ck))] [(.long q1)]))
    refine own_pre (fun _ kz_ => XS.iload X0.here hx rfl (hb hby d6_21) rfl kz_) ?_
    show OwnGoes p e below _ (s₁.setTop (mkF m 23 #[.val (.int sh), .val (.long q1), .second, .val (.long q2), .second, .val (.int r), .val (.int ck), .val (.int (own_i r ck))] [(.int (own_i r ck)), (.long q1)]))
    obtain ⟨_, _, ⟨T1, L1, k1, n1⟩, -, X1, ⟨Lc1, hQ1, l1, y1, z1⟩, st1⟩ := Jvm.LawKit.callS X0 hx (y := (⟨"com/example/dual_bounds/dualbounds/numerics/SparseMatrixRowTimesPinLaw", "w", "(JI)I"⟩ : MethodName)) hown (mvT hZ (hw _ (List.mem_of_getElem? (i := 34) rfl))) (mvT hZ (hw _ (List.mem_of_getElem? (i := 35) rfl))) (mvT hZ (hw _ (List.mem_of_getElem? (i := 4) rfl))) (mvT hZ (hw _ (List.mem_of_getElem? (i := 36) rfl))) (by decide) (backOf (W := 0) (rmW l Z a0 hw [] q1 (own_i r ck) h0 n0 Z0) hZ (hw _ (List.mem_of_getElem? (i := 36) rfl)) (hw _ (List.mem_of_getElem? (i := 4) rfl)) (by decide) (by decide)) (g := (mkF m 23 #[.val (.int sh), .val (.long q1), .second, .val (.long q2), .second, .val (.int r), .val (.int ck), .val (.int (own_i r ck))] [(.int (own_i r ck)), (.long q1)])) rfl (by rw [hml]; rfl) (argsL := [(.long q1), (.int (own_i r ck))]) (rest := []) (lenOf (d := "(JI)I") (ps := [.long, .int]) (r := some .int) (by decide +kernel) rfl) rfl (by show 2 * 0 + _ ≤ _; exact Nat.le_of_eq rfl) (hb hby d6_23) (fun _ _ => ⟨rfl, e0, (by decide : 0 + 0 ≤ _), (by decide : 0 + 0 ≤ _)⟩)
    dsimp only [Pt.U, Pt.locs, Pt.cells, Pt.slots] at X1 l1 y1 z1 st1 hQ1
    subst l1 y1 z1
    obtain ⟨rfl, N1q, e1⟩ := hQ1
    have N1 := Fr.app N0 N1q
    refine own_pre st1 ?_
    show OwnGoes p e below _ (T1.setTop (mkF m 26 #[.val (.int sh), .val (.long q1), .second, .val (.long q2), .second, .val (.int r), .val (.int ck), .val (.int (own_i r ck))] [(.int (own_w q1 (own_i r ck)))]))
    refine own_pre (fun _ kz_ => XS.i2l X1.here hx rfl (hb hby d6_26) rfl kz_) ?_
    show OwnGoes p e below _ (T1.setTop (mkF m 27 #[.val (.int sh), .val (.long q1), .second, .val (.long q2), .second, .val (.int r), .val (.int ck), .val (.int (own_i r ck))] [(.long ((own_w q1 (own_i r ck)).toInt64))]))
    refine own_pre (fun _ kz_ => XS.lloadN X1.here hx rfl (hb hby d6_27) rfl kz_) ?_
    show OwnGoes p e below _ (T1.setTop (mkF m 28 #[.val (.int sh), .val (.long q1), .second, .val (.long q2), .second, .val (.int r), .val (.int ck), .val (.int (own_i r ck))] [(.long q2), (.long ((own_w q1 (own_i r ck)).toInt64))]))
    refine own_pre (fun _ kz_ => XS.iload X1.here hx rfl (hb hby d6_28) rfl kz_) ?_
    show OwnGoes p e below _ (T1.setTop (mkF m 30 #[.val (.int sh), .val (.long q1), .second, .val (.long q2), .second, .val (.int r), .val (.int ck), .val (.int (own_i r ck))] [(.int ck), (.long q2), (.long ((own_w q1 (own_i r ck)).toInt64))]))
    obtain ⟨_, _, ⟨T2, L2, k2, n2⟩, -, X2, ⟨Lc2, hQ2, l2, y2, z2⟩, st2⟩ := Jvm.LawKit.callS X1 hx (y := (⟨"com/example/dual_bounds/dualbounds/numerics/SparseMatrixRowTimesPinLaw", "x", "(JI)I"⟩ : MethodName)) hown (mvT hZ (hw _ (List.mem_of_getElem? (i := 6) rfl))) (mvT hZ (hw _ (List.mem_of_getElem? (i := 7) rfl))) (mvT hZ (hw _ (List.mem_of_getElem? (i := 4) rfl))) (mvT hZ (hw _ (List.mem_of_getElem? (i := 8) rfl))) (by decide) (backOf (W := 2) (rmX l Z a0 hw [] q2 ck h0 n0 Z0) hZ (hw _ (List.mem_of_getElem? (i := 8) rfl)) (hw _ (List.mem_of_getElem? (i := 4) rfl)) (by decide) (by decide)) (g := (mkF m 30 #[.val (.int sh), .val (.long q1), .second, .val (.long q2), .second, .val (.int r), .val (.int ck), .val (.int (own_i r ck))] [(.int ck), (.long q2), (.long ((own_w q1 (own_i r ck)).toInt64))])) rfl (by rw [hml]; rfl) (argsL := [(.long q2), (.int ck)]) (rest := [(.long ((own_w q1 (own_i r ck)).toInt64))]) (lenOf (d := "(JI)I") (ps := [.long, .int]) (r := some .int) (by decide +kernel) rfl) rfl (by show 2 * 0 + _ ≤ _; exact Nat.le_of_eq rfl) (hb hby d6_30) (fun _ _ => ⟨rfl, e1, (by decide : 0 + 0 ≤ _), (by decide : 0 + 0 ≤ _)⟩)
    dsimp only [Pt.U, Pt.locs, Pt.cells, Pt.slots] at X2 l2 y2 z2 st2 hQ2
    subst l2 y2 z2
    obtain ⟨rfl, N2q, e2⟩ := hQ2
    have N2 := Fr.app N1 N2q
    refine own_pre st2 ?_
    show OwnGoes p e below _ (T2.setTop (mkF m 33 #[.val (.int sh), .val (.long q1), .second, .val (.long q2), .second, .val (.int r), .val (.int ck), .val (.int (own_i r ck))] [(.int (own_x q2 ck)), (.long ((own_w q1 (own_i r ck)).toInt64))]))
    refine own_pre (fun _ kz_ => XS.i2l X2.here hx rfl (hb hby d6_33) rfl kz_) ?_
    show OwnGoes p e below _ (T2.setTop (mkF m 34 #[.val (.int sh), .val (.long q1), .second, .val (.long q2), .second, .val (.int r), .val (.int ck), .val (.int (own_i r ck))] [(.long ((own_x q2 ck).toInt64)), (.long ((own_w q1 (own_i r ck)).toInt64))]))
    refine own_pre (fun _ kz_ => XS.lmul X2.here hx rfl (hb hby d6_34) rfl kz_) ?_
    show OwnGoes p e below _ (T2.setTop (mkF m 35 #[.val (.int sh), .val (.long q1), .second, .val (.long q2), .second, .val (.int r), .val (.int ck), .val (.int (own_i r ck))] [(.long (((own_w q1 (own_i r ck)).toInt64) * ((own_x q2 ck).toInt64)))]))
    exact own_ret X2 hx Bd.returns (rfl) (Or.inr (Or.inl ⟨rfl, rfl, _, rfl⟩)) Bd.notSynchronized (hb hby d6_35) ⟨by unfold own_term; rw [if_neg h15], N2, e2⟩ (by decide) (by decide)
def QP (Z : State) (b1 b2 : Addr) (es : OwnE) (h0 : Heap) (n0 : Nat) (v : Option Value) (h : Heap) (L : List Loc) : Prop := v = some (.int (Int32.ofNat es.length)) ∧ Fr n0 L ∧ Keep h0 h [b1, b2] ∧ OwnA Z h b1 .int (own_cols es) ∧ OwnA Z h b2 .double (own_vals es)
set_option maxRecDepth 65536 in
set_option maxHeartbeats 40000000 in
theorem rmP (l : Launch) (Z : State) (a0 : Array Value) (hw : ∀ d ∈ tables_1, d.before a0 Z = true) (ws : List Jvm.Cond) (b1 b2 : Addr) (es : OwnE) (sh : Int32) (q1 : Int64) (r ck : Int32) (h0 : Heap) (n0 : Nat) (Z0 : n0 ≤ h0.size) (V1 : OwnA Z h0 b1 .int (own_cols es)) (V2 : OwnA Z h0 b2 .double (own_vals es)) (hne : b1 ≠ b2) (g_b1 : n0 ≤ b1) (g_b2 : n0 ≤ b2) (hl : es.length < 12) :
    MetFree l (⟨"com/example/dual_bounds/dualbounds/numerics/SparseMatrixRowTimesPinLaw", "put", "([I[DIIJII)I"⟩ : MethodName) (head1 (Jvm.Cond.code (⟨"com/example/dual_bounds/dualbounds/numerics/SparseMatrixRowTimesPinLaw", "put", "([I[DIIJII)I"⟩ : MethodName) method_3_code 9 (some .int) :: ws) ({ frames := 1, cells := 0, slots := 0, locals := 16 } : Room)) (fun a U => a = #[(.ref b1), (.ref b2), (.int (Int32.ofNat es.length)), (.int sh), (.long q1), (.int r), (.int ck)] ∧ Z.Warmed39 U.vm ∧ U.heap = h0) (fun _ _ _ _ _ => True) (fun _ Uw_ ow_ Ue_ => ∃ vw_ Lw_, ow_ = .returned vw_ ∧ QP Z b1 b2 (own_add es sh q1 r ck) h0 n0 vw_ Ue_.heap Lw_ ∧ FrameEnd Uw_ ow_ Ue_ Lw_ ({ frames := 1, cells := 0, slots := 0, locals := 16 } : Room).cells ({ frames := 1, cells := 0, slots := 0, locals := 16 } : Room).slots) := by
  refine MetFree.of_bodySF (plainFor_of_name (by first | (simp [plainName, overriddenIn]; done) | decide +kernel)) hisR ?_
  intro p e s m args below meth c s₁ Bd hml0 hP hK
  obtain ⟨rfl, hZ, hh⟩ := hP
  have hx := Bd.exec
  have hby := Bd.bytes
  have hml : c.maxLocals = 9 := hml0
  have hown : s.vm.findClass "com/example/dual_bounds/dualbounds/numerics/SparseMatrixRowTimesPinLaw" = some m.cls := findClass_of_methodNamed Bd.named
  have hnm := (name_of_methodNamed Bd.named Bd.method).1
  have X0 : Stand p l e ({ frames := 1, cells := 0, slots := 0, locals := 16 } : Room) s m #[(.ref b1), (.ref b2), (.int (Int32.ofNat es.length)), (.int sh), (.long q1), (.int r), (.int ck)] below meth c s₁ [] 0 0 := Stand.of_body Bd
  have e0 : s₁.heap = h0 := by rw [← hh, Bd.state]; rfl
  have N0 := Fr.nil n0
  have ef : entryFrame m #[(.ref b1), (.ref b2), (.int (Int32.ofNat es.length)), (.int sh), (.long q1), (.int r), (.int ck)] 9 = (mkF m 0 #[.val (.ref b1), .val (.ref b2), .val (.int (Int32.ofNat es.length)), .val (.int sh), .val (.long q1), .second, .val (.int r), .val (.int ck), .unset] []) := by first | (simp [entryFrame, mkF, argsToLocals, Value.category]; done) | rfl
  show OwnGoes p e below (fun ow_ Ue_ => ∃ vw_ Lw_, ow_ = .returned vw_ ∧ QP Z b1 b2 (own_add es sh q1 r ck) h0 n0 vw_ Ue_.heap Lw_ ∧ FrameEnd s ow_ Ue_ Lw_ ({ frames := 1, cells := 0, slots := 0, locals := 16 } : Room).cells ({ frames := 1, cells := 0, slots := 0, locals := 16 } : Room).slots) (s₁.setTop (entryFrame m #[(.ref b1), (.ref b2), (.int (Int32.ofNat es.length)), (.int sh), (.long q1), (.int r), (.int ck)] 9))
  refine own_pre (fun t k => castTop ef k) ?_
  show OwnGoes p e below _ (s₁.setTop (mkF m 0 #[.val (.ref b1), .val (.ref b2), .val (.int (Int32.ofNat es.length)), .val (.int sh), .val (.long q1), .second, .val (.int r), .val (.int ck), .unset] []))
  refine own_pre (fun _ kz_ => XS.iconst X0.here hx rfl (hb hby d1_0) kz_) ?_
  show OwnGoes p e below _ (s₁.setTop (mkF m 1 #[.val (.ref b1), .val (.ref b2), .val (.int (Int32.ofNat es.length)), .val (.int sh), .val (.long q1), .second, .val (.int r), .val (.int ck), .unset] [(.int (4 : Int32))]))
  refine own_pre (fun _ kz_ => XS.iload X0.here hx rfl (hb hby d1_1) rfl kz_) ?_
  show OwnGoes p e below _ (s₁.setTop (mkF m 3 #[.val (.ref b1), .val (.ref b2), .val (.int (Int32.ofNat es.length)), .val (.int sh), .val (.long q1), .second, .val (.int r), .val (.int ck), .unset] [(.int r), (.int (4 : Int32))]))
  refine own_pre (fun _ kz_ => XS.imul X0.here hx rfl (hb hby d1_3) rfl kz_) ?_
  show OwnGoes p e below _ (s₁.setTop (mkF m 4 #[.val (.ref b1), .val (.ref b2), .val (.int (Int32.ofNat es.length)), .val (.int sh), .val (.long q1), .second, .val (.int r), .val (.int ck), .unset] [(.int ((4 : Int32) * r))]))
  refine own_pre (fun _ kz_ => XS.iload X0.here hx rfl (hb hby d1_4) rfl kz_) ?_
  show OwnGoes p e below _ (s₁.setTop (mkF m 6 #[.val (.ref b1), .val (.ref b2), .val (.int (Int32.ofNat es.length)), .val (.int sh), .val (.long q1), .second, .val (.int r), .val (.int ck), .unset] [(.int ck), (.int ((4 : Int32) * r))]))
  refine own_pre (fun _ kz_ => XS.iadd X0.here hx rfl (hb hby d1_6) rfl kz_) ?_
  show OwnGoes p e below _ (s₁.setTop (mkF m 7 #[.val (.ref b1), .val (.ref b2), .val (.int (Int32.ofNat es.length)), .val (.int sh), .val (.long q1), .second, .val (.int r), .val (.int ck), .unset] [(.int (own_i r ck))]))
  refine own_pre (fun _ kz_ => XS.istore X0.here hx rfl (hb hby d1_7) rfl (l' := #[.val (.ref b1), .val (.ref b2), .val (.int (Int32.ofNat es.length)), .val (.int sh), .val (.long q1), .second, .val (.int r), .val (.int ck), .val (.int (own_i r ck))]) rfl kz_) ?_
  show OwnGoes p e below _ (s₁.setTop (mkF m 9 #[.val (.ref b1), .val (.ref b2), .val (.int (Int32.ofNat es.length)), .val (.int sh), .val (.long q1), .second, .val (.int r), .val (.int ck), .val (.int (own_i r ck))] []))
  refine own_pre (fun _ kz_ => XS.iloadN X0.here hx rfl (hb hby d1_9) rfl kz_) ?_
  show OwnGoes p e below _ (s₁.setTop (mkF m 10 #[.val (.ref b1), .val (.ref b2), .val (.int (Int32.ofNat es.length)), .val (.int sh), .val (.long q1), .second, .val (.int r), .val (.int ck), .val (.int (own_i r ck))] [(.int sh)]))
  refine own_pre (fun _ kz_ => XS.iload X0.here hx rfl (hb hby d1_10) rfl kz_) ?_
  show OwnGoes p e below _ (s₁.setTop (mkF m 12 #[.val (.ref b1), .val (.ref b2), .val (.int (Int32.ofNat es.length)), .val (.int sh), .val (.long q1), .second, .val (.int r), .val (.int ck), .val (.int (own_i r ck))] [(.int (own_i r ck)), (.int sh)]))
  refine own_pre (fun _ kz_ => XS.iushr X0.here hx rfl (hb hby d1_12) rfl kz_) ?_
  show OwnGoes p e below _ (s₁.setTop (mkF m 13 #[.val (.ref b1), .val (.ref b2), .val (.int (Int32.ofNat es.length)), .val (.int sh), .val (.long q1), .second, .val (.int r), .val (.int ck), .val (.int (own_i r ck))] [(.int ((sh.toUInt32 >>> ((own_i r ck) &&& 31).toUInt32).toInt32))]))
  refine own_pre (fun _ kz_ => XS.iconst X0.here hx rfl (hb hby d1_13) kz_) ?_
  show OwnGoes p e below _ (s₁.setTop (mkF m 14 #[.val (.ref b1), .val (.ref b2), .val (.int (Int32.ofNat es.length)), .val (.int sh), .val (.long q1), .second, .val (.int r), .val (.int ck), .val (.int (own_i r ck))] [(.int (1 : Int32)), (.int ((sh.toUInt32 >>> ((own_i r ck) &&& 31).toUInt32).toInt32))]))
  refine own_pre (fun _ kz_ => XS.iand X0.here hx rfl (hb hby d1_14) rfl kz_) ?_
  show OwnGoes p e below _ (s₁.setTop (mkF m 15 #[.val (.ref b1), .val (.ref b2), .val (.int (Int32.ofNat es.length)), .val (.int sh), .val (.long q1), .second, .val (.int r), .val (.int ck), .val (.int (own_i r ck))] [(.int (own_bit sh (own_i r ck)))]))
  by_cases h15 : (own_bit sh (own_i r ck)) = (0 : Int32)
  · refine own_pre (fun _ kz_ => XS.ifNo X0.here hx rfl (hb hby d1_15) rfl ((if0 _ _).trans (teq h15).2) kz_) ?_
    show OwnGoes p e below _ (s₁.setTop (mkF m 18 #[.val (.ref b1), .val (.ref b2), .val (.int (Int32.ofNat es.length)), .val (.int sh), .val (.long q1), .second, .val (.int r), .val (.int ck), .val (.int (own_i r ck))] []))
    refine own_pre (fun _ kz_ => XS.iloadN X0.here hx rfl (hb hby d1_18) rfl kz_) ?_
    show OwnGoes p e below _ (s₁.setTop (mkF m 19 #[.val (.ref b1), .val (.ref b2), .val (.int (Int32.ofNat es.length)), .val (.int sh), .val (.long q1), .second, .val (.int r), .val (.int ck), .val (.int (own_i r ck))] [(.int (Int32.ofNat es.length))]))
    exact own_ret X0 hx Bd.returns (rfl) (Or.inl ⟨rfl, by simp, _, rfl⟩) Bd.notSynchronized (hb hby d1_19) ⟨by unfold own_add; rw [if_pos h15], N0, by rw [e0]; exact Keep.refl _ _, by rw [e0]; unfold own_add; rw [if_pos h15]; exact V1, by rw [e0]; unfold own_add; rw [if_pos h15]; exact V2⟩ (by decide) (by decide)
  · refine own_pre (fun _ kz_ => XS.ifYes X0.here hx rfl (pc0 := 15) (pc' := 20) rfl (hb hby d1_15) rfl ((if0 _ _).trans (feq h15).2) (by decide) (by decide) kz_) ?_
    show OwnGoes p e below _ (s₁.setTop (mkF m 20 #[.val (.ref b1), .val (.ref b2), .val (.int (Int32.ofNat es.length)), .val (.int sh), .val (.long q1), .second, .val (.int r), .val (.int ck), .val (.int (own_i r ck))] []))
    refine own_pre (fun _ kz_ => XS.aloadN X0.here hx rfl (hb hby d1_20) rfl rfl kz_) ?_
    show OwnGoes p e below _ (s₁.setTop (mkF m 21 #[.val (.ref b1), .val (.ref b2), .val (.int (Int32.ofNat es.length)), .val (.int sh), .val (.long q1), .second, .val (.int r), .val (.int ck), .val (.int (own_i r ck))] [(.ref b1)]))
    refine own_pre (fun _ kz_ => XS.iloadN X0.here hx rfl (hb hby d1_21) rfl kz_) ?_
    show OwnGoes p e below _ (s₁.setTop (mkF m 22 #[.val (.ref b1), .val (.ref b2), .val (.int (Int32.ofNat es.length)), .val (.int sh), .val (.long q1), .second, .val (.int r), .val (.int ck), .val (.int (own_i r ck))] [(.int (Int32.ofNat es.length)), (.ref b1)]))
    refine own_pre (fun _ kz_ => XS.iload X0.here hx rfl (hb hby d1_22) rfl kz_) ?_
    show OwnGoes p e below _ (s₁.setTop (mkF m 24 #[.val (.ref b1), .val (.ref b2), .val (.int (Int32.ofNat es.length)), .val (.int sh), .val (.long q1), .second, .val (.int r), .val (.int ck), .val (.int (own_i r ck))] [(.int ck), (.int (Int32.ofNat es.length)), (.ref b1)]))
    obtain ⟨T1, h1, X1, e1, W1, V1, st1⟩ := own_ist X0 hx hZ e0 V1 (j := (Int32.ofNat es.length)) (Int32.ofNat_not_neg (by omega)) (by rw [own_clen (by omega), XT.n32 (by omega)]; exact hl) (g := (mkF m 24 #[.val (.ref b1), .val (.ref b2), .val (.int (Int32.ofNat es.length)), .val (.int sh), .val (.long q1), .second, .val (.int r), .val (.int ck), .val (.int (own_i r ck))] [(.int ck), (.int (Int32.ofNat es.length)), (.ref b1)])) rfl rfl (hb hby d1_24)
    have f1_1 := V2.other W1 (Ne.symm hne)
    have K1 := ((Keep.refl h0 [b1, b2])).wr W1 (Or.inl (List.mem_of_getElem? (i := 0) rfl))
    have Z1 := Nat.le_trans Z0 (Keep.of_wr W1).1
    have N1 := Fr.snoc X1 N0 g_b1
    refine own_pre st1 ?_
    show OwnGoes p e below _ (T1.setTop (mkF m 25 #[.val (.ref b1), .val (.ref b2), .val (.int (Int32.ofNat es.length)), .val (.int sh), .val (.long q1), .second, .val (.int r), .val (.int ck), .val (.int (own_i r ck))] []))
    refine own_pre (fun _ kz_ => XS.aloadN X1.here hx rfl (hb hby d1_25) rfl rfl kz_) ?_
    show OwnGoes p e below _ (T1.setTop (mkF m 26 #[.val (.ref b1), .val (.ref b2), .val (.int (Int32.ofNat es.length)), .val (.int sh), .val (.long q1), .second, .val (.int r), .val (.int ck), .val (.int (own_i r ck))] [(.ref b2)]))
    refine own_pre (fun _ kz_ => XS.iloadN X1.here hx rfl (hb hby d1_26) rfl kz_) ?_
    show OwnGoes p e below _ (T1.setTop (mkF m 27 #[.val (.ref b1), .val (.ref b2), .val (.int (Int32.ofNat es.length)), .val (.int sh), .val (.long q1), .second, .val (.int r), .val (.int ck), .val (.int (own_i r ck))] [(.int (Int32.ofNat es.length)), (.ref b2)]))
    refine own_pre (fun _ kz_ => XS.lload X1.here hx rfl (hb hby d1_27) rfl kz_) ?_
    show OwnGoes p e below _ (T1.setTop (mkF m 29 #[.val (.ref b1), .val (.ref b2), .val (.int (Int32.ofNat es.length)), .val (.int sh), .val (.long q1), .second, .val (.int r), .val (.int ck), .val (.int (own_i r ck))] [(.long q1), (.int (Int32.ofNat es.length)), (.ref b2)]))
    refine own_pre (fun _ kz_ => XS.iload X1.here hx rfl (hb hby d1_29) rfl kz_) ?_
    show OwnGoes p e below _ (T1.setTop (mkF m 31 #[.val (.ref b1), .val (.ref b2), .val (.int (Int32.ofNat es.length)), .val (.int sh), .val (.long q1), .second, .val (.int r), .val (.int ck), .val (.int (own_i r ck))] [(.int (own_i r ck)), (.long q1), (.int (Int32.ofNat es.length)), (.ref b2)]))
    obtain ⟨_, _, ⟨T2, L2, k2, n2⟩, -, X2, ⟨Lc2, hQ2, l2, y2, z2⟩, st2⟩ := Jvm.LawKit.callS X1 hx (y := (⟨"com/example/dual_bounds/dualbounds/numerics/SparseMatrixRowTimesPinLaw", "w", "(JI)I"⟩ : MethodName)) hown (mvT hZ (hw _ (List.mem_of_getElem? (i := 34) rfl))) (mvT hZ (hw _ (List.mem_of_getElem? (i := 35) rfl))) (mvT hZ (hw _ (List.mem_of_getElem? (i := 4) rfl))) (mvT hZ (hw _ (List.mem_of_getElem? (i := 36) rfl))) (by decide) (backOf (W := 2) (rmW l Z a0 hw [] q1 (own_i r ck) h1 n0 Z1) hZ (hw _ (List.mem_of_getElem? (i := 36) rfl)) (hw _ (List.mem_of_getElem? (i := 4) rfl)) (by decide) (by decide)) (g := (mkF m 31 #[.val (.ref b1), .val (.ref b2), .val (.int (Int32.ofNat es.length)), .val (.int sh), .val (.long q1), .second, .val (.int r), .val (.int ck), .val (.int (own_i r ck))] [(.int (own_i r ck)), (.long q1), (.int (Int32.ofNat es.length)), (.ref b2)])) rfl (by rw [hml]; rfl) (argsL := [(.long q1), (.int (own_i r ck))]) (rest := [(.int (Int32.ofNat es.length)), (.ref b2)]) (lenOf (d := "(JI)I") (ps := [.long, .int]) (r := some .int) (by decide +kernel) rfl) rfl (by show 2 * 0 + _ ≤ _; exact Nat.le_of_eq rfl) (hb hby d1_31) (fun _ _ => ⟨rfl, e1, (by decide : 0 + 0 ≤ _), (by decide : 0 + 0 ≤ _)⟩)
    dsimp only [Pt.U, Pt.locs, Pt.cells, Pt.slots] at X2 l2 y2 z2 st2 hQ2
    subst l2 y2 z2
    obtain ⟨rfl, N2q, e2⟩ := hQ2
    have N2 := Fr.app N1 N2q
    refine own_pre st2 ?_
    show OwnGoes p e below _ (T2.setTop (mkF m 34 #[.val (.ref b1), .val (.ref b2), .val (.int (Int32.ofNat es.length)), .val (.int sh), .val (.long q1), .second, .val (.int r), .val (.int ck), .val (.int (own_i r ck))] [(.int (own_w q1 (own_i r ck))), (.int (Int32.ofNat es.length)), (.ref b2)]))
    refine own_pre (fun _ kz_ => XS.i2dS X2.here hx rfl (hb hby d1_34) rfl rfl kz_) ?_
    show OwnGoes p e below _ (T2.setTop (mkF m 35 #[.val (.ref b1), .val (.ref b2), .val (.int (Int32.ofNat es.length)), .val (.int sh), .val (.long q1), .second, .val (.int r), .val (.int ck), .val (.int (own_i r ck))] [(.double (Jvm.FP.i2d (own_w q1 (own_i r ck)))), (.int (Int32.ofNat es.length)), (.ref b2)]))
    obtain ⟨T3, h3, X3, e3, W3, V3, st3⟩ := own_dst X2 hx hZ e2 f1_1 (j := (Int32.ofNat es.length)) (Int32.ofNat_not_neg (by omega)) (by rw [own_vlen (by omega), XT.n32 (by omega)]; exact hl) (g := (mkF m 35 #[.val (.ref b1), .val (.ref b2), .val (.int (Int32.ofNat es.length)), .val (.int sh), .val (.long q1), .second, .val (.int r), .val (.int ck), .val (.int (own_i r ck))] [(.double (Jvm.FP.i2d (own_w q1 (own_i r ck)))), (.int (Int32.ofNat es.length)), (.ref b2)])) rfl rfl (hb hby d1_35)
    have f3_2 := V1.other W3 hne
    have K3 := (K1).wr W3 (Or.inl (List.mem_of_getElem? (i := 1) rfl))
    have Z3 := Nat.le_trans Z1 (Keep.of_wr W3).1
    have N3 := Fr.snoc X3 N2 g_b2
    refine own_pre st3 ?_
    show OwnGoes p e below _ (T3.setTop (mkF m 36 #[.val (.ref b1), .val (.ref b2), .val (.int (Int32.ofNat es.length)), .val (.int sh), .val (.long q1), .second, .val (.int r), .val (.int ck), .val (.int (own_i r ck))] []))
    refine own_pre (fun _ kz_ => XS.iloadN X3.here hx rfl (hb hby d1_36) rfl kz_) ?_
    show OwnGoes p e below _ (T3.setTop (mkF m 37 #[.val (.ref b1), .val (.ref b2), .val (.int (Int32.ofNat es.length)), .val (.int sh), .val (.long q1), .second, .val (.int r), .val (.int ck), .val (.int (own_i r ck))] [(.int (Int32.ofNat es.length))]))
    refine own_pre (fun _ kz_ => XS.iconst X3.here hx rfl (hb hby d1_37) kz_) ?_
    show OwnGoes p e below _ (T3.setTop (mkF m 38 #[.val (.ref b1), .val (.ref b2), .val (.int (Int32.ofNat es.length)), .val (.int sh), .val (.long q1), .second, .val (.int r), .val (.int ck), .val (.int (own_i r ck))] [(.int (1 : Int32)), (.int (Int32.ofNat es.length))]))
    refine own_pre (fun _ kz_ => XS.iadd X3.here hx rfl (hb hby d1_38) rfl kz_) ?_
    show OwnGoes p e below _ (T3.setTop (mkF m 39 #[.val (.ref b1), .val (.ref b2), .val (.int (Int32.ofNat es.length)), .val (.int sh), .val (.long q1), .second, .val (.int r), .val (.int ck), .val (.int (own_i r ck))] [(.int ((Int32.ofNat es.length) + (1 : Int32)))]))
    exact own_ret X3 hx Bd.returns (rfl) (Or.inl ⟨rfl, by simp, _, rfl⟩) Bd.notSynchronized (hb hby d1_39) ⟨by unfold own_add; rw [if_neg h15, List.length_append]; exact congrArg (fun z => some (Value.int z)) (XT.succ32 _), N3, by rw [e3]; exact K3, by rw [e3]; unfold own_add; rw [if_neg h15]; have q := f3_2; rw [XT.n32 (by omega), own_cset hl] at q; exact q, by rw [e3]; unfold own_add; rw [if_neg h15]; have q := V3; rw [XT.n32 (by omega), own_vset hl ck] at q; exact q⟩ (by decide) (by decide)
def QI (Z : State) (a1 b1 b2 b3 : Addr) (h0 : Heap) (n0 : Nat) (v : Option Value) (h : Heap) (L : List Loc) : Prop := v = none ∧ Fr n0 L ∧ Keep h0 h [a1] ∧ Exa Z h a1 "com/example/dual_bounds/dualbounds/numerics/SparseMatrix" ∧ Fld Z h a1 "com/example/dual_bounds/dualbounds/numerics/SparseMatrix" "rowStart" "[I" (.ref b1) ∧ Fld Z h a1 "com/example/dual_bounds/dualbounds/numerics/SparseMatrix" "columns" "[I" (.ref b2) ∧ Fld Z h a1 "com/example/dual_bounds/dualbounds/numerics/SparseMatrix" "values" "[D" (.ref b3)
set_option maxRecDepth 65536 in
set_option maxHeartbeats 40000000 in
theorem rmI (l : Launch) (Z : State) (a0 : Array Value) (hw : ∀ d ∈ tables_1, d.before a0 Z = true) (ws : List Jvm.Cond) (a1 b1 b2 b3 : Addr) (h0 : Heap) (n0 : Nat) (Z0 : n0 ≤ h0.size) (E1 : Exa Z h0 a1 "com/example/dual_bounds/dualbounds/numerics/SparseMatrix") (F0 : Fld Z h0 a1 "com/example/dual_bounds/dualbounds/numerics/SparseMatrix" "rowStart" "[I" .null) (F1 : Fld Z h0 a1 "com/example/dual_bounds/dualbounds/numerics/SparseMatrix" "columns" "[I" .null) (F2 : Fld Z h0 a1 "com/example/dual_bounds/dualbounds/numerics/SparseMatrix" "values" "[D" .null) (g_a1 : n0 ≤ a1) :
    MetFree l (⟨"com/example/dual_bounds/dualbounds/numerics/SparseMatrix", "<init>", "([I[I[D)V"⟩ : MethodName) (head1 (Jvm.Cond.code (⟨"com/example/dual_bounds/dualbounds/numerics/SparseMatrix", "<init>", "([I[I[D)V"⟩ : MethodName) prog_68_method_1_code 4 none :: ws) ({ frames := 1, cells := 0, slots := 0, locals := 12 } : Room)) (fun a U => a = #[(.ref a1), (.ref b1), (.ref b2), (.ref b3)] ∧ Z.Warmed39 U.vm ∧ U.heap = h0) (fun _ _ _ _ _ => True) (fun _ Uw_ ow_ Ue_ => ∃ vw_ Lw_, ow_ = .returned vw_ ∧ QI Z a1 b1 b2 b3 h0 n0 vw_ Ue_.heap Lw_ ∧ FrameEnd Uw_ ow_ Ue_ Lw_ ({ frames := 1, cells := 0, slots := 0, locals := 12 } : Room).cells ({ frames := 1, cells := 0, slots := 0, locals := 12 } : Room).slots) := by
  refine MetFree.of_bodySF (plainFor_of_name (by first | (simp [plainName, overriddenIn]; done) | decide +kernel)) hisR ?_
  intro p e s m args below meth c s₁ Bd hml0 hP hK
  obtain ⟨rfl, hZ, hh⟩ := hP
  have hx := Bd.exec
  have hby := Bd.bytes
  have hml : c.maxLocals = 4 := hml0
  have hown : s.vm.findClass "com/example/dual_bounds/dualbounds/numerics/SparseMatrix" = some m.cls := findClass_of_methodNamed Bd.named
  have hnm := (name_of_methodNamed Bd.named Bd.method).1
  have X0 : Stand p l e ({ frames := 1, cells := 0, slots := 0, locals := 12 } : Room) s m #[(.ref a1), (.ref b1), (.ref b2), (.ref b3)] below meth c s₁ [] 0 0 := Stand.of_body Bd
  have e0 : s₁.heap = h0 := by rw [← hh, Bd.state]; rfl
  have N0 := Fr.nil n0
  have ef : entryFrame m #[(.ref a1), (.ref b1), (.ref b2), (.ref b3)] 4 = (mkF m 0 #[.val (.ref a1), .val (.ref b1), .val (.ref b2), .val (.ref b3)] []) := by first | (simp [entryFrame, mkF, argsToLocals, Value.category]; done) | rfl
  show OwnGoes p e below (fun ow_ Ue_ => ∃ vw_ Lw_, ow_ = .returned vw_ ∧ QI Z a1 b1 b2 b3 h0 n0 vw_ Ue_.heap Lw_ ∧ FrameEnd s ow_ Ue_ Lw_ ({ frames := 1, cells := 0, slots := 0, locals := 12 } : Room).cells ({ frames := 1, cells := 0, slots := 0, locals := 12 } : Room).slots) (s₁.setTop (entryFrame m #[(.ref a1), (.ref b1), (.ref b2), (.ref b3)] 4))
  refine own_pre (fun t k => castTop ef k) ?_
  show OwnGoes p e below _ (s₁.setTop (mkF m 0 #[.val (.ref a1), .val (.ref b1), .val (.ref b2), .val (.ref b3)] []))
  refine own_pre (fun _ kz_ => XS.aloadN X0.here hx rfl (hb hby d3_0) rfl rfl kz_) ?_
  show OwnGoes p e below _ (s₁.setTop (mkF m 1 #[.val (.ref a1), .val (.ref b1), .val (.ref b2), .val (.ref b3)] [(.ref a1)]))
  obtain ⟨T1, X1, e1, st1⟩ := initO X0 hx hZ hown (hw _ (List.mem_of_getElem? (i := 17) rfl)) (hw _ (List.mem_of_getElem? (i := 18) rfl)) (hw _ (List.mem_of_getElem? (i := 19) rfl)) e0 (g := (mkF m 1 #[.val (.ref a1), .val (.ref b1), .val (.ref b2), .val (.ref b3)] [(.ref a1)])) rfl (by rw [hml]; rfl) rfl (hb hby d3_1) (by decide) (W := 0) (by show 2 * 0 + _ ≤ _; exact Nat.le_of_eq rfl) (by decide)
  refine own_pre st1 ?_
  show OwnGoes p e below _ (T1.setTop (mkF m 4 #[.val (.ref a1), .val (.ref b1), .val (.ref b2), .val (.ref b3)] []))
  refine own_pre (fun _ kz_ => XS.aloadN X1.here hx rfl (hb hby d3_4) rfl rfl kz_) ?_
  show OwnGoes p e below _ (T1.setTop (mkF m 5 #[.val (.ref a1), .val (.ref b1), .val (.ref b2), .val (.ref b3)] [(.ref a1)]))
  refine own_pre (fun _ kz_ => XS.aloadN X1.here hx rfl (hb hby d3_5) rfl rfl kz_) ?_
  show OwnGoes p e below _ (T1.setTop (mkF m 6 #[.val (.ref a1), .val (.ref b1), .val (.ref b2), .val (.ref b3)] [(.ref b1), (.ref a1)]))
  obtain ⟨T2, h2, X2, e2, W2, st2⟩ := putF X1 hx hZ hown (host := "") (Or.inl (hw _ (List.mem_of_getElem? (i := 20) rfl))) Via.refl e1 F0 E1 (Or.inr ⟨(hw _ (List.mem_of_getElem? (i := 21) rfl)), rfl, hnm⟩) (hw _ (List.mem_of_getElem? (i := 12) rfl)) (ty := (.array .int)) (by decide) rfl rfl (g := (mkF m 6 #[.val (.ref a1), .val (.ref b1), .val (.ref b2), .val (.ref b3)] [(.ref b1), (.ref a1)])) rfl rfl (hb hby d3_6)
  have f2_4 := E1.wr W2
  have f2_2 := F1.other W2 (Or.inr (slot_ne (Or.inr (hw _ (List.mem_of_getElem? (i := 23) rfl))) (Or.inr (hw _ (List.mem_of_getElem? (i := 21) rfl))) (by decide) (t := (.array .int)) (t' := (.array .int)) (by decide) (by decide)))
  have f2_1 := F2.other W2 (Or.inr (slot_ne (Or.inr (hw _ (List.mem_of_getElem? (i := 25) rfl))) (Or.inr (hw _ (List.mem_of_getElem? (i := 21) rfl))) (by decide) (t := (.array .double)) (t' := (.array .int)) (by decide) (by decide)))
  have K2 := ((Keep.refl h0 [a1])).wr W2 (Or.inl (List.mem_of_getElem? (i := 0) rfl))
  have Z2 := Nat.le_trans Z0 (Keep.of_wr W2).1
  have Fw2 := F0.same W2
  have N2 := Fr.snoc X2 N0 g_a1
  refine own_pre st2 ?_
  show OwnGoes p e below _ (T2.setTop (mkF m 9 #[.val (.ref a1), .val (.ref b1), .val (.ref b2), .val (.ref b3)] []))
  refine own_pre (fun _ kz_ => XS.aloadN X2.here hx rfl (hb hby d3_9) rfl rfl kz_) ?_
  show OwnGoes p e below _ (T2.setTop (mkF m 10 #[.val (.ref a1), .val (.ref b1), .val (.ref b2), .val (.ref b3)] [(.ref a1)]))
  refine own_pre (fun _ kz_ => XS.aloadN X2.here hx rfl (hb hby d3_10) rfl rfl kz_) ?_
  show OwnGoes p e below _ (T2.setTop (mkF m 11 #[.val (.ref a1), .val (.ref b1), .val (.ref b2), .val (.ref b3)] [(.ref b2), (.ref a1)]))
  obtain ⟨T3, h3, X3, e3, W3, st3⟩ := putF X2 hx hZ hown (host := "") (Or.inl (hw _ (List.mem_of_getElem? (i := 22) rfl))) Via.refl e2 f2_2 f2_4 (Or.inr ⟨(hw _ (List.mem_of_getElem? (i := 23) rfl)), rfl, hnm⟩) (hw _ (List.mem_of_getElem? (i := 12) rfl)) (ty := (.array .int)) (by decide) rfl rfl (g := (mkF m 11 #[.val (.ref a1), .val (.ref b1), .val (.ref b2), .val (.ref b3)] [(.ref b2), (.ref a1)])) rfl rfl (hb hby d3_11)
  have f3_4 := f2_4.wr W3
  have f3_3 := Fw2.other W3 (Or.inr (slot_ne (Or.inr (hw _ (List.mem_of_getElem? (i := 21) rfl))) (Or.inr (hw _ (List.mem_of_getElem? (i := 23) rfl))) (by decide) (t := (.array .int)) (t' := (.array .int)) (by decide) (by decide)))
  have f3_1 := f2_1.other W3 (Or.inr (slot_ne (Or.inr (hw _ (List.mem_of_getElem? (i := 25) rfl))) (Or.inr (hw _ (List.mem_of_getElem? (i := 23) rfl))) (by decide) (t := (.array .double)) (t' := (.array .int)) (by decide) (by decide)))
  have K3 := (K2).wr W3 (Or.inl (List.mem_of_getElem? (i := 0) rfl))
  have Z3 := Nat.le_trans Z2 (Keep.of_wr W3).1
  have Fw3 := f2_2.same W3
  have N3 := Fr.snoc X3 N2 g_a1
  refine own_pre st3 ?_
  show OwnGoes p e below _ (T3.setTop (mkF m 14 #[.val (.ref a1), .val (.ref b1), .val (.ref b2), .val (.ref b3)] []))
  refine own_pre (fun _ kz_ => XS.aloadN X3.here hx rfl (hb hby d3_14) rfl rfl kz_) ?_
  show OwnGoes p e below _ (T3.setTop (mkF m 15 #[.val (.ref a1), .val (.ref b1), .val (.ref b2), .val (.ref b3)] [(.ref a1)]))
  refine own_pre (fun _ kz_ => XS.aloadN X3.here hx rfl (hb hby d3_15) rfl rfl kz_) ?_
  show OwnGoes p e below _ (T3.setTop (mkF m 16 #[.val (.ref a1), .val (.ref b1), .val (.ref b2), .val (.ref b3)] [(.ref b3), (.ref a1)]))
  obtain ⟨T4, h4, X4, e4, W4, st4⟩ := putF X3 hx hZ hown (host := "") (Or.inl (hw _ (List.mem_of_getElem? (i := 24) rfl))) Via.refl e3 f3_1 f3_4 (Or.inr ⟨(hw _ (List.mem_of_getElem? (i := 25) rfl)), rfl, hnm⟩) (hw _ (List.mem_of_getElem? (i := 12) rfl)) (ty := (.array .double)) (by decide) rfl rfl (g := (mkF m 16 #[.val (.ref a1), .val (.ref b1), .val (.ref b2), .val (.ref b3)] [(.ref b3), (.ref a1)])) rfl rfl (hb hby d3_16)
  have f4_4 := f3_4.wr W4
  have f4_3 := f3_3.other W4 (Or.inr (slot_ne (Or.inr (hw _ (List.mem_of_getElem? (i := 21) rfl))) (Or.inr (hw _ (List.mem_of_getElem? (i := 25) rfl))) (by decide) (t := (.array .int)) (t' := (.array .double)) (by decide) (by decide)))
  have f4_2 := Fw3.other W4 (Or.inr (slot_ne (Or.inr (hw _ (List.mem_of_getElem? (i := 23) rfl))) (Or.inr (hw _ (List.mem_of_getElem? (i := 25) rfl))) (by decide) (t := (.array .int)) (t' := (.array .double)) (by decide) (by decide)))
  have K4 := (K3).wr W4 (Or.inl (List.mem_of_getElem? (i := 0) rfl))
  have Z4 := Nat.le_trans Z3 (Keep.of_wr W4).1
  have Fw4 := f3_1.same W4
  have N4 := Fr.snoc X4 N3 g_a1
  refine own_pre st4 ?_
  show OwnGoes p e below _ (T4.setTop (mkF m 19 #[.val (.ref a1), .val (.ref b1), .val (.ref b2), .val (.ref b3)] []))
  exact own_retV X4 hx Bd.returns Bd.notSynchronized (hb hby d3_19) ⟨rfl, N4, by rw [e4]; exact K4, by rw [e4]; exact f4_4, by rw [e4]; exact f4_3, by rw [e4]; exact f4_2, by rw [e4]; exact Fw4⟩ (by decide) (by decide)
def QRT (S : Int) (h0 : Heap) (n0 : Nat) (v : Option Value) (h : Heap) (L : List Loc) : Prop := ∃ x : UInt64, v = some (.double x) ∧ Fr n0 L ∧ h = h0 ∧ Jvm.FP.Core.DInt S x

theorem own_tk {es : OwnE} {i m : Nat} {e : Int32 × Int32} {vec : Int64} (he : es[i]? = some e) (hi : i < m) : own_sum vec ((es.take m).drop i) = e.2.toInt * (own_x vec e.1).toInt + own_sum vec ((es.take m).drop (i + 1)) := by
  have hl := (List.getElem?_eq_some_iff.mp he).1
  have h2 : i < (es.take m).length := by rw [List.length_take]; omega
  rw [List.drop_eq_getElem_cons h2]
  have e1 : (es.take m)[i] = e := by
    have q := (List.getElem?_eq_some_iff.mp he).2
    rw [List.getElem_take]; exact q
  rw [e1]; rfl
theorem own_oksub {es fs : OwnE} (h : OwnOk es) (hs : ∀ x ∈ fs, x ∈ es) : OwnOk fs := fun e he => h e (hs e he)
theorem own_bd {es : OwnE} {vec : Int64} {i i0 m : Nat} {S : Int} (ok : OwnOk es) (hl : es.length ≤ 12) (h : S + own_sum vec ((es.take m).drop i) = own_sum vec ((es.take m).drop i0)) : -100000000 ≤ S ∧ S ≤ 100000000 := by
  have h1 := own_sumb vec ((es.take m).drop i) (own_oksub ok fun x hx => List.mem_of_mem_take (List.mem_of_mem_drop hx))
  have h2 := own_sumb vec ((es.take m).drop i0) (own_oksub ok fun x hx => List.mem_of_mem_take (List.mem_of_mem_drop hx))
  have l1 : ((es.take m).drop i).length ≤ 12 := by rw [List.length_drop, List.length_take]; omega
  have l2 : ((es.take m).drop i0).length ≤ 12 := by rw [List.length_drop, List.length_take]; omega
  omega

set_option maxRecDepth 65536 in
set_option maxHeartbeats 40000000 in
theorem rmR (l : Launch) (Z : State) (a0 : Array Value) (hw : ∀ d ∈ tables_1, d.before a0 Z = true) (ws : List Jvm.Cond) (a1 b1 b2 b3 b4 : Addr) (row : Int32) (st : List Value) (es : OwnE) (vec : Int64) (i0 mz : Nat) (h0 : Heap) (n0 : Nat) (Z0 : n0 ≤ h0.size) (F0 : Fld Z h0 a1 "com/example/dual_bounds/dualbounds/numerics/SparseMatrix" "rowStart" "[I" (.ref b1)) (F1 : Fld Z h0 a1 "com/example/dual_bounds/dualbounds/numerics/SparseMatrix" "columns" "[I" (.ref b2)) (F2 : Fld Z h0 a1 "com/example/dual_bounds/dualbounds/numerics/SparseMatrix" "values" "[D" (.ref b3)) (V1 : OwnA Z h0 b1 .int st) (V2 : OwnA Z h0 b2 .int (own_cols es)) (V3 : OwnA Z h0 b3 .double (own_vals es)) (V4 : OwnA Z h0 b4 .double (own_vec vec)) (ok : OwnOk es) (hl : es.length ≤ 12) (hm : mz ≤ es.length) (hr0 : ¬ row < 0) (hr1 : ¬ (row + (1 : Int32)) < 0) (hs0 : st[row.toNatClampNeg]? = some (.int (Int32.ofNat i0))) (hs1 : st[(row + (1 : Int32)).toNatClampNeg]? = some (.int (Int32.ofNat mz))) (hi0 : i0 ≤ mz) :
    MetFree l (⟨"com/example/dual_bounds/dualbounds/numerics/SparseMatrix", "rowTimes", "(I[D)D"⟩ : MethodName) (head1 (Jvm.Cond.code (⟨"com/example/dual_bounds/dualbounds/numerics/SparseMatrix", "rowTimes", "(I[D)D"⟩ : MethodName) prog_68_method_8_code 6 (some .double) :: ws) ({ frames := 0, cells := 0, slots := 0, locals := 0 } : Room)) (fun a U => a = #[(.ref a1), (.int row), (.ref b4)] ∧ Z.Warmed39 U.vm ∧ U.heap = h0) (fun _ _ _ _ _ => True) (fun _ Uw_ ow_ Ue_ => ∃ vw_ Lw_, ow_ = .returned vw_ ∧ QRT (own_sum vec ((es.take mz).drop i0)) h0 n0 vw_ Ue_.heap Lw_ ∧ FrameEnd Uw_ ow_ Ue_ Lw_ ({ frames := 0, cells := 0, slots := 0, locals := 0 } : Room).cells ({ frames := 0, cells := 0, slots := 0, locals := 0 } : Room).slots) := by
  refine MetFree.of_bodySF (plainFor_of_name (by first | (simp [plainName, overriddenIn]; done) | decide +kernel)) hisR ?_
  intro p e s m args below meth c s₁ Bd hml0 hP hK
  obtain ⟨rfl, hZ, hh⟩ := hP
  have hx := Bd.exec
  have hby := Bd.bytes
  have hml : c.maxLocals = 6 := hml0
  have hown : s.vm.findClass "com/example/dual_bounds/dualbounds/numerics/SparseMatrix" = some m.cls := findClass_of_methodNamed Bd.named
  have hnm := (name_of_methodNamed Bd.named Bd.method).1
  have X0 : Stand p l e ({ frames := 0, cells := 0, slots := 0, locals := 0 } : Room) s m #[(.ref a1), (.int row), (.ref b4)] below meth c s₁ [] 0 0 := Stand.of_body Bd
  have e0 : s₁.heap = h0 := by rw [← hh, Bd.state]; rfl
  have N0 := Fr.nil n0
  have ef : entryFrame m #[(.ref a1), (.int row), (.ref b4)] 6 = (mkF m 0 #[.val (.ref a1), .val (.int row), .val (.ref b4), .unset, .unset, .unset] []) := by first | (simp [entryFrame, mkF, argsToLocals, Value.category]; done) | rfl
  show OwnGoes p e below (fun ow_ Ue_ => ∃ vw_ Lw_, ow_ = .returned vw_ ∧ QRT (own_sum vec ((es.take mz).drop i0)) h0 n0 vw_ Ue_.heap Lw_ ∧ FrameEnd s ow_ Ue_ Lw_ ({ frames := 0, cells := 0, slots := 0, locals := 0 } : Room).cells ({ frames := 0, cells := 0, slots := 0, locals := 0 } : Room).slots) (s₁.setTop (entryFrame m #[(.ref a1), (.int row), (.ref b4)] 6))
  refine own_pre (fun t k => castTop ef k) ?_
  have loop : ∀ (k i : Nat) (sm : UInt64) (S : Int) (T : State) (X : Stand p l e ({ frames := 0, cells := 0, slots := 0, locals := 0 } : Room) s m #[(.ref a1), (.int row), (.ref b4)] below meth c T [] 0 0) (eh : T.heap = h0) (hS : Jvm.FP.Core.DInt S sm) (hk : i + k = mz) (hinv : S + own_sum vec ((es.take mz).drop i) = own_sum vec ((es.take mz).drop i0)) (hi : i ≤ mz), OwnGoes p e below (fun ow_ Ue_ => ∃ vw_ Lw_, ow_ = .returned vw_ ∧ QRT (own_sum vec ((es.take mz).drop i0)) h0 n0 vw_ Ue_.heap Lw_ ∧ FrameEnd s ow_ Ue_ Lw_ ({ frames := 0, cells := 0, slots := 0, locals := 0 } : Room).cells ({ frames := 0, cells := 0, slots := 0, locals := 0 } : Room).slots) (T.setTop (mkF m 10 #[.val (.ref a1), .val (.int row), .val (.ref b4), .val (.double sm), .second, .val (.int (Int32.ofNat i))] [])) := by
    intro k
    induction k with
    | zero =>
      intro i sm S T X eh hS hk hinv hi
      have hfin : own_sum vec ((es.take mz).drop i0) = S := by rw [← hinv, List.drop_eq_nil_of_le (by rw [List.length_take]; omega)]; show S + 0 = S; omega
      show OwnGoes p e below _ (T.setTop (mkF m 10 #[.val (.ref a1), .val (.int row), .val (.ref b4), .val (.double sm), .second, .val (.int (Int32.ofNat i))] []))
      refine own_pre (fun _ kz_ => XS.iload X.here hx rfl (hb hby d5_10) rfl kz_) ?_
      show OwnGoes p e below _ (T.setTop (mkF m 12 #[.val (.ref a1), .val (.int row), .val (.ref b4), .val (.double sm), .second, .val (.int (Int32.ofNat i))] [(.int (Int32.ofNat i))]))
      refine own_pre (fun _ kz_ => XS.aloadN X.here hx rfl (hb hby d5_12) rfl rfl kz_) ?_
      show OwnGoes p e below _ (T.setTop (mkF m 13 #[.val (.ref a1), .val (.int row), .val (.ref b4), .val (.double sm), .second, .val (.int (Int32.ofNat i))] [(.ref a1), (.int (Int32.ofNat i))]))
      obtain ⟨T1, X1, e1, st1⟩ := getF X hx hZ hown (host := "") (Or.inl (hw _ (List.mem_of_getElem? (i := 20) rfl))) Via.refl eh F0 (g := (mkF m 13 #[.val (.ref a1), .val (.int row), .val (.ref b4), .val (.double sm), .second, .val (.int (Int32.ofNat i))] [(.ref a1), (.int (Int32.ofNat i))])) rfl rfl (hb hby d5_13)
      refine own_pre st1 ?_
      show OwnGoes p e below _ (T1.setTop (mkF m 16 #[.val (.ref a1), .val (.int row), .val (.ref b4), .val (.double sm), .second, .val (.int (Int32.ofNat i))] [(.ref b1), (.int (Int32.ofNat i))]))
      refine own_pre (fun _ kz_ => XS.iloadN X1.here hx rfl (hb hby d5_16) rfl kz_) ?_
      show OwnGoes p e below _ (T1.setTop (mkF m 17 #[.val (.ref a1), .val (.int row), .val (.ref b4), .val (.double sm), .second, .val (.int (Int32.ofNat i))] [(.int row), (.ref b1), (.int (Int32.ofNat i))]))
      refine own_pre (fun _ kz_ => XS.iconst X1.here hx rfl (hb hby d5_17) kz_) ?_
      show OwnGoes p e below _ (T1.setTop (mkF m 18 #[.val (.ref a1), .val (.int row), .val (.ref b4), .val (.double sm), .second, .val (.int (Int32.ofNat i))] [(.int (1 : Int32)), (.int row), (.ref b1), (.int (Int32.ofNat i))]))
      refine own_pre (fun _ kz_ => XS.iadd X1.here hx rfl (hb hby d5_18) rfl kz_) ?_
      show OwnGoes p e below _ (T1.setTop (mkF m 19 #[.val (.ref a1), .val (.int row), .val (.ref b4), .val (.double sm), .second, .val (.int (Int32.ofNat i))] [(.int (row + (1 : Int32))), (.ref b1), (.int (Int32.ofNat i))]))
      refine own_pre (own_iald X1 hx hZ e1 V1 (j := (row + (1 : Int32))) (v := (.int (Int32.ofNat mz))) hr1 hs1 (g := (mkF m 19 #[.val (.ref a1), .val (.int row), .val (.ref b4), .val (.double sm), .second, .val (.int (Int32.ofNat i))] [(.int (row + (1 : Int32))), (.ref b1), (.int (Int32.ofNat i))])) rfl rfl (hb hby d5_19)) ?_
      show OwnGoes p e below _ (T1.setTop (mkF m 20 #[.val (.ref a1), .val (.int row), .val (.ref b4), .val (.double sm), .second, .val (.int (Int32.ofNat i))] [(.int (Int32.ofNat mz)), (.int (Int32.ofNat i))]))
      refine own_pre (fun _ kz_ => XS.icmpYes X1.here hx rfl (pc0 := 20) (pc' := 49) rfl (hb hby d5_20) rfl (flt (by rw [show i = mz by omega]; exact Int32.lt_irrefl : ¬ ((Int32.ofNat i) < (Int32.ofNat mz)))).2.1 (by decide) (by decide) kz_) ?_
      show OwnGoes p e below _ (T1.setTop (mkF m 49 #[.val (.ref a1), .val (.int row), .val (.ref b4), .val (.double sm), .second, .val (.int (Int32.ofNat i))] []))
      refine own_pre (fun _ kz_ => XS.dloadN X1.here hx rfl (hb hby d5_49) rfl kz_) ?_
      show OwnGoes p e below _ (T1.setTop (mkF m 50 #[.val (.ref a1), .val (.int row), .val (.ref b4), .val (.double sm), .second, .val (.int (Int32.ofNat i))] [(.double sm)]))
      exact own_ret X1 hx Bd.returns (rfl) (Or.inr (Or.inr (Or.inl ⟨rfl, rfl, _, rfl⟩))) Bd.notSynchronized (hb hby d5_50) ⟨sm, rfl, N0, e1, by rw [hfin]; exact hS⟩ (by decide) (by decide)
    | succ k ih =>
      intro i sm S T X eh hS hk hinv hi
      obtain ⟨e_, he⟩ : ∃ e_, es[i]? = some e_ := ⟨_, List.getElem?_eq_getElem (by omega)⟩
      have hSb : -100000000 ≤ S ∧ S ≤ 100000000 := own_bd ok hl hinv
      show OwnGoes p e below _ (T.setTop (mkF m 10 #[.val (.ref a1), .val (.int row), .val (.ref b4), .val (.double sm), .second, .val (.int (Int32.ofNat i))] []))
      refine own_pre (fun _ kz_ => XS.iload X.here hx rfl (hb hby d5_10) rfl kz_) ?_
      show OwnGoes p e below _ (T.setTop (mkF m 12 #[.val (.ref a1), .val (.int row), .val (.ref b4), .val (.double sm), .second, .val (.int (Int32.ofNat i))] [(.int (Int32.ofNat i))]))
      refine own_pre (fun _ kz_ => XS.aloadN X.here hx rfl (hb hby d5_12) rfl rfl kz_) ?_
      show OwnGoes p e below _ (T.setTop (mkF m 13 #[.val (.ref a1), .val (.int row), .val (.ref b4), .val (.double sm), .second, .val (.int (Int32.ofNat i))] [(.ref a1), (.int (Int32.ofNat i))]))
      obtain ⟨T2, X2, e2, st2⟩ := getF X hx hZ hown (host := "") (Or.inl (hw _ (List.mem_of_getElem? (i := 20) rfl))) Via.refl eh F0 (g := (mkF m 13 #[.val (.ref a1), .val (.int row), .val (.ref b4), .val (.double sm), .second, .val (.int (Int32.ofNat i))] [(.ref a1), (.int (Int32.ofNat i))])) rfl rfl (hb hby d5_13)
      refine own_pre st2 ?_
      show OwnGoes p e below _ (T2.setTop (mkF m 16 #[.val (.ref a1), .val (.int row), .val (.ref b4), .val (.double sm), .second, .val (.int (Int32.ofNat i))] [(.ref b1), (.int (Int32.ofNat i))]))
      refine own_pre (fun _ kz_ => XS.iloadN X2.here hx rfl (hb hby d5_16) rfl kz_) ?_
      show OwnGoes p e below _ (T2.setTop (mkF m 17 #[.val (.ref a1), .val (.int row), .val (.ref b4), .val (.double sm), .second, .val (.int (Int32.ofNat i))] [(.int row), (.ref b1), (.int (Int32.ofNat i))]))
      refine own_pre (fun _ kz_ => XS.iconst X2.here hx rfl (hb hby d5_17) kz_) ?_
      show OwnGoes p e below _ (T2.setTop (mkF m 18 #[.val (.ref a1), .val (.int row), .val (.ref b4), .val (.double sm), .second, .val (.int (Int32.ofNat i))] [(.int (1 : Int32)), (.int row), (.ref b1), (.int (Int32.ofNat i))]))
      refine own_pre (fun _ kz_ => XS.iadd X2.here hx rfl (hb hby d5_18) rfl kz_) ?_
      show OwnGoes p e below _ (T2.setTop (mkF m 19 #[.val (.ref a1), .val (.int row), .val (.ref b4), .val (.double sm), .second, .val (.int (Int32.ofNat i))] [(.int (row + (1 : Int32))), (.ref b1), (.int (Int32.ofNat i))]))
      refine own_pre (own_iald X2 hx hZ e2 V1 (j := (row + (1 : Int32))) (v := (.int (Int32.ofNat mz))) hr1 hs1 (g := (mkF m 19 #[.val (.ref a1), .val (.int row), .val (.ref b4), .val (.double sm), .second, .val (.int (Int32.ofNat i))] [(.int (row + (1 : Int32))), (.ref b1), (.int (Int32.ofNat i))])) rfl rfl (hb hby d5_19)) ?_
      show OwnGoes p e below _ (T2.setTop (mkF m 20 #[.val (.ref a1), .val (.int row), .val (.ref b4), .val (.double sm), .second, .val (.int (Int32.ofNat i))] [(.int (Int32.ofNat mz)), (.int (Int32.ofNat i))]))
      refine own_pre (fun _ kz_ => XS.icmpNo X2.here hx rfl (hb hby d5_20) rfl (tlt (XT.lt32 (by omega) (by omega) : (Int32.ofNat i) < (Int32.ofNat mz))).2.1 kz_) ?_
      show OwnGoes p e below _ (T2.setTop (mkF m 23 #[.val (.ref a1), .val (.int row), .val (.ref b4), .val (.double sm), .second, .val (.int (Int32.ofNat i))] []))
      refine own_pre (fun _ kz_ => XS.dloadN X2.here hx rfl (hb hby d5_23) rfl kz_) ?_
      show OwnGoes p e below _ (T2.setTop (mkF m 24 #[.val (.ref a1), .val (.int row), .val (.ref b4), .val (.double sm), .second, .val (.int (Int32.ofNat i))] [(.double sm)]))
      refine own_pre (fun _ kz_ => XS.aloadN X2.here hx rfl (hb hby d5_24) rfl rfl kz_) ?_
      show OwnGoes p e below _ (T2.setTop (mkF m 25 #[.val (.ref a1), .val (.int row), .val (.ref b4), .val (.double sm), .second, .val (.int (Int32.ofNat i))] [(.ref a1), (.double sm)]))
      obtain ⟨T3, X3, e3, st3⟩ := getF X2 hx hZ hown (host := "") (Or.inl (hw _ (List.mem_of_getElem? (i := 24) rfl))) Via.refl e2 F2 (g := (mkF m 25 #[.val (.ref a1), .val (.int row), .val (.ref b4), .val (.double sm), .second, .val (.int (Int32.ofNat i))] [(.ref a1), (.double sm)])) rfl rfl (hb hby d5_25)
      refine own_pre st3 ?_
      show OwnGoes p e below _ (T3.setTop (mkF m 28 #[.val (.ref a1), .val (.int row), .val (.ref b4), .val (.double sm), .second, .val (.int (Int32.ofNat i))] [(.ref b3), (.double sm)]))
      refine own_pre (fun _ kz_ => XS.iload X3.here hx rfl (hb hby d5_28) rfl kz_) ?_
      show OwnGoes p e below _ (T3.setTop (mkF m 30 #[.val (.ref a1), .val (.int row), .val (.ref b4), .val (.double sm), .second, .val (.int (Int32.ofNat i))] [(.int (Int32.ofNat i)), (.ref b3), (.double sm)]))
      refine own_pre (own_dald X3 hx hZ e3 V3 (j := (Int32.ofNat i)) (v := (.double (Jvm.FP.i2d e_.2))) (Int32.ofNat_not_neg (by omega)) (own_valat he (by omega)) (g := (mkF m 30 #[.val (.ref a1), .val (.int row), .val (.ref b4), .val (.double sm), .second, .val (.int (Int32.ofNat i))] [(.int (Int32.ofNat i)), (.ref b3), (.double sm)])) rfl rfl (hb hby d5_30)) ?_
      show OwnGoes p e below _ (T3.setTop (mkF m 31 #[.val (.ref a1), .val (.int row), .val (.ref b4), .val (.double sm), .second, .val (.int (Int32.ofNat i))] [(.double (Jvm.FP.i2d e_.2)), (.double sm)]))
      refine own_pre (fun _ kz_ => XS.aloadN X3.here hx rfl (hb hby d5_31) rfl rfl kz_) ?_
      show OwnGoes p e below _ (T3.setTop (mkF m 32 #[.val (.ref a1), .val (.int row), .val (.ref b4), .val (.double sm), .second, .val (.int (Int32.ofNat i))] [(.ref b4), (.double (Jvm.FP.i2d e_.2)), (.double sm)]))
      refine own_pre (fun _ kz_ => XS.aloadN X3.here hx rfl (hb hby d5_32) rfl rfl kz_) ?_
      show OwnGoes p e below _ (T3.setTop (mkF m 33 #[.val (.ref a1), .val (.int row), .val (.ref b4), .val (.double sm), .second, .val (.int (Int32.ofNat i))] [(.ref a1), (.ref b4), (.double (Jvm.FP.i2d e_.2)), (.double sm)]))
      obtain ⟨T4, X4, e4, st4⟩ := getF X3 hx hZ hown (host := "") (Or.inl (hw _ (List.mem_of_getElem? (i := 22) rfl))) Via.refl e3 F1 (g := (mkF m 33 #[.val (.ref a1), .val (.int row), .val (.ref b4), .val (.double sm), .second, .val (.int (Int32.ofNat i))] [(.ref a1), (.ref b4), (.double (Jvm.FP.i2d e_.2)), (.double sm)])) rfl rfl (hb hby d5_33)
      refine own_pre st4 ?_
      show OwnGoes p e below _ (T4.setTop (mkF m 36 #[.val (.ref a1), .val (.int row), .val (.ref b4), .val (.double sm), .second, .val (.int (Int32.ofNat i))] [(.ref b2), (.ref b4), (.double (Jvm.FP.i2d e_.2)), (.double sm)]))
      refine own_pre (fun _ kz_ => XS.iload X4.here hx rfl (hb hby d5_36) rfl kz_) ?_
      show OwnGoes p e below _ (T4.setTop (mkF m 38 #[.val (.ref a1), .val (.int row), .val (.ref b4), .val (.double sm), .second, .val (.int (Int32.ofNat i))] [(.int (Int32.ofNat i)), (.ref b2), (.ref b4), (.double (Jvm.FP.i2d e_.2)), (.double sm)]))
      refine own_pre (own_iald X4 hx hZ e4 V2 (j := (Int32.ofNat i)) (v := (.int e_.1)) (Int32.ofNat_not_neg (by omega)) (own_colat he (by omega)) (g := (mkF m 38 #[.val (.ref a1), .val (.int row), .val (.ref b4), .val (.double sm), .second, .val (.int (Int32.ofNat i))] [(.int (Int32.ofNat i)), (.ref b2), (.ref b4), (.double (Jvm.FP.i2d e_.2)), (.double sm)])) rfl rfl (hb hby d5_38)) ?_
      show OwnGoes p e below _ (T4.setTop (mkF m 39 #[.val (.ref a1), .val (.int row), .val (.ref b4), .val (.double sm), .second, .val (.int (Int32.ofNat i))] [(.int e_.1), (.ref b4), (.double (Jvm.FP.i2d e_.2)), (.double sm)]))
      refine own_pre (own_dald X4 hx hZ e4 V4 (j := e_.1) (v := (.double (Jvm.FP.i2d (own_x vec e_.1)))) (own_vecat (vec := vec) ok he).1 (own_vecat ok he).2 (g := (mkF m 39 #[.val (.ref a1), .val (.int row), .val (.ref b4), .val (.double sm), .second, .val (.int (Int32.ofNat i))] [(.int e_.1), (.ref b4), (.double (Jvm.FP.i2d e_.2)), (.double sm)])) rfl rfl (hb hby d5_39)) ?_
      show OwnGoes p e below _ (T4.setTop (mkF m 40 #[.val (.ref a1), .val (.int row), .val (.ref b4), .val (.double sm), .second, .val (.int (Int32.ofNat i))] [(.double (Jvm.FP.i2d (own_x vec e_.1))), (.double (Jvm.FP.i2d e_.2)), (.double sm)]))
      refine own_pre (fun _ kz_ => XS.dmulS X4.here hx rfl (hb hby d5_40) rfl (own_nn (own_step (vec := vec) ok he hS hSb).1) rfl kz_) ?_
      show OwnGoes p e below _ (T4.setTop (mkF m 41 #[.val (.ref a1), .val (.int row), .val (.ref b4), .val (.double sm), .second, .val (.int (Int32.ofNat i))] [(.double (Jvm.FP.dmul (Jvm.FP.i2d e_.2) (Jvm.FP.i2d (own_x vec e_.1)))), (.double sm)]))
      refine own_pre (fun _ kz_ => XS.daddS X4.here hx rfl (hb hby d5_41) rfl (own_nn (own_step (vec := vec) ok he hS hSb).2) rfl kz_) ?_
      show OwnGoes p e below _ (T4.setTop (mkF m 42 #[.val (.ref a1), .val (.int row), .val (.ref b4), .val (.double sm), .second, .val (.int (Int32.ofNat i))] [(.double (Jvm.FP.dadd sm (Jvm.FP.dmul (Jvm.FP.i2d e_.2) (Jvm.FP.i2d (own_x vec e_.1)))))]))
      refine own_pre (fun _ kz_ => XS.dstoreN X4.here hx rfl (hb hby d5_42) rfl (l' := #[.val (.ref a1), .val (.int row), .val (.ref b4), .val (.double (Jvm.FP.dadd sm (Jvm.FP.dmul (Jvm.FP.i2d e_.2) (Jvm.FP.i2d (own_x vec e_.1))))), .second, .val (.int (Int32.ofNat i))]) rfl kz_) ?_
      show OwnGoes p e below _ (T4.setTop (mkF m 43 #[.val (.ref a1), .val (.int row), .val (.ref b4), .val (.double (Jvm.FP.dadd sm (Jvm.FP.dmul (Jvm.FP.i2d e_.2) (Jvm.FP.i2d (own_x vec e_.1))))), .second, .val (.int (Int32.ofNat i))] []))
      refine own_pre (fun _ kz_ => XS.iinc X4.here hx rfl (hb hby d5_43) rfl (l' := #[.val (.ref a1), .val (.int row), .val (.ref b4), .val (.double (Jvm.FP.dadd sm (Jvm.FP.dmul (Jvm.FP.i2d e_.2) (Jvm.FP.i2d (own_x vec e_.1))))), .second, .val (.int ((Int32.ofNat i) + (1 : Int32)))]) rfl kz_) ?_
      show OwnGoes p e below _ (T4.setTop (mkF m 46 #[.val (.ref a1), .val (.int row), .val (.ref b4), .val (.double (Jvm.FP.dadd sm (Jvm.FP.dmul (Jvm.FP.i2d e_.2) (Jvm.FP.i2d (own_x vec e_.1))))), .second, .val (.int ((Int32.ofNat i) + (1 : Int32)))] []))
      refine own_pre (fun _ kz_ => XS.goto X4.here hx rfl (pc0 := 46) (pc' := 10) rfl (hb hby d5_46) (by decide) (by decide) kz_) ?_
      show OwnGoes p e below _ (T4.setTop (mkF m 10 #[.val (.ref a1), .val (.int row), .val (.ref b4), .val (.double (Jvm.FP.dadd sm (Jvm.FP.dmul (Jvm.FP.i2d e_.2) (Jvm.FP.i2d (own_x vec e_.1))))), .second, .val (.int ((Int32.ofNat i) + (1 : Int32)))] []))
      rw [XT.succ32]
      exact ih (i + 1) _ _ _ X4 e4 (own_step (vec := vec) ok he hS hSb).2 (by omega) (by have q := own_tk (vec := vec) (m := mz) he (by omega); omega) (by omega)
  show OwnGoes p e below _ (s₁.setTop (mkF m 0 #[.val (.ref a1), .val (.int row), .val (.ref b4), .unset, .unset, .unset] []))
  refine own_pre (fun _ kz_ => XS.dconst0 X0.here hx rfl (hb hby d5_0) (v := (0 : UInt64)) (by decide +kernel) kz_) ?_
  show OwnGoes p e below _ (s₁.setTop (mkF m 1 #[.val (.ref a1), .val (.int row), .val (.ref b4), .unset, .unset, .unset] [(.double (0 : UInt64))]))
  refine own_pre (fun _ kz_ => XS.dstoreN X0.here hx rfl (hb hby d5_1) rfl (l' := #[.val (.ref a1), .val (.int row), .val (.ref b4), .val (.double (0 : UInt64)), .second, .unset]) rfl kz_) ?_
  show OwnGoes p e below _ (s₁.setTop (mkF m 2 #[.val (.ref a1), .val (.int row), .val (.ref b4), .val (.double (0 : UInt64)), .second, .unset] []))
  refine own_pre (fun _ kz_ => XS.aloadN X0.here hx rfl (hb hby d5_2) rfl rfl kz_) ?_
  show OwnGoes p e below _ (s₁.setTop (mkF m 3 #[.val (.ref a1), .val (.int row), .val (.ref b4), .val (.double (0 : UInt64)), .second, .unset] [(.ref a1)]))
  obtain ⟨T1, X1, e1, st1⟩ := getF X0 hx hZ hown (host := "") (Or.inl (hw _ (List.mem_of_getElem? (i := 20) rfl))) Via.refl e0 F0 (g := (mkF m 3 #[.val (.ref a1), .val (.int row), .val (.ref b4), .val (.double (0 : UInt64)), .second, .unset] [(.ref a1)])) rfl rfl (hb hby d5_3)
  refine own_pre st1 ?_
  show OwnGoes p e below _ (T1.setTop (mkF m 6 #[.val (.ref a1), .val (.int row), .val (.ref b4), .val (.double (0 : UInt64)), .second, .unset] [(.ref b1)]))
  refine own_pre (fun _ kz_ => XS.iloadN X1.here hx rfl (hb hby d5_6) rfl kz_) ?_
  show OwnGoes p e below _ (T1.setTop (mkF m 7 #[.val (.ref a1), .val (.int row), .val (.ref b4), .val (.double (0 : UInt64)), .second, .unset] [(.int row), (.ref b1)]))
  refine own_pre (own_iald X1 hx hZ e1 V1 (j := row) (v := (.int (Int32.ofNat i0))) hr0 hs0 (g := (mkF m 7 #[.val (.ref a1), .val (.int row), .val (.ref b4), .val (.double (0 : UInt64)), .second, .unset] [(.int row), (.ref b1)])) rfl rfl (hb hby d5_7)) ?_
  show OwnGoes p e below _ (T1.setTop (mkF m 8 #[.val (.ref a1), .val (.int row), .val (.ref b4), .val (.double (0 : UInt64)), .second, .unset] [(.int (Int32.ofNat i0))]))
  refine own_pre (fun _ kz_ => XS.istore X1.here hx rfl (hb hby d5_8) rfl (l' := #[.val (.ref a1), .val (.int row), .val (.ref b4), .val (.double (0 : UInt64)), .second, .val (.int (Int32.ofNat i0))]) rfl kz_) ?_
  show OwnGoes p e below _ (T1.setTop (mkF m 10 #[.val (.ref a1), .val (.int row), .val (.ref b4), .val (.double (0 : UInt64)), .second, .val (.int (Int32.ofNat i0))] []))
  exact loop (mz - i0) i0 _ 0 _ X1 e1 (by rw [show ((0 : UInt64)) = Jvm.FP.i2d 0 from by decide +kernel]; exact Jvm.FP.Core.i2d_int 0) (by omega) (by omega) (by omega)

theorem own_mod3 (p : Int32) : (((p.toUInt32 >>> ((12 : Int32) &&& 31).toUInt32).toInt32) &&& (255 : Int32)) % (3 : Int32) = (0 : Int32) ∨ (((p.toUInt32 >>> ((12 : Int32) &&& 31).toUInt32).toInt32) &&& (255 : Int32)) % (3 : Int32) = (1 : Int32) ∨ (((p.toUInt32 >>> ((12 : Int32) &&& 31).toUInt32).toInt32) &&& (255 : Int32)) % (3 : Int32) = (2 : Int32) := by
  generalize (p.toUInt32 >>> ((12 : Int32) &&& 31).toUInt32).toInt32 = y
  have h1 := c_mask y 255 8 (by decide) (by decide)
  have h2 := (c_irem (y &&& 255) (3 : Int32) 3 (by decide)).1 (by rw [h1]; omega)
  have h3 : ((y &&& 255) % (3 : Int32)).toInt = 0 ∨ ((y &&& 255) % (3 : Int32)).toInt = 1 ∨ ((y &&& 255) % (3 : Int32)).toInt = 2 := by omega
  rcases h3 with h | h | h
  · exact Or.inl (Int32.toInt_inj.mp h)
  · exact Or.inr (Or.inl (Int32.toInt_inj.mp h))
  · exact Or.inr (Or.inr (Int32.toInt_inj.mp h))
theorem own_fin {x : UInt64} {sh : Int32} {ws vec : Int64} {r : Int32} {fs : OwnE} (hx : Jvm.FP.Core.DInt (own_sum vec fs) x) (hf : fs = own_row [] sh ws r) : cmpValue (Jvm.FP.dcmp x (Jvm.FP.l2d (own_term sh ws vec r 0 + own_term sh ws vec r 1 + own_term sh ws vec r 2 + own_term sh ws vec r 3))) .l = (0 : Int32) := by
  rw [hf, ← own_ref] at hx
  have hb : ((own_term sh ws vec r 0 + own_term sh ws vec r 1 + own_term sh ws vec r 2 + own_term sh ws vec r 3).toInt).natAbs ≤ 2 ^ 53 := by
    rw [own_ref]
    have ok : OwnOk (own_row [] sh ws r) := own_okrow (fun e he => by cases he)
    have h1 := own_sumb vec (own_row [] sh ws r) ok
    have h2 : (own_row [] sh ws r).length ≤ 4 := by
      unfold own_row
      have a1 := own_addlen [] sh ws r 0
      have a2 := own_addlen (own_add [] sh ws r 0) sh ws r 1
      have a3 := own_addlen (own_add (own_add [] sh ws r 0) sh ws r 1) sh ws r 2
      have a4 := own_addlen (own_add (own_add (own_add [] sh ws r 0) sh ws r 1) sh ws r 2) sh ws r 3
      have a0 : ([] : OwnE).length = 0 := rfl
      omega
    have p53 : (2 : Nat) ^ 53 = 9007199254740992 := by decide
    rw [p53]; omega
  rw [show Jvm.FP.dcmp x (Jvm.FP.l2d (own_term sh ws vec r 0 + own_term sh ws vec r 1 + own_term sh ws vec r 2 + own_term sh ws vec r 3)) = some (compare (own_term sh ws vec r 0 + own_term sh ws vec r 1 + own_term sh ws vec r 2 + own_term sh ws vec r 3).toInt (own_term sh ws vec r 0 + own_term sh ws vec r 1 + own_term sh ws vec r 2 + own_term sh ws vec r 3).toInt) from Jvm.FP.Core.dcmp_int hx (Jvm.FP.Core.l2d_int hb), Jvm.FP.Core.compare_ite, if_neg (Int.lt_irrefl _), if_pos rfl]
  rfl

def Q0  (h0 : Heap) (n0 : Nat) (v : Option Value) (h : Heap) (L : List Loc) : Prop := v = some (.int (1 : Int32)) ∧ Fr n0 L
set_option maxRecDepth 65536 in
set_option maxHeartbeats 40000000 in
theorem rm0 (l : Launch) (Z : State) (a0 : Array Value) (hw : ∀ d ∈ tables_1, d.before a0 Z = true) (ws : List Jvm.Cond) (p0 : Int32) (q1 q3 : Int64) (h0 : Heap) (n0 : Nat) (Z0 : n0 ≤ h0.size) :
    MetFree l x (head1 (Jvm.Cond.code x code maxLocals ret :: ws) room_1) (fun a U => a = #[(.int p0), (.long q1), (.long q3)] ∧ Z.Warmed39 U.vm ∧ U.heap = h0) (fun _ _ _ _ _ => True) (fun _ Uw_ ow_ Ue_ => ∃ vw_ Lw_, ow_ = .returned vw_ ∧ Q0 h0 n0 vw_ Ue_.heap Lw_ ∧ FrameEnd Uw_ ow_ Ue_ Lw_ room_1.cells room_1.slots) := by
  refine MetFree.of_bodySF (plainFor_of_name (by first | (simp [plainName, overriddenIn]; done) | decide +kernel)) hisR ?_
  intro p e s m args below meth c s₁ Bd hml0 hP hK
  obtain ⟨rfl, hZ, hh⟩ := hP
  have hx := Bd.exec
  have hby := Bd.bytes
  have hml : c.maxLocals = 16 := hml0
  have hown : s.vm.findClass "com/example/dual_bounds/dualbounds/numerics/SparseMatrixRowTimesPinLaw" = some m.cls := findClass_of_methodNamed Bd.named
  have hnm := (name_of_methodNamed Bd.named Bd.method).1
  have X0 : Stand p l e room_1 s m #[(.int p0), (.long q1), (.long q3)] below meth c s₁ [] 0 0 := Stand.of_body Bd
  have e0 : s₁.heap = h0 := by rw [← hh, Bd.state]; rfl
  have N0 := Fr.nil n0
  have ef : entryFrame m #[(.int p0), (.long q1), (.long q3)] maxLocals = (mkF m 0 #[.val (.int p0), .val (.long q1), .second, .val (.long q3), .second, .unset, .unset, .unset, .unset, .unset, .unset, .unset, .unset, .unset, .unset, .unset] []) := by first | (simp [entryFrame, mkF, argsToLocals, Value.category, maxLocals]; done) | rfl
  show OwnGoes p e below (fun ow_ Ue_ => ∃ vw_ Lw_, ow_ = .returned vw_ ∧ Q0 h0 n0 vw_ Ue_.heap Lw_ ∧ FrameEnd s ow_ Ue_ Lw_ room_1.cells room_1.slots) (s₁.setTop (entryFrame m #[(.int p0), (.long q1), (.long q3)] maxLocals))
  refine own_pre (fun t k => castTop ef k) ?_
  show OwnGoes p e below _ (s₁.setTop (mkF m 0 #[.val (.int p0), .val (.long q1), .second, .val (.long q3), .second, .unset, .unset, .unset, .unset, .unset, .unset, .unset, .unset, .unset, .unset, .unset] []))
  refine own_pre (fun _ kz_ => XS.bipush X0.here hx rfl (hb hby at_0) kz_) ?_
  show OwnGoes p e below _ (s₁.setTop (mkF m 2 #[.val (.int p0), .val (.long q1), .second, .val (.long q3), .second, .unset, .unset, .unset, .unset, .unset, .unset, .unset, .unset, .unset, .unset, .unset] [(.int (12 : Int32))]))
  obtain ⟨T1, h1, X1, e1, E1, V1, st1⟩ := own_newa X0 hx hZ (hw _ (List.mem_of_getElem? (i := 0) rfl)) e0 (g := (mkF m 2 #[.val (.int p0), .val (.long q1), .second, .val (.long q3), .second, .unset, .unset, .unset, .unset, .unset, .unset, .unset, .unset, .unset, .unset, .unset] [(.int (12 : Int32))])) rfl (hb hby at_2) rfl (by decide) (cap := 12) (by decide) (by decide) (by decide) (by decide)
  obtain ⟨b5, g1⟩ : ∃ z, z = h0.size := ⟨_, rfl⟩
  rw [← g1] at V1 st1
  have g_b5 : n0 ≤ b5 := Nat.le_trans Z0 (Nat.le_of_eq g1.symm)
  have sz_b5 : h0.size ≤ b5 := Nat.le_trans ((Keep.refl h0 [])).1 (Nat.le_of_eq g1.symm)
  have K1 := ((Keep.refl h0 [])).ext E1
  have Z1 := Nat.le_trans Z0 E1.1
  have Va1 : OwnA Z h1 b5 .int (own_cols []) := V1
  refine own_pre st1 ?_
  show OwnGoes p e below _ (T1.setTop (mkF m 4 #[.val (.int p0), .val (.long q1), .second, .val (.long q3), .second, .unset, .unset, .unset, .unset, .unset, .unset, .unset, .unset, .unset, .unset, .unset] [(.ref b5)]))
  refine own_pre (fun _ kz_ => XS.astore X1.here hx rfl (hb hby at_4) rfl rfl (l' := #[.val (.int p0), .val (.long q1), .second, .val (.long q3), .second, .val (.ref b5), .unset, .unset, .unset, .unset, .unset, .unset, .unset, .unset, .unset, .unset]) rfl kz_) ?_
  show OwnGoes p e below _ (T1.setTop (mkF m 6 #[.val (.int p0), .val (.long q1), .second, .val (.long q3), .second, .val (.ref b5), .unset, .unset, .unset, .unset, .unset, .unset, .unset, .unset, .unset, .unset] []))
  refine own_pre (fun _ kz_ => XS.bipush X1.here hx rfl (hb hby at_6) kz_) ?_
  show OwnGoes p e below _ (T1.setTop (mkF m 8 #[.val (.int p0), .val (.long q1), .second, .val (.long q3), .second, .val (.ref b5), .unset, .unset, .unset, .unset, .unset, .unset, .unset, .unset, .unset, .unset] [(.int (12 : Int32))]))
  obtain ⟨T2, h2, X2, e2, E2, V2, st2⟩ := own_newa X1 hx hZ (hw _ (List.mem_of_getElem? (i := 1) rfl)) e1 (g := (mkF m 8 #[.val (.int p0), .val (.long q1), .second, .val (.long q3), .second, .val (.ref b5), .unset, .unset, .unset, .unset, .unset, .unset, .unset, .unset, .unset, .unset] [(.int (12 : Int32))])) rfl (hb hby at_8) rfl (by decide) (cap := 12) (by decide) (by decide) (by decide) (by decide)
  obtain ⟨b6, g2⟩ : ∃ z, z = h1.size := ⟨_, rfl⟩
  rw [← g2] at V2 st2
  have g_b6 : n0 ≤ b6 := Nat.le_trans Z1 (Nat.le_of_eq g2.symm)
  have sz_b6 : h0.size ≤ b6 := Nat.le_trans (K1).1 (Nat.le_of_eq g2.symm)
  have ne_b5_b6 : b5 ≠ b6 := Nat.ne_of_lt (Nat.lt_of_lt_of_le Va1.lt (Nat.le_of_eq g2.symm))
  have f2_1 := Va1.ext E2
  have K2 := (K1).ext E2
  have Z2 := Nat.le_trans Z1 E2.1
  have Va2 : OwnA Z h2 b6 .double (own_vals []) := V2
  refine own_pre st2 ?_
  show OwnGoes p e below _ (T2.setTop (mkF m 10 #[.val (.int p0), .val (.long q1), .second, .val (.long q3), .second, .val (.ref b5), .unset, .unset, .unset, .unset, .unset, .unset, .unset, .unset, .unset, .unset] [(.ref b6)]))
  refine own_pre (fun _ kz_ => XS.astore X2.here hx rfl (hb hby at_10) rfl rfl (l' := #[.val (.int p0), .val (.long q1), .second, .val (.long q3), .second, .val (.ref b5), .val (.ref b6), .unset, .unset, .unset, .unset, .unset, .unset, .unset, .unset, .unset]) rfl kz_) ?_
  show OwnGoes p e below _ (T2.setTop (mkF m 12 #[.val (.int p0), .val (.long q1), .second, .val (.long q3), .second, .val (.ref b5), .val (.ref b6), .unset, .unset, .unset, .unset, .unset, .unset, .unset, .unset, .unset] []))
  refine own_pre (fun _ kz_ => XS.iconst X2.here hx rfl (hb hby at_12) kz_) ?_
  show OwnGoes p e below _ (T2.setTop (mkF m 13 #[.val (.int p0), .val (.long q1), .second, .val (.long q3), .second, .val (.ref b5), .val (.ref b6), .unset, .unset, .unset, .unset, .unset, .unset, .unset, .unset, .unset] [(.int (4 : Int32))]))
  obtain ⟨T3, h3, X3, e3, E3, V3, st3⟩ := own_newa X2 hx hZ (hw _ (List.mem_of_getElem? (i := 0) rfl)) e2 (g := (mkF m 13 #[.val (.int p0), .val (.long q1), .second, .val (.long q3), .second, .val (.ref b5), .val (.ref b6), .unset, .unset, .unset, .unset, .unset, .unset, .unset, .unset, .unset] [(.int (4 : Int32))])) rfl (hb hby at_13) rfl (by decide) (cap := 4) (by decide) (by decide) (by decide) (by decide)
  obtain ⟨b7, g3⟩ : ∃ z, z = h2.size := ⟨_, rfl⟩
  rw [← g3] at V3 st3
  have g_b7 : n0 ≤ b7 := Nat.le_trans Z2 (Nat.le_of_eq g3.symm)
  have sz_b7 : h0.size ≤ b7 := Nat.le_trans (K2).1 (Nat.le_of_eq g3.symm)
  have ne_b6_b7 : b6 ≠ b7 := Nat.ne_of_lt (Nat.lt_of_lt_of_le Va2.lt (Nat.le_of_eq g3.symm))
  have ne_b5_b7 : b5 ≠ b7 := Nat.ne_of_lt (Nat.lt_of_lt_of_le f2_1.lt (Nat.le_of_eq g3.symm))
  have f3_2 := f2_1.ext E3
  have f3_1 := Va2.ext E3
  have K3 := (K2).ext E3
  have Z3 := Nat.le_trans Z2 E3.1
  have Va3 : OwnA Z h3 b7 .int [(.int (0 : Int32)), (.int (0 : Int32)), (.int (0 : Int32)), (.int (0 : Int32))] := V3
  refine own_pre st3 ?_
  show OwnGoes p e below _ (T3.setTop (mkF m 15 #[.val (.int p0), .val (.long q1), .second, .val (.long q3), .second, .val (.ref b5), .val (.ref b6), .unset, .unset, .unset, .unset, .unset, .unset, .unset, .unset, .unset] [(.ref b7)]))
  refine own_pre (fun _ kz_ => XS.astore X3.here hx rfl (hb hby at_15) rfl rfl (l' := #[.val (.int p0), .val (.long q1), .second, .val (.long q3), .second, .val (.ref b5), .val (.ref b6), .val (.ref b7), .unset, .unset, .unset, .unset, .unset, .unset, .unset, .unset]) rfl kz_) ?_
  show OwnGoes p e below _ (T3.setTop (mkF m 17 #[.val (.int p0), .val (.long q1), .second, .val (.long q3), .second, .val (.ref b5), .val (.ref b6), .val (.ref b7), .unset, .unset, .unset, .unset, .unset, .unset, .unset, .unset] []))
  refine own_pre (fun _ kz_ => XS.iconst X3.here hx rfl (hb hby at_17) kz_) ?_
  show OwnGoes p e below _ (T3.setTop (mkF m 18 #[.val (.int p0), .val (.long q1), .second, .val (.long q3), .second, .val (.ref b5), .val (.ref b6), .val (.ref b7), .unset, .unset, .unset, .unset, .unset, .unset, .unset, .unset] [(.int (0 : Int32))]))
  refine own_pre (fun _ kz_ => XS.istore X3.here hx rfl (hb hby at_18) rfl (l' := #[.val (.int p0), .val (.long q1), .second, .val (.long q3), .second, .val (.ref b5), .val (.ref b6), .val (.ref b7), .val (.int (0 : Int32)), .unset, .unset, .unset, .unset, .unset, .unset, .unset]) rfl kz_) ?_
  show OwnGoes p e below _ (T3.setTop (mkF m 20 #[.val (.int p0), .val (.long q1), .second, .val (.long q3), .second, .val (.ref b5), .val (.ref b6), .val (.ref b7), .val (.int (Int32.ofNat ([] : OwnE).length)), .unset, .unset, .unset, .unset, .unset, .unset, .unset] []))
  obtain ⟨E0, hE0⟩ : ∃ z : OwnE, z = [] := ⟨_, rfl⟩
  rw [← hE0]
  have l0 : E0.length ≤ 0 := by rw [hE0]; exact Nat.le_refl _
  obtain ⟨lz, Xz, Nz⟩ : ∃ lz, Stand p l e room_1 s m #[(.int p0), (.long q1), (.long q3)] below meth c T3 lz 3 28 ∧ Fr n0 lz := ⟨_, X3, N0⟩
  have U4 : OwnA Z h3 b5 .int (own_cols E0) := by rw [hE0]; exact f3_2
  have U5 : OwnA Z h3 b6 .double (own_vals E0) := by rw [hE0]; exact f3_1
  show OwnGoes p e below _ (T3.setTop (mkF m 20 #[.val (.int p0), .val (.long q1), .second, .val (.long q3), .second, .val (.ref b5), .val (.ref b6), .val (.ref b7), .val (.int (Int32.ofNat E0.length)), .unset, .unset, .unset, .unset, .unset, .unset, .unset] []))
  refine own_pre (fun _ kz_ => XS.aload Xz.here hx rfl (hb hby at_20) rfl rfl kz_) ?_
  show OwnGoes p e below _ (T3.setTop (mkF m 22 #[.val (.int p0), .val (.long q1), .second, .val (.long q3), .second, .val (.ref b5), .val (.ref b6), .val (.ref b7), .val (.int (Int32.ofNat E0.length)), .unset, .unset, .unset, .unset, .unset, .unset, .unset] [(.ref b7)]))
  refine own_pre (fun _ kz_ => XS.iconst Xz.here hx rfl (hb hby at_22) kz_) ?_
  show OwnGoes p e below _ (T3.setTop (mkF m 23 #[.val (.int p0), .val (.long q1), .second, .val (.long q3), .second, .val (.ref b5), .val (.ref b6), .val (.ref b7), .val (.int (Int32.ofNat E0.length)), .unset, .unset, .unset, .unset, .unset, .unset, .unset] [(.int (0 : Int32)), (.ref b7)]))
  refine own_pre (fun _ kz_ => XS.iconst Xz.here hx rfl (hb hby at_23) kz_) ?_
  show OwnGoes p e below _ (T3.setTop (mkF m 24 #[.val (.int p0), .val (.long q1), .second, .val (.long q3), .second, .val (.ref b5), .val (.ref b6), .val (.ref b7), .val (.int (Int32.ofNat E0.length)), .unset, .unset, .unset, .unset, .unset, .unset, .unset] [(.int (0 : Int32)), (.int (0 : Int32)), (.ref b7)]))
  obtain ⟨T6, h6, X6, e6, W6, V6, st6⟩ := own_ist Xz hx hZ e3 Va3 (j := (0 : Int32)) (by decide) (by show 0 < 4; decide) (g := (mkF m 24 #[.val (.int p0), .val (.long q1), .second, .val (.long q3), .second, .val (.ref b5), .val (.ref b6), .val (.ref b7), .val (.int (Int32.ofNat E0.length)), .unset, .unset, .unset, .unset, .unset, .unset, .unset] [(.int (0 : Int32)), (.int (0 : Int32)), (.ref b7)])) rfl rfl (hb hby at_24)
  have f6_3 := U4.other W6 ne_b5_b7
  have f6_2 := U5.other W6 ne_b6_b7
  have K6 := (K3).wr W6 (Or.inr sz_b7)
  have Z6 := Nat.le_trans Z3 (Keep.of_wr W6).1
  have Va6 : OwnA Z h6 b7 .int [(.int (0 : Int32)), (.int (0 : Int32)), (.int (0 : Int32)), (.int (0 : Int32))] := V6
  have N6 := Fr.snoc X6 Nz g_b7
  refine own_pre st6 ?_
  show OwnGoes p e below _ (T6.setTop (mkF m 25 #[.val (.int p0), .val (.long q1), .second, .val (.long q3), .second, .val (.ref b5), .val (.ref b6), .val (.ref b7), .val (.int (Int32.ofNat E0.length)), .unset, .unset, .unset, .unset, .unset, .unset, .unset] []))
  refine own_pre (fun _ kz_ => XS.aload X6.here hx rfl (hb hby at_25) rfl rfl kz_) ?_
  show OwnGoes p e below _ (T6.setTop (mkF m 27 #[.val (.int p0), .val (.long q1), .second, .val (.long q3), .second, .val (.ref b5), .val (.ref b6), .val (.ref b7), .val (.int (Int32.ofNat E0.length)), .unset, .unset, .unset, .unset, .unset, .unset, .unset] [(.ref b5)]))
  refine own_pre (fun _ kz_ => XS.aload X6.here hx rfl (hb hby at_27) rfl rfl kz_) ?_
  show OwnGoes p e below _ (T6.setTop (mkF m 29 #[.val (.int p0), .val (.long q1), .second, .val (.long q3), .second, .val (.ref b5), .val (.ref b6), .val (.ref b7), .val (.int (Int32.ofNat E0.length)), .unset, .unset, .unset, .unset, .unset, .unset, .unset] [(.ref b6), (.ref b5)]))
  refine own_pre (fun _ kz_ => XS.iload X6.here hx rfl (hb hby at_29) rfl kz_) ?_
  show OwnGoes p e below _ (T6.setTop (mkF m 31 #[.val (.int p0), .val (.long q1), .second, .val (.long q3), .second, .val (.ref b5), .val (.ref b6), .val (.ref b7), .val (.int (Int32.ofNat E0.length)), .unset, .unset, .unset, .unset, .unset, .unset, .unset] [(.int (Int32.ofNat E0.length)), (.ref b6), (.ref b5)]))
  refine own_pre (fun _ kz_ => XS.iloadN X6.here hx rfl (hb hby at_31) rfl kz_) ?_
  show OwnGoes p e below _ (T6.setTop (mkF m 32 #[.val (.int p0), .val (.long q1), .second, .val (.long q3), .second, .val (.ref b5), .val (.ref b6), .val (.ref b7), .val (.int (Int32.ofNat E0.length)), .unset, .unset, .unset, .unset, .unset, .unset, .unset] [(.int p0), (.int (Int32.ofNat E0.length)), (.ref b6), (.ref b5)]))
  refine own_pre (fun _ kz_ => XS.lloadN X6.here hx rfl (hb hby at_32) rfl kz_) ?_
  show OwnGoes p e below _ (T6.setTop (mkF m 33 #[.val (.int p0), .val (.long q1), .second, .val (.long q3), .second, .val (.ref b5), .val (.ref b6), .val (.ref b7), .val (.int (Int32.ofNat E0.length)), .unset, .unset, .unset, .unset, .unset, .unset, .unset] [(.long q1), (.int p0), (.int (Int32.ofNat E0.length)), (.ref b6), (.ref b5)]))
  refine own_pre (fun _ kz_ => XS.iconst X6.here hx rfl (hb hby at_33) kz_) ?_
  show OwnGoes p e below _ (T6.setTop (mkF m 34 #[.val (.int p0), .val (.long q1), .second, .val (.long q3), .second, .val (.ref b5), .val (.ref b6), .val (.ref b7), .val (.int (Int32.ofNat E0.length)), .unset, .unset, .unset, .unset, .unset, .unset, .unset] [(.int (0 : Int32)), (.long q1), (.int p0), (.int (Int32.ofNat E0.length)), (.ref b6), (.ref b5)]))
  refine own_pre (fun _ kz_ => XS.iconst X6.here hx rfl (hb hby at_34) kz_) ?_
  show OwnGoes p e below _ (T6.setTop (mkF m 35 #[.val (.int p0), .val (.long q1), .second, .val (.long q3), .second, .val (.ref b5), .val (.ref b6), .val (.ref b7), .val (.int (Int32.ofNat E0.length)), .unset, .unset, .unset, .unset, .unset, .unset, .unset] [(.int (0 : Int32)), (.int (0 : Int32)), (.long q1), (.int p0), (.int (Int32.ofNat E0.length)), (.ref b6), (.ref b5)]))
  obtain ⟨_, _, ⟨T7, L7, k7, n7⟩, -, X7, ⟨Lc7, hQ7, l7, y7, z7⟩, st7⟩ := Jvm.LawKit.callS X6 hx (y := (⟨"com/example/dual_bounds/dualbounds/numerics/SparseMatrixRowTimesPinLaw", "put", "([I[DIIJII)I"⟩ : MethodName)) hown (mvT hZ (hw _ (List.mem_of_getElem? (i := 2) rfl))) (mvT hZ (hw _ (List.mem_of_getElem? (i := 3) rfl))) (mvT hZ (hw _ (List.mem_of_getElem? (i := 4) rfl))) (mvT hZ (hw _ (List.mem_of_getElem? (i := 5) rfl))) (by decide) (backOf (W := 0) (rmP l Z a0 hw [] b5 b6 E0 p0 q1 (0 : Int32) (0 : Int32) h6 n0 Z6 f6_3 f6_2 ne_b5_b6 g_b5 g_b6 (by omega)) hZ (hw _ (List.mem_of_getElem? (i := 5) rfl)) (hw _ (List.mem_of_getElem? (i := 4) rfl)) (by decide) (by decide)) (g := (mkF m 35 #[.val (.int p0), .val (.long q1), .second, .val (.long q3), .second, .val (.ref b5), .val (.ref b6), .val (.ref b7), .val (.int (Int32.ofNat E0.length)), .unset, .unset, .unset, .unset, .unset, .unset, .unset] [(.int (0 : Int32)), (.int (0 : Int32)), (.long q1), (.int p0), (.int (Int32.ofNat E0.length)), (.ref b6), (.ref b5)])) rfl (by rw [hml]; rfl) (argsL := [(.ref b5), (.ref b6), (.int (Int32.ofNat E0.length)), (.int p0), (.long q1), (.int (0 : Int32)), (.int (0 : Int32))]) (rest := []) (lenOf (d := "([I[DIIJII)I") (ps := [(.array .int), (.array .double), .int, .int, .long, .int, .int]) (r := some .int) (by decide +kernel) rfl) rfl (by show 2 * 0 + _ ≤ _; exact Nat.le_of_eq rfl) (hb hby at_35) (fun _ _ => ⟨rfl, e6, (by decide : 3 + 0 ≤ _), (by decide : 28 + 0 ≤ _)⟩)
  dsimp only [Pt.U, Pt.locs, Pt.cells, Pt.slots] at X7 l7 y7 z7 st7 hQ7
  subst y7 z7
  obtain ⟨rfl, N7q, K7q, A7q, B7q⟩ := hQ7
  have N7 : Fr n0 L7 := by rw [l7]; exact Fr.app N6 N7q
  refine own_pre st7 ?_
  have f7_1 := Va6.keep K7q (by simp only [List.mem_cons, List.not_mem_nil, or_false, not_or]; exact ⟨(Ne.symm ne_b5_b7), (Ne.symm ne_b6_b7)⟩)
  have Z7 := Nat.le_trans Z6 K7q.1
  have KK7 := (K6).trans K7q (fun x hx => by simp only [List.mem_cons, List.not_mem_nil, or_false] at hx; rcases hx with rfl | rfl <;> first | exact Or.inl (List.mem_of_getElem? (i := 0) rfl) | exact Or.inl (List.mem_of_getElem? (i := 1) rfl) | exact Or.inr sz_b5 | exact Or.inr sz_b6 )
  obtain ⟨E1, hE1⟩ : ∃ z, z = (own_add E0 p0 q1 (0 : Int32) (0 : Int32)) := ⟨_, rfl⟩
  rw [← hE1] at A7q B7q
  rw [← hE1]
  have l1 : E1.length ≤ 1 := by rw [hE1]; exact Nat.le_trans (own_addlen ..) (by omega)
  show OwnGoes p e below _ (T7.setTop (mkF m 38 #[.val (.int p0), .val (.long q1), .second, .val (.long q3), .second, .val (.ref b5), .val (.ref b6), .val (.ref b7), .val (.int (Int32.ofNat E0.length)), .unset, .unset, .unset, .unset, .unset, .unset, .unset] [(.int (Int32.ofNat E1.length))]))
  refine own_pre (fun _ kz_ => XS.istore X7.here hx rfl (hb hby at_38) rfl (l' := #[.val (.int p0), .val (.long q1), .second, .val (.long q3), .second, .val (.ref b5), .val (.ref b6), .val (.ref b7), .val (.int (Int32.ofNat E1.length)), .unset, .unset, .unset, .unset, .unset, .unset, .unset]) rfl kz_) ?_
  show OwnGoes p e below _ (T7.setTop (mkF m 40 #[.val (.int p0), .val (.long q1), .second, .val (.long q3), .second, .val (.ref b5), .val (.ref b6), .val (.ref b7), .val (.int (Int32.ofNat E1.length)), .unset, .unset, .unset, .unset, .unset, .unset, .unset] []))
  refine own_pre (fun _ kz_ => XS.aload X7.here hx rfl (hb hby at_40) rfl rfl kz_) ?_
  show OwnGoes p e below _ (T7.setTop (mkF m 42 #[.val (.int p0), .val (.long q1), .second, .val (.long q3), .second, .val (.ref b5), .val (.ref b6), .val (.ref b7), .val (.int (Int32.ofNat E1.length)), .unset, .unset, .unset, .unset, .unset, .unset, .unset] [(.ref b5)]))
  refine own_pre (fun _ kz_ => XS.aload X7.here hx rfl (hb hby at_42) rfl rfl kz_) ?_
  show OwnGoes p e below _ (T7.setTop (mkF m 44 #[.val (.int p0), .val (.long q1), .second, .val (.long q3), .second, .val (.ref b5), .val (.ref b6), .val (.ref b7), .val (.int (Int32.ofNat E1.length)), .unset, .unset, .unset, .unset, .unset, .unset, .unset] [(.ref b6), (.ref b5)]))
  refine own_pre (fun _ kz_ => XS.iload X7.here hx rfl (hb hby at_44) rfl kz_) ?_
  show OwnGoes p e below _ (T7.setTop (mkF m 46 #[.val (.int p0), .val (.long q1), .second, .val (.long q3), .second, .val (.ref b5), .val (.ref b6), .val (.ref b7), .val (.int (Int32.ofNat E1.length)), .unset, .unset, .unset, .unset, .unset, .unset, .unset] [(.int (Int32.ofNat E1.length)), (.ref b6), (.ref b5)]))
  refine own_pre (fun _ kz_ => XS.iloadN X7.here hx rfl (hb hby at_46) rfl kz_) ?_
  show OwnGoes p e below _ (T7.setTop (mkF m 47 #[.val (.int p0), .val (.long q1), .second, .val (.long q3), .second, .val (.ref b5), .val (.ref b6), .val (.ref b7), .val (.int (Int32.ofNat E1.length)), .unset, .unset, .unset, .unset, .unset, .unset, .unset] [(.int p0), (.int (Int32.ofNat E1.length)), (.ref b6), (.ref b5)]))
  refine own_pre (fun _ kz_ => XS.lloadN X7.here hx rfl (hb hby at_47) rfl kz_) ?_
  show OwnGoes p e below _ (T7.setTop (mkF m 48 #[.val (.int p0), .val (.long q1), .second, .val (.long q3), .second, .val (.ref b5), .val (.ref b6), .val (.ref b7), .val (.int (Int32.ofNat E1.length)), .unset, .unset, .unset, .unset, .unset, .unset, .unset] [(.long q1), (.int p0), (.int (Int32.ofNat E1.length)), (.ref b6), (.ref b5)]))
  refine own_pre (fun _ kz_ => XS.iconst X7.here hx rfl (hb hby at_48) kz_) ?_
  show OwnGoes p e below _ (T7.setTop (mkF m 49 #[.val (.int p0), .val (.long q1), .second, .val (.long q3), .second, .val (.ref b5), .val (.ref b6), .val (.ref b7), .val (.int (Int32.ofNat E1.length)), .unset, .unset, .unset, .unset, .unset, .unset, .unset] [(.int (0 : Int32)), (.long q1), (.int p0), (.int (Int32.ofNat E1.length)), (.ref b6), (.ref b5)]))
  refine own_pre (fun _ kz_ => XS.iconst X7.here hx rfl (hb hby at_49) kz_) ?_
  show OwnGoes p e below _ (T7.setTop (mkF m 50 #[.val (.int p0), .val (.long q1), .second, .val (.long q3), .second, .val (.ref b5), .val (.ref b6), .val (.ref b7), .val (.int (Int32.ofNat E1.length)), .unset, .unset, .unset, .unset, .unset, .unset, .unset] [(.int (1 : Int32)), (.int (0 : Int32)), (.long q1), (.int p0), (.int (Int32.ofNat E1.length)), (.ref b6), (.ref b5)]))
  obtain ⟨_, _, ⟨T8, L8, k8, n8⟩, -, X8, ⟨Lc8, hQ8, l8, y8, z8⟩, st8⟩ := Jvm.LawKit.callS X7 hx (y := (⟨"com/example/dual_bounds/dualbounds/numerics/SparseMatrixRowTimesPinLaw", "put", "([I[DIIJII)I"⟩ : MethodName)) hown (mvT hZ (hw _ (List.mem_of_getElem? (i := 2) rfl))) (mvT hZ (hw _ (List.mem_of_getElem? (i := 3) rfl))) (mvT hZ (hw _ (List.mem_of_getElem? (i := 4) rfl))) (mvT hZ (hw _ (List.mem_of_getElem? (i := 5) rfl))) (by decide) (backOf (W := 0) (rmP l Z a0 hw [] b5 b6 E1 p0 q1 (0 : Int32) (1 : Int32) T7.heap n0 Z7 A7q B7q ne_b5_b6 g_b5 g_b6 (by omega)) hZ (hw _ (List.mem_of_getElem? (i := 5) rfl)) (hw _ (List.mem_of_getElem? (i := 4) rfl)) (by decide) (by decide)) (g := (mkF m 50 #[.val (.int p0), .val (.long q1), .second, .val (.long q3), .second, .val (.ref b5), .val (.ref b6), .val (.ref b7), .val (.int (Int32.ofNat E1.length)), .unset, .unset, .unset, .unset, .unset, .unset, .unset] [(.int (1 : Int32)), (.int (0 : Int32)), (.long q1), (.int p0), (.int (Int32.ofNat E1.length)), (.ref b6), (.ref b5)])) rfl (by rw [hml]; rfl) (argsL := [(.ref b5), (.ref b6), (.int (Int32.ofNat E1.length)), (.int p0), (.long q1), (.int (0 : Int32)), (.int (1 : Int32))]) (rest := []) (lenOf (d := "([I[DIIJII)I") (ps := [(.array .int), (.array .double), .int, .int, .long, .int, .int]) (r := some .int) (by decide +kernel) rfl) rfl (by show 2 * 0 + _ ≤ _; exact Nat.le_of_eq rfl) (hb hby at_50) (fun _ _ => ⟨rfl, rfl, (by decide : 3 + 0 ≤ _), (by decide : 28 + 0 ≤ _)⟩)
  dsimp only [Pt.U, Pt.locs, Pt.cells, Pt.slots] at X8 l8 y8 z8 st8 hQ8
  subst y8 z8
  obtain ⟨rfl, N8q, K8q, A8q, B8q⟩ := hQ8
  have N8 : Fr n0 L8 := by rw [l8]; exact Fr.app N7 N8q
  refine own_pre st8 ?_
  have f8_3 := f7_1.keep K8q (by simp only [List.mem_cons, List.not_mem_nil, or_false, not_or]; exact ⟨(Ne.symm ne_b5_b7), (Ne.symm ne_b6_b7)⟩)
  have Z8 := Nat.le_trans Z7 K8q.1
  have KK8 := (KK7).trans K8q (fun x hx => by simp only [List.mem_cons, List.not_mem_nil, or_false] at hx; rcases hx with rfl | rfl <;> first | exact Or.inl (List.mem_of_getElem? (i := 0) rfl) | exact Or.inl (List.mem_of_getElem? (i := 1) rfl) | exact Or.inr sz_b5 | exact Or.inr sz_b6 )
  obtain ⟨E2, hE2⟩ : ∃ z, z = (own_add E1 p0 q1 (0 : Int32) (1 : Int32)) := ⟨_, rfl⟩
  rw [← hE2] at A8q B8q
  rw [← hE2]
  have l2 : E2.length ≤ 2 := by rw [hE2]; exact Nat.le_trans (own_addlen ..) (by omega)
  show OwnGoes p e below _ (T8.setTop (mkF m 53 #[.val (.int p0), .val (.long q1), .second, .val (.long q3), .second, .val (.ref b5), .val (.ref b6), .val (.ref b7), .val (.int (Int32.ofNat E1.length)), .unset, .unset, .unset, .unset, .unset, .unset, .unset] [(.int (Int32.ofNat E2.length))]))
  refine own_pre (fun _ kz_ => XS.istore X8.here hx rfl (hb hby at_53) rfl (l' := #[.val (.int p0), .val (.long q1), .second, .val (.long q3), .second, .val (.ref b5), .val (.ref b6), .val (.ref b7), .val (.int (Int32.ofNat E2.length)), .unset, .unset, .unset, .unset, .unset, .unset, .unset]) rfl kz_) ?_
  show OwnGoes p e below _ (T8.setTop (mkF m 55 #[.val (.int p0), .val (.long q1), .second, .val (.long q3), .second, .val (.ref b5), .val (.ref b6), .val (.ref b7), .val (.int (Int32.ofNat E2.length)), .unset, .unset, .unset, .unset, .unset, .unset, .unset] []))
  refine own_pre (fun _ kz_ => XS.aload X8.here hx rfl (hb hby at_55) rfl rfl kz_) ?_
  show OwnGoes p e below _ (T8.setTop (mkF m 57 #[.val (.int p0), .val (.long q1), .second, .val (.long q3), .second, .val (.ref b5), .val (.ref b6), .val (.ref b7), .val (.int (Int32.ofNat E2.length)), .unset, .unset, .unset, .unset, .unset, .unset, .unset] [(.ref b5)]))
  refine own_pre (fun _ kz_ => XS.aload X8.here hx rfl (hb hby at_57) rfl rfl kz_) ?_
  show OwnGoes p e below _ (T8.setTop (mkF m 59 #[.val (.int p0), .val (.long q1), .second, .val (.long q3), .second, .val (.ref b5), .val (.ref b6), .val (.ref b7), .val (.int (Int32.ofNat E2.length)), .unset, .unset, .unset, .unset, .unset, .unset, .unset] [(.ref b6), (.ref b5)]))
  refine own_pre (fun _ kz_ => XS.iload X8.here hx rfl (hb hby at_59) rfl kz_) ?_
  show OwnGoes p e below _ (T8.setTop (mkF m 61 #[.val (.int p0), .val (.long q1), .second, .val (.long q3), .second, .val (.ref b5), .val (.ref b6), .val (.ref b7), .val (.int (Int32.ofNat E2.length)), .unset, .unset, .unset, .unset, .unset, .unset, .unset] [(.int (Int32.ofNat E2.length)), (.ref b6), (.ref b5)]))
  refine own_pre (fun _ kz_ => XS.iloadN X8.here hx rfl (hb hby at_61) rfl kz_) ?_
  show OwnGoes p e below _ (T8.setTop (mkF m 62 #[.val (.int p0), .val (.long q1), .second, .val (.long q3), .second, .val (.ref b5), .val (.ref b6), .val (.ref b7), .val (.int (Int32.ofNat E2.length)), .unset, .unset, .unset, .unset, .unset, .unset, .unset] [(.int p0), (.int (Int32.ofNat E2.length)), (.ref b6), (.ref b5)]))
  refine own_pre (fun _ kz_ => XS.lloadN X8.here hx rfl (hb hby at_62) rfl kz_) ?_
  show OwnGoes p e below _ (T8.setTop (mkF m 63 #[.val (.int p0), .val (.long q1), .second, .val (.long q3), .second, .val (.ref b5), .val (.ref b6), .val (.ref b7), .val (.int (Int32.ofNat E2.length)), .unset, .unset, .unset, .unset, .unset, .unset, .unset] [(.long q1), (.int p0), (.int (Int32.ofNat E2.length)), (.ref b6), (.ref b5)]))
  refine own_pre (fun _ kz_ => XS.iconst X8.here hx rfl (hb hby at_63) kz_) ?_
  show OwnGoes p e below _ (T8.setTop (mkF m 64 #[.val (.int p0), .val (.long q1), .second, .val (.long q3), .second, .val (.ref b5), .val (.ref b6), .val (.ref b7), .val (.int (Int32.ofNat E2.length)), .unset, .unset, .unset, .unset, .unset, .unset, .unset] [(.int (0 : Int32)), (.long q1), (.int p0), (.int (Int32.ofNat E2.length)), (.ref b6), (.ref b5)]))
  refine own_pre (fun _ kz_ => XS.iconst X8.here hx rfl (hb hby at_64) kz_) ?_
  show OwnGoes p e below _ (T8.setTop (mkF m 65 #[.val (.int p0), .val (.long q1), .second, .val (.long q3), .second, .val (.ref b5), .val (.ref b6), .val (.ref b7), .val (.int (Int32.ofNat E2.length)), .unset, .unset, .unset, .unset, .unset, .unset, .unset] [(.int (2 : Int32)), (.int (0 : Int32)), (.long q1), (.int p0), (.int (Int32.ofNat E2.length)), (.ref b6), (.ref b5)]))
  obtain ⟨_, _, ⟨T9, L9, k9, n9⟩, -, X9, ⟨Lc9, hQ9, l9, y9, z9⟩, st9⟩ := Jvm.LawKit.callS X8 hx (y := (⟨"com/example/dual_bounds/dualbounds/numerics/SparseMatrixRowTimesPinLaw", "put", "([I[DIIJII)I"⟩ : MethodName)) hown (mvT hZ (hw _ (List.mem_of_getElem? (i := 2) rfl))) (mvT hZ (hw _ (List.mem_of_getElem? (i := 3) rfl))) (mvT hZ (hw _ (List.mem_of_getElem? (i := 4) rfl))) (mvT hZ (hw _ (List.mem_of_getElem? (i := 5) rfl))) (by decide) (backOf (W := 0) (rmP l Z a0 hw [] b5 b6 E2 p0 q1 (0 : Int32) (2 : Int32) T8.heap n0 Z8 A8q B8q ne_b5_b6 g_b5 g_b6 (by omega)) hZ (hw _ (List.mem_of_getElem? (i := 5) rfl)) (hw _ (List.mem_of_getElem? (i := 4) rfl)) (by decide) (by decide)) (g := (mkF m 65 #[.val (.int p0), .val (.long q1), .second, .val (.long q3), .second, .val (.ref b5), .val (.ref b6), .val (.ref b7), .val (.int (Int32.ofNat E2.length)), .unset, .unset, .unset, .unset, .unset, .unset, .unset] [(.int (2 : Int32)), (.int (0 : Int32)), (.long q1), (.int p0), (.int (Int32.ofNat E2.length)), (.ref b6), (.ref b5)])) rfl (by rw [hml]; rfl) (argsL := [(.ref b5), (.ref b6), (.int (Int32.ofNat E2.length)), (.int p0), (.long q1), (.int (0 : Int32)), (.int (2 : Int32))]) (rest := []) (lenOf (d := "([I[DIIJII)I") (ps := [(.array .int), (.array .double), .int, .int, .long, .int, .int]) (r := some .int) (by decide +kernel) rfl) rfl (by show 2 * 0 + _ ≤ _; exact Nat.le_of_eq rfl) (hb hby at_65) (fun _ _ => ⟨rfl, rfl, (by decide : 3 + 0 ≤ _), (by decide : 28 + 0 ≤ _)⟩)
  dsimp only [Pt.U, Pt.locs, Pt.cells, Pt.slots] at X9 l9 y9 z9 st9 hQ9
  subst y9 z9
  obtain ⟨rfl, N9q, K9q, A9q, B9q⟩ := hQ9
  have N9 : Fr n0 L9 := by rw [l9]; exact Fr.app N8 N9q
  refine own_pre st9 ?_
  have f9_3 := f8_3.keep K9q (by simp only [List.mem_cons, List.not_mem_nil, or_false, not_or]; exact ⟨(Ne.symm ne_b5_b7), (Ne.symm ne_b6_b7)⟩)
  have Z9 := Nat.le_trans Z8 K9q.1
  have KK9 := (KK8).trans K9q (fun x hx => by simp only [List.mem_cons, List.not_mem_nil, or_false] at hx; rcases hx with rfl | rfl <;> first | exact Or.inl (List.mem_of_getElem? (i := 0) rfl) | exact Or.inl (List.mem_of_getElem? (i := 1) rfl) | exact Or.inr sz_b5 | exact Or.inr sz_b6 )
  obtain ⟨E3, hE3⟩ : ∃ z, z = (own_add E2 p0 q1 (0 : Int32) (2 : Int32)) := ⟨_, rfl⟩
  rw [← hE3] at A9q B9q
  rw [← hE3]
  have l3 : E3.length ≤ 3 := by rw [hE3]; exact Nat.le_trans (own_addlen ..) (by omega)
  show OwnGoes p e below _ (T9.setTop (mkF m 68 #[.val (.int p0), .val (.long q1), .second, .val (.long q3), .second, .val (.ref b5), .val (.ref b6), .val (.ref b7), .val (.int (Int32.ofNat E2.length)), .unset, .unset, .unset, .unset, .unset, .unset, .unset] [(.int (Int32.ofNat E3.length))]))
  refine own_pre (fun _ kz_ => XS.istore X9.here hx rfl (hb hby at_68) rfl (l' := #[.val (.int p0), .val (.long q1), .second, .val (.long q3), .second, .val (.ref b5), .val (.ref b6), .val (.ref b7), .val (.int (Int32.ofNat E3.length)), .unset, .unset, .unset, .unset, .unset, .unset, .unset]) rfl kz_) ?_
  show OwnGoes p e below _ (T9.setTop (mkF m 70 #[.val (.int p0), .val (.long q1), .second, .val (.long q3), .second, .val (.ref b5), .val (.ref b6), .val (.ref b7), .val (.int (Int32.ofNat E3.length)), .unset, .unset, .unset, .unset, .unset, .unset, .unset] []))
  refine own_pre (fun _ kz_ => XS.aload X9.here hx rfl (hb hby at_70) rfl rfl kz_) ?_
  show OwnGoes p e below _ (T9.setTop (mkF m 72 #[.val (.int p0), .val (.long q1), .second, .val (.long q3), .second, .val (.ref b5), .val (.ref b6), .val (.ref b7), .val (.int (Int32.ofNat E3.length)), .unset, .unset, .unset, .unset, .unset, .unset, .unset] [(.ref b5)]))
  refine own_pre (fun _ kz_ => XS.aload X9.here hx rfl (hb hby at_72) rfl rfl kz_) ?_
  show OwnGoes p e below _ (T9.setTop (mkF m 74 #[.val (.int p0), .val (.long q1), .second, .val (.long q3), .second, .val (.ref b5), .val (.ref b6), .val (.ref b7), .val (.int (Int32.ofNat E3.length)), .unset, .unset, .unset, .unset, .unset, .unset, .unset] [(.ref b6), (.ref b5)]))
  refine own_pre (fun _ kz_ => XS.iload X9.here hx rfl (hb hby at_74) rfl kz_) ?_
  show OwnGoes p e below _ (T9.setTop (mkF m 76 #[.val (.int p0), .val (.long q1), .second, .val (.long q3), .second, .val (.ref b5), .val (.ref b6), .val (.ref b7), .val (.int (Int32.ofNat E3.length)), .unset, .unset, .unset, .unset, .unset, .unset, .unset] [(.int (Int32.ofNat E3.length)), (.ref b6), (.ref b5)]))
  refine own_pre (fun _ kz_ => XS.iloadN X9.here hx rfl (hb hby at_76) rfl kz_) ?_
  show OwnGoes p e below _ (T9.setTop (mkF m 77 #[.val (.int p0), .val (.long q1), .second, .val (.long q3), .second, .val (.ref b5), .val (.ref b6), .val (.ref b7), .val (.int (Int32.ofNat E3.length)), .unset, .unset, .unset, .unset, .unset, .unset, .unset] [(.int p0), (.int (Int32.ofNat E3.length)), (.ref b6), (.ref b5)]))
  refine own_pre (fun _ kz_ => XS.lloadN X9.here hx rfl (hb hby at_77) rfl kz_) ?_
  show OwnGoes p e below _ (T9.setTop (mkF m 78 #[.val (.int p0), .val (.long q1), .second, .val (.long q3), .second, .val (.ref b5), .val (.ref b6), .val (.ref b7), .val (.int (Int32.ofNat E3.length)), .unset, .unset, .unset, .unset, .unset, .unset, .unset] [(.long q1), (.int p0), (.int (Int32.ofNat E3.length)), (.ref b6), (.ref b5)]))
  refine own_pre (fun _ kz_ => XS.iconst X9.here hx rfl (hb hby at_78) kz_) ?_
  show OwnGoes p e below _ (T9.setTop (mkF m 79 #[.val (.int p0), .val (.long q1), .second, .val (.long q3), .second, .val (.ref b5), .val (.ref b6), .val (.ref b7), .val (.int (Int32.ofNat E3.length)), .unset, .unset, .unset, .unset, .unset, .unset, .unset] [(.int (0 : Int32)), (.long q1), (.int p0), (.int (Int32.ofNat E3.length)), (.ref b6), (.ref b5)]))
  refine own_pre (fun _ kz_ => XS.iconst X9.here hx rfl (hb hby at_79) kz_) ?_
  show OwnGoes p e below _ (T9.setTop (mkF m 80 #[.val (.int p0), .val (.long q1), .second, .val (.long q3), .second, .val (.ref b5), .val (.ref b6), .val (.ref b7), .val (.int (Int32.ofNat E3.length)), .unset, .unset, .unset, .unset, .unset, .unset, .unset] [(.int (3 : Int32)), (.int (0 : Int32)), (.long q1), (.int p0), (.int (Int32.ofNat E3.length)), (.ref b6), (.ref b5)]))
  obtain ⟨_, _, ⟨T10, L10, k10, n10⟩, -, X10, ⟨Lc10, hQ10, l10, y10, z10⟩, st10⟩ := Jvm.LawKit.callS X9 hx (y := (⟨"com/example/dual_bounds/dualbounds/numerics/SparseMatrixRowTimesPinLaw", "put", "([I[DIIJII)I"⟩ : MethodName)) hown (mvT hZ (hw _ (List.mem_of_getElem? (i := 2) rfl))) (mvT hZ (hw _ (List.mem_of_getElem? (i := 3) rfl))) (mvT hZ (hw _ (List.mem_of_getElem? (i := 4) rfl))) (mvT hZ (hw _ (List.mem_of_getElem? (i := 5) rfl))) (by decide) (backOf (W := 0) (rmP l Z a0 hw [] b5 b6 E3 p0 q1 (0 : Int32) (3 : Int32) T9.heap n0 Z9 A9q B9q ne_b5_b6 g_b5 g_b6 (by omega)) hZ (hw _ (List.mem_of_getElem? (i := 5) rfl)) (hw _ (List.mem_of_getElem? (i := 4) rfl)) (by decide) (by decide)) (g := (mkF m 80 #[.val (.int p0), .val (.long q1), .second, .val (.long q3), .second, .val (.ref b5), .val (.ref b6), .val (.ref b7), .val (.int (Int32.ofNat E3.length)), .unset, .unset, .unset, .unset, .unset, .unset, .unset] [(.int (3 : Int32)), (.int (0 : Int32)), (.long q1), (.int p0), (.int (Int32.ofNat E3.length)), (.ref b6), (.ref b5)])) rfl (by rw [hml]; rfl) (argsL := [(.ref b5), (.ref b6), (.int (Int32.ofNat E3.length)), (.int p0), (.long q1), (.int (0 : Int32)), (.int (3 : Int32))]) (rest := []) (lenOf (d := "([I[DIIJII)I") (ps := [(.array .int), (.array .double), .int, .int, .long, .int, .int]) (r := some .int) (by decide +kernel) rfl) rfl (by show 2 * 0 + _ ≤ _; exact Nat.le_of_eq rfl) (hb hby at_80) (fun _ _ => ⟨rfl, rfl, (by decide : 3 + 0 ≤ _), (by decide : 28 + 0 ≤ _)⟩)
  dsimp only [Pt.U, Pt.locs, Pt.cells, Pt.slots] at X10 l10 y10 z10 st10 hQ10
  subst y10 z10
  obtain ⟨rfl, N10q, K10q, A10q, B10q⟩ := hQ10
  have N10 : Fr n0 L10 := by rw [l10]; exact Fr.app N9 N10q
  refine own_pre st10 ?_
  have f10_3 := f9_3.keep K10q (by simp only [List.mem_cons, List.not_mem_nil, or_false, not_or]; exact ⟨(Ne.symm ne_b5_b7), (Ne.symm ne_b6_b7)⟩)
  have Z10 := Nat.le_trans Z9 K10q.1
  have KK10 := (KK9).trans K10q (fun x hx => by simp only [List.mem_cons, List.not_mem_nil, or_false] at hx; rcases hx with rfl | rfl <;> first | exact Or.inl (List.mem_of_getElem? (i := 0) rfl) | exact Or.inl (List.mem_of_getElem? (i := 1) rfl) | exact Or.inr sz_b5 | exact Or.inr sz_b6 )
  obtain ⟨E4, hE4⟩ : ∃ z, z = (own_add E3 p0 q1 (0 : Int32) (3 : Int32)) := ⟨_, rfl⟩
  rw [← hE4] at A10q B10q
  rw [← hE4]
  have l4 : E4.length ≤ 4 := by rw [hE4]; exact Nat.le_trans (own_addlen ..) (by omega)
  show OwnGoes p e below _ (T10.setTop (mkF m 83 #[.val (.int p0), .val (.long q1), .second, .val (.long q3), .second, .val (.ref b5), .val (.ref b6), .val (.ref b7), .val (.int (Int32.ofNat E3.length)), .unset, .unset, .unset, .unset, .unset, .unset, .unset] [(.int (Int32.ofNat E4.length))]))
  refine own_pre (fun _ kz_ => XS.istore X10.here hx rfl (hb hby at_83) rfl (l' := #[.val (.int p0), .val (.long q1), .second, .val (.long q3), .second, .val (.ref b5), .val (.ref b6), .val (.ref b7), .val (.int (Int32.ofNat E4.length)), .unset, .unset, .unset, .unset, .unset, .unset, .unset]) rfl kz_) ?_
  show OwnGoes p e below _ (T10.setTop (mkF m 85 #[.val (.int p0), .val (.long q1), .second, .val (.long q3), .second, .val (.ref b5), .val (.ref b6), .val (.ref b7), .val (.int (Int32.ofNat E4.length)), .unset, .unset, .unset, .unset, .unset, .unset, .unset] []))
  refine own_pre (fun _ kz_ => XS.aload X10.here hx rfl (hb hby at_85) rfl rfl kz_) ?_
  show OwnGoes p e below _ (T10.setTop (mkF m 87 #[.val (.int p0), .val (.long q1), .second, .val (.long q3), .second, .val (.ref b5), .val (.ref b6), .val (.ref b7), .val (.int (Int32.ofNat E4.length)), .unset, .unset, .unset, .unset, .unset, .unset, .unset] [(.ref b7)]))
  refine own_pre (fun _ kz_ => XS.iconst X10.here hx rfl (hb hby at_87) kz_) ?_
  show OwnGoes p e below _ (T10.setTop (mkF m 88 #[.val (.int p0), .val (.long q1), .second, .val (.long q3), .second, .val (.ref b5), .val (.ref b6), .val (.ref b7), .val (.int (Int32.ofNat E4.length)), .unset, .unset, .unset, .unset, .unset, .unset, .unset] [(.int (1 : Int32)), (.ref b7)]))
  refine own_pre (fun _ kz_ => XS.iload X10.here hx rfl (hb hby at_88) rfl kz_) ?_
  show OwnGoes p e below _ (T10.setTop (mkF m 90 #[.val (.int p0), .val (.long q1), .second, .val (.long q3), .second, .val (.ref b5), .val (.ref b6), .val (.ref b7), .val (.int (Int32.ofNat E4.length)), .unset, .unset, .unset, .unset, .unset, .unset, .unset] [(.int (Int32.ofNat E4.length)), (.int (1 : Int32)), (.ref b7)]))
  obtain ⟨T11, h11, X11, e11, W11, V11, st11⟩ := own_ist X10 hx hZ rfl f10_3 (j := (1 : Int32)) (by decide) (by show 1 < 4; decide) (g := (mkF m 90 #[.val (.int p0), .val (.long q1), .second, .val (.long q3), .second, .val (.ref b5), .val (.ref b6), .val (.ref b7), .val (.int (Int32.ofNat E4.length)), .unset, .unset, .unset, .unset, .unset, .unset, .unset] [(.int (Int32.ofNat E4.length)), (.int (1 : Int32)), (.ref b7)])) rfl rfl (hb hby at_90)
  have f11_2 := A10q.other W11 ne_b5_b7
  have f11_1 := B10q.other W11 ne_b6_b7
  have K11 := (KK10).wr W11 (Or.inr sz_b7)
  have Z11 := Nat.le_trans Z10 (Keep.of_wr W11).1
  have Va11 : OwnA Z h11 b7 .int [(.int (0 : Int32)), (.int (Int32.ofNat E4.length)), (.int (0 : Int32)), (.int (0 : Int32))] := V11
  have N11 := Fr.snoc X11 N10 g_b7
  refine own_pre st11 ?_
  show OwnGoes p e below _ (T11.setTop (mkF m 91 #[.val (.int p0), .val (.long q1), .second, .val (.long q3), .second, .val (.ref b5), .val (.ref b6), .val (.ref b7), .val (.int (Int32.ofNat E4.length)), .unset, .unset, .unset, .unset, .unset, .unset, .unset] []))
  refine own_pre (fun _ kz_ => XS.aload X11.here hx rfl (hb hby at_91) rfl rfl kz_) ?_
  show OwnGoes p e below _ (T11.setTop (mkF m 93 #[.val (.int p0), .val (.long q1), .second, .val (.long q3), .second, .val (.ref b5), .val (.ref b6), .val (.ref b7), .val (.int (Int32.ofNat E4.length)), .unset, .unset, .unset, .unset, .unset, .unset, .unset] [(.ref b5)]))
  refine own_pre (fun _ kz_ => XS.aload X11.here hx rfl (hb hby at_93) rfl rfl kz_) ?_
  show OwnGoes p e below _ (T11.setTop (mkF m 95 #[.val (.int p0), .val (.long q1), .second, .val (.long q3), .second, .val (.ref b5), .val (.ref b6), .val (.ref b7), .val (.int (Int32.ofNat E4.length)), .unset, .unset, .unset, .unset, .unset, .unset, .unset] [(.ref b6), (.ref b5)]))
  refine own_pre (fun _ kz_ => XS.iload X11.here hx rfl (hb hby at_95) rfl kz_) ?_
  show OwnGoes p e below _ (T11.setTop (mkF m 97 #[.val (.int p0), .val (.long q1), .second, .val (.long q3), .second, .val (.ref b5), .val (.ref b6), .val (.ref b7), .val (.int (Int32.ofNat E4.length)), .unset, .unset, .unset, .unset, .unset, .unset, .unset] [(.int (Int32.ofNat E4.length)), (.ref b6), (.ref b5)]))
  refine own_pre (fun _ kz_ => XS.iloadN X11.here hx rfl (hb hby at_97) rfl kz_) ?_
  show OwnGoes p e below _ (T11.setTop (mkF m 98 #[.val (.int p0), .val (.long q1), .second, .val (.long q3), .second, .val (.ref b5), .val (.ref b6), .val (.ref b7), .val (.int (Int32.ofNat E4.length)), .unset, .unset, .unset, .unset, .unset, .unset, .unset] [(.int p0), (.int (Int32.ofNat E4.length)), (.ref b6), (.ref b5)]))
  refine own_pre (fun _ kz_ => XS.lloadN X11.here hx rfl (hb hby at_98) rfl kz_) ?_
  show OwnGoes p e below _ (T11.setTop (mkF m 99 #[.val (.int p0), .val (.long q1), .second, .val (.long q3), .second, .val (.ref b5), .val (.ref b6), .val (.ref b7), .val (.int (Int32.ofNat E4.length)), .unset, .unset, .unset, .unset, .unset, .unset, .unset] [(.long q1), (.int p0), (.int (Int32.ofNat E4.length)), (.ref b6), (.ref b5)]))
  refine own_pre (fun _ kz_ => XS.iconst X11.here hx rfl (hb hby at_99) kz_) ?_
  show OwnGoes p e below _ (T11.setTop (mkF m 100 #[.val (.int p0), .val (.long q1), .second, .val (.long q3), .second, .val (.ref b5), .val (.ref b6), .val (.ref b7), .val (.int (Int32.ofNat E4.length)), .unset, .unset, .unset, .unset, .unset, .unset, .unset] [(.int (1 : Int32)), (.long q1), (.int p0), (.int (Int32.ofNat E4.length)), (.ref b6), (.ref b5)]))
  refine own_pre (fun _ kz_ => XS.iconst X11.here hx rfl (hb hby at_100) kz_) ?_
  show OwnGoes p e below _ (T11.setTop (mkF m 101 #[.val (.int p0), .val (.long q1), .second, .val (.long q3), .second, .val (.ref b5), .val (.ref b6), .val (.ref b7), .val (.int (Int32.ofNat E4.length)), .unset, .unset, .unset, .unset, .unset, .unset, .unset] [(.int (0 : Int32)), (.int (1 : Int32)), (.long q1), (.int p0), (.int (Int32.ofNat E4.length)), (.ref b6), (.ref b5)]))
  obtain ⟨_, _, ⟨T12, L12, k12, n12⟩, -, X12, ⟨Lc12, hQ12, l12, y12, z12⟩, st12⟩ := Jvm.LawKit.callS X11 hx (y := (⟨"com/example/dual_bounds/dualbounds/numerics/SparseMatrixRowTimesPinLaw", "put", "([I[DIIJII)I"⟩ : MethodName)) hown (mvT hZ (hw _ (List.mem_of_getElem? (i := 2) rfl))) (mvT hZ (hw _ (List.mem_of_getElem? (i := 3) rfl))) (mvT hZ (hw _ (List.mem_of_getElem? (i := 4) rfl))) (mvT hZ (hw _ (List.mem_of_getElem? (i := 5) rfl))) (by decide) (backOf (W := 0) (rmP l Z a0 hw [] b5 b6 E4 p0 q1 (1 : Int32) (0 : Int32) h11 n0 Z11 f11_2 f11_1 ne_b5_b6 g_b5 g_b6 (by omega)) hZ (hw _ (List.mem_of_getElem? (i := 5) rfl)) (hw _ (List.mem_of_getElem? (i := 4) rfl)) (by decide) (by decide)) (g := (mkF m 101 #[.val (.int p0), .val (.long q1), .second, .val (.long q3), .second, .val (.ref b5), .val (.ref b6), .val (.ref b7), .val (.int (Int32.ofNat E4.length)), .unset, .unset, .unset, .unset, .unset, .unset, .unset] [(.int (0 : Int32)), (.int (1 : Int32)), (.long q1), (.int p0), (.int (Int32.ofNat E4.length)), (.ref b6), (.ref b5)])) rfl (by rw [hml]; rfl) (argsL := [(.ref b5), (.ref b6), (.int (Int32.ofNat E4.length)), (.int p0), (.long q1), (.int (1 : Int32)), (.int (0 : Int32))]) (rest := []) (lenOf (d := "([I[DIIJII)I") (ps := [(.array .int), (.array .double), .int, .int, .long, .int, .int]) (r := some .int) (by decide +kernel) rfl) rfl (by show 2 * 0 + _ ≤ _; exact Nat.le_of_eq rfl) (hb hby at_101) (fun _ _ => ⟨rfl, e11, (by decide : 3 + 0 ≤ _), (by decide : 28 + 0 ≤ _)⟩)
  dsimp only [Pt.U, Pt.locs, Pt.cells, Pt.slots] at X12 l12 y12 z12 st12 hQ12
  subst y12 z12
  obtain ⟨rfl, N12q, K12q, A12q, B12q⟩ := hQ12
  have N12 : Fr n0 L12 := by rw [l12]; exact Fr.app N11 N12q
  refine own_pre st12 ?_
  have f12_3 := Va11.keep K12q (by simp only [List.mem_cons, List.not_mem_nil, or_false, not_or]; exact ⟨(Ne.symm ne_b5_b7), (Ne.symm ne_b6_b7)⟩)
  have Z12 := Nat.le_trans Z11 K12q.1
  have KK12 := (K11).trans K12q (fun x hx => by simp only [List.mem_cons, List.not_mem_nil, or_false] at hx; rcases hx with rfl | rfl <;> first | exact Or.inl (List.mem_of_getElem? (i := 0) rfl) | exact Or.inl (List.mem_of_getElem? (i := 1) rfl) | exact Or.inr sz_b5 | exact Or.inr sz_b6 )
  obtain ⟨E5, hE5⟩ : ∃ z, z = (own_add E4 p0 q1 (1 : Int32) (0 : Int32)) := ⟨_, rfl⟩
  rw [← hE5] at A12q B12q
  rw [← hE5]
  have l5 : E5.length ≤ 5 := by rw [hE5]; exact Nat.le_trans (own_addlen ..) (by omega)
  show OwnGoes p e below _ (T12.setTop (mkF m 104 #[.val (.int p0), .val (.long q1), .second, .val (.long q3), .second, .val (.ref b5), .val (.ref b6), .val (.ref b7), .val (.int (Int32.ofNat E4.length)), .unset, .unset, .unset, .unset, .unset, .unset, .unset] [(.int (Int32.ofNat E5.length))]))
  refine own_pre (fun _ kz_ => XS.istore X12.here hx rfl (hb hby at_104) rfl (l' := #[.val (.int p0), .val (.long q1), .second, .val (.long q3), .second, .val (.ref b5), .val (.ref b6), .val (.ref b7), .val (.int (Int32.ofNat E5.length)), .unset, .unset, .unset, .unset, .unset, .unset, .unset]) rfl kz_) ?_
  show OwnGoes p e below _ (T12.setTop (mkF m 106 #[.val (.int p0), .val (.long q1), .second, .val (.long q3), .second, .val (.ref b5), .val (.ref b6), .val (.ref b7), .val (.int (Int32.ofNat E5.length)), .unset, .unset, .unset, .unset, .unset, .unset, .unset] []))
  refine own_pre (fun _ kz_ => XS.aload X12.here hx rfl (hb hby at_106) rfl rfl kz_) ?_
  show OwnGoes p e below _ (T12.setTop (mkF m 108 #[.val (.int p0), .val (.long q1), .second, .val (.long q3), .second, .val (.ref b5), .val (.ref b6), .val (.ref b7), .val (.int (Int32.ofNat E5.length)), .unset, .unset, .unset, .unset, .unset, .unset, .unset] [(.ref b5)]))
  refine own_pre (fun _ kz_ => XS.aload X12.here hx rfl (hb hby at_108) rfl rfl kz_) ?_
  show OwnGoes p e below _ (T12.setTop (mkF m 110 #[.val (.int p0), .val (.long q1), .second, .val (.long q3), .second, .val (.ref b5), .val (.ref b6), .val (.ref b7), .val (.int (Int32.ofNat E5.length)), .unset, .unset, .unset, .unset, .unset, .unset, .unset] [(.ref b6), (.ref b5)]))
  refine own_pre (fun _ kz_ => XS.iload X12.here hx rfl (hb hby at_110) rfl kz_) ?_
  show OwnGoes p e below _ (T12.setTop (mkF m 112 #[.val (.int p0), .val (.long q1), .second, .val (.long q3), .second, .val (.ref b5), .val (.ref b6), .val (.ref b7), .val (.int (Int32.ofNat E5.length)), .unset, .unset, .unset, .unset, .unset, .unset, .unset] [(.int (Int32.ofNat E5.length)), (.ref b6), (.ref b5)]))
  refine own_pre (fun _ kz_ => XS.iloadN X12.here hx rfl (hb hby at_112) rfl kz_) ?_
  show OwnGoes p e below _ (T12.setTop (mkF m 113 #[.val (.int p0), .val (.long q1), .second, .val (.long q3), .second, .val (.ref b5), .val (.ref b6), .val (.ref b7), .val (.int (Int32.ofNat E5.length)), .unset, .unset, .unset, .unset, .unset, .unset, .unset] [(.int p0), (.int (Int32.ofNat E5.length)), (.ref b6), (.ref b5)]))
  refine own_pre (fun _ kz_ => XS.lloadN X12.here hx rfl (hb hby at_113) rfl kz_) ?_
  show OwnGoes p e below _ (T12.setTop (mkF m 114 #[.val (.int p0), .val (.long q1), .second, .val (.long q3), .second, .val (.ref b5), .val (.ref b6), .val (.ref b7), .val (.int (Int32.ofNat E5.length)), .unset, .unset, .unset, .unset, .unset, .unset, .unset] [(.long q1), (.int p0), (.int (Int32.ofNat E5.length)), (.ref b6), (.ref b5)]))
  refine own_pre (fun _ kz_ => XS.iconst X12.here hx rfl (hb hby at_114) kz_) ?_
  show OwnGoes p e below _ (T12.setTop (mkF m 115 #[.val (.int p0), .val (.long q1), .second, .val (.long q3), .second, .val (.ref b5), .val (.ref b6), .val (.ref b7), .val (.int (Int32.ofNat E5.length)), .unset, .unset, .unset, .unset, .unset, .unset, .unset] [(.int (1 : Int32)), (.long q1), (.int p0), (.int (Int32.ofNat E5.length)), (.ref b6), (.ref b5)]))
  refine own_pre (fun _ kz_ => XS.iconst X12.here hx rfl (hb hby at_115) kz_) ?_
  show OwnGoes p e below _ (T12.setTop (mkF m 116 #[.val (.int p0), .val (.long q1), .second, .val (.long q3), .second, .val (.ref b5), .val (.ref b6), .val (.ref b7), .val (.int (Int32.ofNat E5.length)), .unset, .unset, .unset, .unset, .unset, .unset, .unset] [(.int (1 : Int32)), (.int (1 : Int32)), (.long q1), (.int p0), (.int (Int32.ofNat E5.length)), (.ref b6), (.ref b5)]))
  obtain ⟨_, _, ⟨T13, L13, k13, n13⟩, -, X13, ⟨Lc13, hQ13, l13, y13, z13⟩, st13⟩ := Jvm.LawKit.callS X12 hx (y := (⟨"com/example/dual_bounds/dualbounds/numerics/SparseMatrixRowTimesPinLaw", "put", "([I[DIIJII)I"⟩ : MethodName)) hown (mvT hZ (hw _ (List.mem_of_getElem? (i := 2) rfl))) (mvT hZ (hw _ (List.mem_of_getElem? (i := 3) rfl))) (mvT hZ (hw _ (List.mem_of_getElem? (i := 4) rfl))) (mvT hZ (hw _ (List.mem_of_getElem? (i := 5) rfl))) (by decide) (backOf (W := 0) (rmP l Z a0 hw [] b5 b6 E5 p0 q1 (1 : Int32) (1 : Int32) T12.heap n0 Z12 A12q B12q ne_b5_b6 g_b5 g_b6 (by omega)) hZ (hw _ (List.mem_of_getElem? (i := 5) rfl)) (hw _ (List.mem_of_getElem? (i := 4) rfl)) (by decide) (by decide)) (g := (mkF m 116 #[.val (.int p0), .val (.long q1), .second, .val (.long q3), .second, .val (.ref b5), .val (.ref b6), .val (.ref b7), .val (.int (Int32.ofNat E5.length)), .unset, .unset, .unset, .unset, .unset, .unset, .unset] [(.int (1 : Int32)), (.int (1 : Int32)), (.long q1), (.int p0), (.int (Int32.ofNat E5.length)), (.ref b6), (.ref b5)])) rfl (by rw [hml]; rfl) (argsL := [(.ref b5), (.ref b6), (.int (Int32.ofNat E5.length)), (.int p0), (.long q1), (.int (1 : Int32)), (.int (1 : Int32))]) (rest := []) (lenOf (d := "([I[DIIJII)I") (ps := [(.array .int), (.array .double), .int, .int, .long, .int, .int]) (r := some .int) (by decide +kernel) rfl) rfl (by show 2 * 0 + _ ≤ _; exact Nat.le_of_eq rfl) (hb hby at_116) (fun _ _ => ⟨rfl, rfl, (by decide : 3 + 0 ≤ _), (by decide : 28 + 0 ≤ _)⟩)
  dsimp only [Pt.U, Pt.locs, Pt.cells, Pt.slots] at X13 l13 y13 z13 st13 hQ13
  subst y13 z13
  obtain ⟨rfl, N13q, K13q, A13q, B13q⟩ := hQ13
  have N13 : Fr n0 L13 := by rw [l13]; exact Fr.app N12 N13q
  refine own_pre st13 ?_
  have f13_3 := f12_3.keep K13q (by simp only [List.mem_cons, List.not_mem_nil, or_false, not_or]; exact ⟨(Ne.symm ne_b5_b7), (Ne.symm ne_b6_b7)⟩)
  have Z13 := Nat.le_trans Z12 K13q.1
  have KK13 := (KK12).trans K13q (fun x hx => by simp only [List.mem_cons, List.not_mem_nil, or_false] at hx; rcases hx with rfl | rfl <;> first | exact Or.inl (List.mem_of_getElem? (i := 0) rfl) | exact Or.inl (List.mem_of_getElem? (i := 1) rfl) | exact Or.inr sz_b5 | exact Or.inr sz_b6 )
  obtain ⟨E6, hE6⟩ : ∃ z, z = (own_add E5 p0 q1 (1 : Int32) (1 : Int32)) := ⟨_, rfl⟩
  rw [← hE6] at A13q B13q
  rw [← hE6]
  have l6 : E6.length ≤ 6 := by rw [hE6]; exact Nat.le_trans (own_addlen ..) (by omega)
  show OwnGoes p e below _ (T13.setTop (mkF m 119 #[.val (.int p0), .val (.long q1), .second, .val (.long q3), .second, .val (.ref b5), .val (.ref b6), .val (.ref b7), .val (.int (Int32.ofNat E5.length)), .unset, .unset, .unset, .unset, .unset, .unset, .unset] [(.int (Int32.ofNat E6.length))]))
  refine own_pre (fun _ kz_ => XS.istore X13.here hx rfl (hb hby at_119) rfl (l' := #[.val (.int p0), .val (.long q1), .second, .val (.long q3), .second, .val (.ref b5), .val (.ref b6), .val (.ref b7), .val (.int (Int32.ofNat E6.length)), .unset, .unset, .unset, .unset, .unset, .unset, .unset]) rfl kz_) ?_
  show OwnGoes p e below _ (T13.setTop (mkF m 121 #[.val (.int p0), .val (.long q1), .second, .val (.long q3), .second, .val (.ref b5), .val (.ref b6), .val (.ref b7), .val (.int (Int32.ofNat E6.length)), .unset, .unset, .unset, .unset, .unset, .unset, .unset] []))
  refine own_pre (fun _ kz_ => XS.aload X13.here hx rfl (hb hby at_121) rfl rfl kz_) ?_
  show OwnGoes p e below _ (T13.setTop (mkF m 123 #[.val (.int p0), .val (.long q1), .second, .val (.long q3), .second, .val (.ref b5), .val (.ref b6), .val (.ref b7), .val (.int (Int32.ofNat E6.length)), .unset, .unset, .unset, .unset, .unset, .unset, .unset] [(.ref b5)]))
  refine own_pre (fun _ kz_ => XS.aload X13.here hx rfl (hb hby at_123) rfl rfl kz_) ?_
  show OwnGoes p e below _ (T13.setTop (mkF m 125 #[.val (.int p0), .val (.long q1), .second, .val (.long q3), .second, .val (.ref b5), .val (.ref b6), .val (.ref b7), .val (.int (Int32.ofNat E6.length)), .unset, .unset, .unset, .unset, .unset, .unset, .unset] [(.ref b6), (.ref b5)]))
  refine own_pre (fun _ kz_ => XS.iload X13.here hx rfl (hb hby at_125) rfl kz_) ?_
  show OwnGoes p e below _ (T13.setTop (mkF m 127 #[.val (.int p0), .val (.long q1), .second, .val (.long q3), .second, .val (.ref b5), .val (.ref b6), .val (.ref b7), .val (.int (Int32.ofNat E6.length)), .unset, .unset, .unset, .unset, .unset, .unset, .unset] [(.int (Int32.ofNat E6.length)), (.ref b6), (.ref b5)]))
  refine own_pre (fun _ kz_ => XS.iloadN X13.here hx rfl (hb hby at_127) rfl kz_) ?_
  show OwnGoes p e below _ (T13.setTop (mkF m 128 #[.val (.int p0), .val (.long q1), .second, .val (.long q3), .second, .val (.ref b5), .val (.ref b6), .val (.ref b7), .val (.int (Int32.ofNat E6.length)), .unset, .unset, .unset, .unset, .unset, .unset, .unset] [(.int p0), (.int (Int32.ofNat E6.length)), (.ref b6), (.ref b5)]))
  refine own_pre (fun _ kz_ => XS.lloadN X13.here hx rfl (hb hby at_128) rfl kz_) ?_
  show OwnGoes p e below _ (T13.setTop (mkF m 129 #[.val (.int p0), .val (.long q1), .second, .val (.long q3), .second, .val (.ref b5), .val (.ref b6), .val (.ref b7), .val (.int (Int32.ofNat E6.length)), .unset, .unset, .unset, .unset, .unset, .unset, .unset] [(.long q1), (.int p0), (.int (Int32.ofNat E6.length)), (.ref b6), (.ref b5)]))
  refine own_pre (fun _ kz_ => XS.iconst X13.here hx rfl (hb hby at_129) kz_) ?_
  show OwnGoes p e below _ (T13.setTop (mkF m 130 #[.val (.int p0), .val (.long q1), .second, .val (.long q3), .second, .val (.ref b5), .val (.ref b6), .val (.ref b7), .val (.int (Int32.ofNat E6.length)), .unset, .unset, .unset, .unset, .unset, .unset, .unset] [(.int (1 : Int32)), (.long q1), (.int p0), (.int (Int32.ofNat E6.length)), (.ref b6), (.ref b5)]))
  refine own_pre (fun _ kz_ => XS.iconst X13.here hx rfl (hb hby at_130) kz_) ?_
  show OwnGoes p e below _ (T13.setTop (mkF m 131 #[.val (.int p0), .val (.long q1), .second, .val (.long q3), .second, .val (.ref b5), .val (.ref b6), .val (.ref b7), .val (.int (Int32.ofNat E6.length)), .unset, .unset, .unset, .unset, .unset, .unset, .unset] [(.int (2 : Int32)), (.int (1 : Int32)), (.long q1), (.int p0), (.int (Int32.ofNat E6.length)), (.ref b6), (.ref b5)]))
  obtain ⟨_, _, ⟨T14, L14, k14, n14⟩, -, X14, ⟨Lc14, hQ14, l14, y14, z14⟩, st14⟩ := Jvm.LawKit.callS X13 hx (y := (⟨"com/example/dual_bounds/dualbounds/numerics/SparseMatrixRowTimesPinLaw", "put", "([I[DIIJII)I"⟩ : MethodName)) hown (mvT hZ (hw _ (List.mem_of_getElem? (i := 2) rfl))) (mvT hZ (hw _ (List.mem_of_getElem? (i := 3) rfl))) (mvT hZ (hw _ (List.mem_of_getElem? (i := 4) rfl))) (mvT hZ (hw _ (List.mem_of_getElem? (i := 5) rfl))) (by decide) (backOf (W := 0) (rmP l Z a0 hw [] b5 b6 E6 p0 q1 (1 : Int32) (2 : Int32) T13.heap n0 Z13 A13q B13q ne_b5_b6 g_b5 g_b6 (by omega)) hZ (hw _ (List.mem_of_getElem? (i := 5) rfl)) (hw _ (List.mem_of_getElem? (i := 4) rfl)) (by decide) (by decide)) (g := (mkF m 131 #[.val (.int p0), .val (.long q1), .second, .val (.long q3), .second, .val (.ref b5), .val (.ref b6), .val (.ref b7), .val (.int (Int32.ofNat E6.length)), .unset, .unset, .unset, .unset, .unset, .unset, .unset] [(.int (2 : Int32)), (.int (1 : Int32)), (.long q1), (.int p0), (.int (Int32.ofNat E6.length)), (.ref b6), (.ref b5)])) rfl (by rw [hml]; rfl) (argsL := [(.ref b5), (.ref b6), (.int (Int32.ofNat E6.length)), (.int p0), (.long q1), (.int (1 : Int32)), (.int (2 : Int32))]) (rest := []) (lenOf (d := "([I[DIIJII)I") (ps := [(.array .int), (.array .double), .int, .int, .long, .int, .int]) (r := some .int) (by decide +kernel) rfl) rfl (by show 2 * 0 + _ ≤ _; exact Nat.le_of_eq rfl) (hb hby at_131) (fun _ _ => ⟨rfl, rfl, (by decide : 3 + 0 ≤ _), (by decide : 28 + 0 ≤ _)⟩)
  dsimp only [Pt.U, Pt.locs, Pt.cells, Pt.slots] at X14 l14 y14 z14 st14 hQ14
  subst y14 z14
  obtain ⟨rfl, N14q, K14q, A14q, B14q⟩ := hQ14
  have N14 : Fr n0 L14 := by rw [l14]; exact Fr.app N13 N14q
  refine own_pre st14 ?_
  have f14_3 := f13_3.keep K14q (by simp only [List.mem_cons, List.not_mem_nil, or_false, not_or]; exact ⟨(Ne.symm ne_b5_b7), (Ne.symm ne_b6_b7)⟩)
  have Z14 := Nat.le_trans Z13 K14q.1
  have KK14 := (KK13).trans K14q (fun x hx => by simp only [List.mem_cons, List.not_mem_nil, or_false] at hx; rcases hx with rfl | rfl <;> first | exact Or.inl (List.mem_of_getElem? (i := 0) rfl) | exact Or.inl (List.mem_of_getElem? (i := 1) rfl) | exact Or.inr sz_b5 | exact Or.inr sz_b6 )
  obtain ⟨E7, hE7⟩ : ∃ z, z = (own_add E6 p0 q1 (1 : Int32) (2 : Int32)) := ⟨_, rfl⟩
  rw [← hE7] at A14q B14q
  rw [← hE7]
  have l7 : E7.length ≤ 7 := by rw [hE7]; exact Nat.le_trans (own_addlen ..) (by omega)
  show OwnGoes p e below _ (T14.setTop (mkF m 134 #[.val (.int p0), .val (.long q1), .second, .val (.long q3), .second, .val (.ref b5), .val (.ref b6), .val (.ref b7), .val (.int (Int32.ofNat E6.length)), .unset, .unset, .unset, .unset, .unset, .unset, .unset] [(.int (Int32.ofNat E7.length))]))
  refine own_pre (fun _ kz_ => XS.istore X14.here hx rfl (hb hby at_134) rfl (l' := #[.val (.int p0), .val (.long q1), .second, .val (.long q3), .second, .val (.ref b5), .val (.ref b6), .val (.ref b7), .val (.int (Int32.ofNat E7.length)), .unset, .unset, .unset, .unset, .unset, .unset, .unset]) rfl kz_) ?_
  show OwnGoes p e below _ (T14.setTop (mkF m 136 #[.val (.int p0), .val (.long q1), .second, .val (.long q3), .second, .val (.ref b5), .val (.ref b6), .val (.ref b7), .val (.int (Int32.ofNat E7.length)), .unset, .unset, .unset, .unset, .unset, .unset, .unset] []))
  refine own_pre (fun _ kz_ => XS.aload X14.here hx rfl (hb hby at_136) rfl rfl kz_) ?_
  show OwnGoes p e below _ (T14.setTop (mkF m 138 #[.val (.int p0), .val (.long q1), .second, .val (.long q3), .second, .val (.ref b5), .val (.ref b6), .val (.ref b7), .val (.int (Int32.ofNat E7.length)), .unset, .unset, .unset, .unset, .unset, .unset, .unset] [(.ref b5)]))
  refine own_pre (fun _ kz_ => XS.aload X14.here hx rfl (hb hby at_138) rfl rfl kz_) ?_
  show OwnGoes p e below _ (T14.setTop (mkF m 140 #[.val (.int p0), .val (.long q1), .second, .val (.long q3), .second, .val (.ref b5), .val (.ref b6), .val (.ref b7), .val (.int (Int32.ofNat E7.length)), .unset, .unset, .unset, .unset, .unset, .unset, .unset] [(.ref b6), (.ref b5)]))
  refine own_pre (fun _ kz_ => XS.iload X14.here hx rfl (hb hby at_140) rfl kz_) ?_
  show OwnGoes p e below _ (T14.setTop (mkF m 142 #[.val (.int p0), .val (.long q1), .second, .val (.long q3), .second, .val (.ref b5), .val (.ref b6), .val (.ref b7), .val (.int (Int32.ofNat E7.length)), .unset, .unset, .unset, .unset, .unset, .unset, .unset] [(.int (Int32.ofNat E7.length)), (.ref b6), (.ref b5)]))
  refine own_pre (fun _ kz_ => XS.iloadN X14.here hx rfl (hb hby at_142) rfl kz_) ?_
  show OwnGoes p e below _ (T14.setTop (mkF m 143 #[.val (.int p0), .val (.long q1), .second, .val (.long q3), .second, .val (.ref b5), .val (.ref b6), .val (.ref b7), .val (.int (Int32.ofNat E7.length)), .unset, .unset, .unset, .unset, .unset, .unset, .unset] [(.int p0), (.int (Int32.ofNat E7.length)), (.ref b6), (.ref b5)]))
  refine own_pre (fun _ kz_ => XS.lloadN X14.here hx rfl (hb hby at_143) rfl kz_) ?_
  show OwnGoes p e below _ (T14.setTop (mkF m 144 #[.val (.int p0), .val (.long q1), .second, .val (.long q3), .second, .val (.ref b5), .val (.ref b6), .val (.ref b7), .val (.int (Int32.ofNat E7.length)), .unset, .unset, .unset, .unset, .unset, .unset, .unset] [(.long q1), (.int p0), (.int (Int32.ofNat E7.length)), (.ref b6), (.ref b5)]))
  refine own_pre (fun _ kz_ => XS.iconst X14.here hx rfl (hb hby at_144) kz_) ?_
  show OwnGoes p e below _ (T14.setTop (mkF m 145 #[.val (.int p0), .val (.long q1), .second, .val (.long q3), .second, .val (.ref b5), .val (.ref b6), .val (.ref b7), .val (.int (Int32.ofNat E7.length)), .unset, .unset, .unset, .unset, .unset, .unset, .unset] [(.int (1 : Int32)), (.long q1), (.int p0), (.int (Int32.ofNat E7.length)), (.ref b6), (.ref b5)]))
  refine own_pre (fun _ kz_ => XS.iconst X14.here hx rfl (hb hby at_145) kz_) ?_
  show OwnGoes p e below _ (T14.setTop (mkF m 146 #[.val (.int p0), .val (.long q1), .second, .val (.long q3), .second, .val (.ref b5), .val (.ref b6), .val (.ref b7), .val (.int (Int32.ofNat E7.length)), .unset, .unset, .unset, .unset, .unset, .unset, .unset] [(.int (3 : Int32)), (.int (1 : Int32)), (.long q1), (.int p0), (.int (Int32.ofNat E7.length)), (.ref b6), (.ref b5)]))
  obtain ⟨_, _, ⟨T15, L15, k15, n15⟩, -, X15, ⟨Lc15, hQ15, l15, y15, z15⟩, st15⟩ := Jvm.LawKit.callS X14 hx (y := (⟨"com/example/dual_bounds/dualbounds/numerics/SparseMatrixRowTimesPinLaw", "put", "([I[DIIJII)I"⟩ : MethodName)) hown (mvT hZ (hw _ (List.mem_of_getElem? (i := 2) rfl))) (mvT hZ (hw _ (List.mem_of_getElem? (i := 3) rfl))) (mvT hZ (hw _ (List.mem_of_getElem? (i := 4) rfl))) (mvT hZ (hw _ (List.mem_of_getElem? (i := 5) rfl))) (by decide) (backOf (W := 0) (rmP l Z a0 hw [] b5 b6 E7 p0 q1 (1 : Int32) (3 : Int32) T14.heap n0 Z14 A14q B14q ne_b5_b6 g_b5 g_b6 (by omega)) hZ (hw _ (List.mem_of_getElem? (i := 5) rfl)) (hw _ (List.mem_of_getElem? (i := 4) rfl)) (by decide) (by decide)) (g := (mkF m 146 #[.val (.int p0), .val (.long q1), .second, .val (.long q3), .second, .val (.ref b5), .val (.ref b6), .val (.ref b7), .val (.int (Int32.ofNat E7.length)), .unset, .unset, .unset, .unset, .unset, .unset, .unset] [(.int (3 : Int32)), (.int (1 : Int32)), (.long q1), (.int p0), (.int (Int32.ofNat E7.length)), (.ref b6), (.ref b5)])) rfl (by rw [hml]; rfl) (argsL := [(.ref b5), (.ref b6), (.int (Int32.ofNat E7.length)), (.int p0), (.long q1), (.int (1 : Int32)), (.int (3 : Int32))]) (rest := []) (lenOf (d := "([I[DIIJII)I") (ps := [(.array .int), (.array .double), .int, .int, .long, .int, .int]) (r := some .int) (by decide +kernel) rfl) rfl (by show 2 * 0 + _ ≤ _; exact Nat.le_of_eq rfl) (hb hby at_146) (fun _ _ => ⟨rfl, rfl, (by decide : 3 + 0 ≤ _), (by decide : 28 + 0 ≤ _)⟩)
  dsimp only [Pt.U, Pt.locs, Pt.cells, Pt.slots] at X15 l15 y15 z15 st15 hQ15
  subst y15 z15
  obtain ⟨rfl, N15q, K15q, A15q, B15q⟩ := hQ15
  have N15 : Fr n0 L15 := by rw [l15]; exact Fr.app N14 N15q
  refine own_pre st15 ?_
  have f15_3 := f14_3.keep K15q (by simp only [List.mem_cons, List.not_mem_nil, or_false, not_or]; exact ⟨(Ne.symm ne_b5_b7), (Ne.symm ne_b6_b7)⟩)
  have Z15 := Nat.le_trans Z14 K15q.1
  have KK15 := (KK14).trans K15q (fun x hx => by simp only [List.mem_cons, List.not_mem_nil, or_false] at hx; rcases hx with rfl | rfl <;> first | exact Or.inl (List.mem_of_getElem? (i := 0) rfl) | exact Or.inl (List.mem_of_getElem? (i := 1) rfl) | exact Or.inr sz_b5 | exact Or.inr sz_b6 )
  obtain ⟨E8, hE8⟩ : ∃ z, z = (own_add E7 p0 q1 (1 : Int32) (3 : Int32)) := ⟨_, rfl⟩
  rw [← hE8] at A15q B15q
  rw [← hE8]
  have l8 : E8.length ≤ 8 := by rw [hE8]; exact Nat.le_trans (own_addlen ..) (by omega)
  show OwnGoes p e below _ (T15.setTop (mkF m 149 #[.val (.int p0), .val (.long q1), .second, .val (.long q3), .second, .val (.ref b5), .val (.ref b6), .val (.ref b7), .val (.int (Int32.ofNat E7.length)), .unset, .unset, .unset, .unset, .unset, .unset, .unset] [(.int (Int32.ofNat E8.length))]))
  refine own_pre (fun _ kz_ => XS.istore X15.here hx rfl (hb hby at_149) rfl (l' := #[.val (.int p0), .val (.long q1), .second, .val (.long q3), .second, .val (.ref b5), .val (.ref b6), .val (.ref b7), .val (.int (Int32.ofNat E8.length)), .unset, .unset, .unset, .unset, .unset, .unset, .unset]) rfl kz_) ?_
  show OwnGoes p e below _ (T15.setTop (mkF m 151 #[.val (.int p0), .val (.long q1), .second, .val (.long q3), .second, .val (.ref b5), .val (.ref b6), .val (.ref b7), .val (.int (Int32.ofNat E8.length)), .unset, .unset, .unset, .unset, .unset, .unset, .unset] []))
  refine own_pre (fun _ kz_ => XS.aload X15.here hx rfl (hb hby at_151) rfl rfl kz_) ?_
  show OwnGoes p e below _ (T15.setTop (mkF m 153 #[.val (.int p0), .val (.long q1), .second, .val (.long q3), .second, .val (.ref b5), .val (.ref b6), .val (.ref b7), .val (.int (Int32.ofNat E8.length)), .unset, .unset, .unset, .unset, .unset, .unset, .unset] [(.ref b7)]))
  refine own_pre (fun _ kz_ => XS.iconst X15.here hx rfl (hb hby at_153) kz_) ?_
  show OwnGoes p e below _ (T15.setTop (mkF m 154 #[.val (.int p0), .val (.long q1), .second, .val (.long q3), .second, .val (.ref b5), .val (.ref b6), .val (.ref b7), .val (.int (Int32.ofNat E8.length)), .unset, .unset, .unset, .unset, .unset, .unset, .unset] [(.int (2 : Int32)), (.ref b7)]))
  refine own_pre (fun _ kz_ => XS.iload X15.here hx rfl (hb hby at_154) rfl kz_) ?_
  show OwnGoes p e below _ (T15.setTop (mkF m 156 #[.val (.int p0), .val (.long q1), .second, .val (.long q3), .second, .val (.ref b5), .val (.ref b6), .val (.ref b7), .val (.int (Int32.ofNat E8.length)), .unset, .unset, .unset, .unset, .unset, .unset, .unset] [(.int (Int32.ofNat E8.length)), (.int (2 : Int32)), (.ref b7)]))
  obtain ⟨T16, h16, X16, e16, W16, V16, st16⟩ := own_ist X15 hx hZ rfl f15_3 (j := (2 : Int32)) (by decide) (by show 2 < 4; decide) (g := (mkF m 156 #[.val (.int p0), .val (.long q1), .second, .val (.long q3), .second, .val (.ref b5), .val (.ref b6), .val (.ref b7), .val (.int (Int32.ofNat E8.length)), .unset, .unset, .unset, .unset, .unset, .unset, .unset] [(.int (Int32.ofNat E8.length)), (.int (2 : Int32)), (.ref b7)])) rfl rfl (hb hby at_156)
  have f16_2 := A15q.other W16 ne_b5_b7
  have f16_1 := B15q.other W16 ne_b6_b7
  have K16 := (KK15).wr W16 (Or.inr sz_b7)
  have Z16 := Nat.le_trans Z15 (Keep.of_wr W16).1
  have Va16 : OwnA Z h16 b7 .int [(.int (0 : Int32)), (.int (Int32.ofNat E4.length)), (.int (Int32.ofNat E8.length)), (.int (0 : Int32))] := V16
  have N16 := Fr.snoc X16 N15 g_b7
  refine own_pre st16 ?_
  show OwnGoes p e below _ (T16.setTop (mkF m 157 #[.val (.int p0), .val (.long q1), .second, .val (.long q3), .second, .val (.ref b5), .val (.ref b6), .val (.ref b7), .val (.int (Int32.ofNat E8.length)), .unset, .unset, .unset, .unset, .unset, .unset, .unset] []))
  refine own_pre (fun _ kz_ => XS.aload X16.here hx rfl (hb hby at_157) rfl rfl kz_) ?_
  show OwnGoes p e below _ (T16.setTop (mkF m 159 #[.val (.int p0), .val (.long q1), .second, .val (.long q3), .second, .val (.ref b5), .val (.ref b6), .val (.ref b7), .val (.int (Int32.ofNat E8.length)), .unset, .unset, .unset, .unset, .unset, .unset, .unset] [(.ref b5)]))
  refine own_pre (fun _ kz_ => XS.aload X16.here hx rfl (hb hby at_159) rfl rfl kz_) ?_
  show OwnGoes p e below _ (T16.setTop (mkF m 161 #[.val (.int p0), .val (.long q1), .second, .val (.long q3), .second, .val (.ref b5), .val (.ref b6), .val (.ref b7), .val (.int (Int32.ofNat E8.length)), .unset, .unset, .unset, .unset, .unset, .unset, .unset] [(.ref b6), (.ref b5)]))
  refine own_pre (fun _ kz_ => XS.iload X16.here hx rfl (hb hby at_161) rfl kz_) ?_
  show OwnGoes p e below _ (T16.setTop (mkF m 163 #[.val (.int p0), .val (.long q1), .second, .val (.long q3), .second, .val (.ref b5), .val (.ref b6), .val (.ref b7), .val (.int (Int32.ofNat E8.length)), .unset, .unset, .unset, .unset, .unset, .unset, .unset] [(.int (Int32.ofNat E8.length)), (.ref b6), (.ref b5)]))
  refine own_pre (fun _ kz_ => XS.iloadN X16.here hx rfl (hb hby at_163) rfl kz_) ?_
  show OwnGoes p e below _ (T16.setTop (mkF m 164 #[.val (.int p0), .val (.long q1), .second, .val (.long q3), .second, .val (.ref b5), .val (.ref b6), .val (.ref b7), .val (.int (Int32.ofNat E8.length)), .unset, .unset, .unset, .unset, .unset, .unset, .unset] [(.int p0), (.int (Int32.ofNat E8.length)), (.ref b6), (.ref b5)]))
  refine own_pre (fun _ kz_ => XS.lloadN X16.here hx rfl (hb hby at_164) rfl kz_) ?_
  show OwnGoes p e below _ (T16.setTop (mkF m 165 #[.val (.int p0), .val (.long q1), .second, .val (.long q3), .second, .val (.ref b5), .val (.ref b6), .val (.ref b7), .val (.int (Int32.ofNat E8.length)), .unset, .unset, .unset, .unset, .unset, .unset, .unset] [(.long q1), (.int p0), (.int (Int32.ofNat E8.length)), (.ref b6), (.ref b5)]))
  refine own_pre (fun _ kz_ => XS.iconst X16.here hx rfl (hb hby at_165) kz_) ?_
  show OwnGoes p e below _ (T16.setTop (mkF m 166 #[.val (.int p0), .val (.long q1), .second, .val (.long q3), .second, .val (.ref b5), .val (.ref b6), .val (.ref b7), .val (.int (Int32.ofNat E8.length)), .unset, .unset, .unset, .unset, .unset, .unset, .unset] [(.int (2 : Int32)), (.long q1), (.int p0), (.int (Int32.ofNat E8.length)), (.ref b6), (.ref b5)]))
  refine own_pre (fun _ kz_ => XS.iconst X16.here hx rfl (hb hby at_166) kz_) ?_
  show OwnGoes p e below _ (T16.setTop (mkF m 167 #[.val (.int p0), .val (.long q1), .second, .val (.long q3), .second, .val (.ref b5), .val (.ref b6), .val (.ref b7), .val (.int (Int32.ofNat E8.length)), .unset, .unset, .unset, .unset, .unset, .unset, .unset] [(.int (0 : Int32)), (.int (2 : Int32)), (.long q1), (.int p0), (.int (Int32.ofNat E8.length)), (.ref b6), (.ref b5)]))
  obtain ⟨_, _, ⟨T17, L17, k17, n17⟩, -, X17, ⟨Lc17, hQ17, l17, y17, z17⟩, st17⟩ := Jvm.LawKit.callS X16 hx (y := (⟨"com/example/dual_bounds/dualbounds/numerics/SparseMatrixRowTimesPinLaw", "put", "([I[DIIJII)I"⟩ : MethodName)) hown (mvT hZ (hw _ (List.mem_of_getElem? (i := 2) rfl))) (mvT hZ (hw _ (List.mem_of_getElem? (i := 3) rfl))) (mvT hZ (hw _ (List.mem_of_getElem? (i := 4) rfl))) (mvT hZ (hw _ (List.mem_of_getElem? (i := 5) rfl))) (by decide) (backOf (W := 0) (rmP l Z a0 hw [] b5 b6 E8 p0 q1 (2 : Int32) (0 : Int32) h16 n0 Z16 f16_2 f16_1 ne_b5_b6 g_b5 g_b6 (by omega)) hZ (hw _ (List.mem_of_getElem? (i := 5) rfl)) (hw _ (List.mem_of_getElem? (i := 4) rfl)) (by decide) (by decide)) (g := (mkF m 167 #[.val (.int p0), .val (.long q1), .second, .val (.long q3), .second, .val (.ref b5), .val (.ref b6), .val (.ref b7), .val (.int (Int32.ofNat E8.length)), .unset, .unset, .unset, .unset, .unset, .unset, .unset] [(.int (0 : Int32)), (.int (2 : Int32)), (.long q1), (.int p0), (.int (Int32.ofNat E8.length)), (.ref b6), (.ref b5)])) rfl (by rw [hml]; rfl) (argsL := [(.ref b5), (.ref b6), (.int (Int32.ofNat E8.length)), (.int p0), (.long q1), (.int (2 : Int32)), (.int (0 : Int32))]) (rest := []) (lenOf (d := "([I[DIIJII)I") (ps := [(.array .int), (.array .double), .int, .int, .long, .int, .int]) (r := some .int) (by decide +kernel) rfl) rfl (by show 2 * 0 + _ ≤ _; exact Nat.le_of_eq rfl) (hb hby at_167) (fun _ _ => ⟨rfl, e16, (by decide : 3 + 0 ≤ _), (by decide : 28 + 0 ≤ _)⟩)
  dsimp only [Pt.U, Pt.locs, Pt.cells, Pt.slots] at X17 l17 y17 z17 st17 hQ17
  subst y17 z17
  obtain ⟨rfl, N17q, K17q, A17q, B17q⟩ := hQ17
  have N17 : Fr n0 L17 := by rw [l17]; exact Fr.app N16 N17q
  refine own_pre st17 ?_
  have f17_3 := Va16.keep K17q (by simp only [List.mem_cons, List.not_mem_nil, or_false, not_or]; exact ⟨(Ne.symm ne_b5_b7), (Ne.symm ne_b6_b7)⟩)
  have Z17 := Nat.le_trans Z16 K17q.1
  have KK17 := (K16).trans K17q (fun x hx => by simp only [List.mem_cons, List.not_mem_nil, or_false] at hx; rcases hx with rfl | rfl <;> first | exact Or.inl (List.mem_of_getElem? (i := 0) rfl) | exact Or.inl (List.mem_of_getElem? (i := 1) rfl) | exact Or.inr sz_b5 | exact Or.inr sz_b6 )
  obtain ⟨E9, hE9⟩ : ∃ z, z = (own_add E8 p0 q1 (2 : Int32) (0 : Int32)) := ⟨_, rfl⟩
  rw [← hE9] at A17q B17q
  rw [← hE9]
  have l9 : E9.length ≤ 9 := by rw [hE9]; exact Nat.le_trans (own_addlen ..) (by omega)
  show OwnGoes p e below _ (T17.setTop (mkF m 170 #[.val (.int p0), .val (.long q1), .second, .val (.long q3), .second, .val (.ref b5), .val (.ref b6), .val (.ref b7), .val (.int (Int32.ofNat E8.length)), .unset, .unset, .unset, .unset, .unset, .unset, .unset] [(.int (Int32.ofNat E9.length))]))
  refine own_pre (fun _ kz_ => XS.istore X17.here hx rfl (hb hby at_170) rfl (l' := #[.val (.int p0), .val (.long q1), .second, .val (.long q3), .second, .val (.ref b5), .val (.ref b6), .val (.ref b7), .val (.int (Int32.ofNat E9.length)), .unset, .unset, .unset, .unset, .unset, .unset, .unset]) rfl kz_) ?_
  show OwnGoes p e below _ (T17.setTop (mkF m 172 #[.val (.int p0), .val (.long q1), .second, .val (.long q3), .second, .val (.ref b5), .val (.ref b6), .val (.ref b7), .val (.int (Int32.ofNat E9.length)), .unset, .unset, .unset, .unset, .unset, .unset, .unset] []))
  refine own_pre (fun _ kz_ => XS.aload X17.here hx rfl (hb hby at_172) rfl rfl kz_) ?_
  show OwnGoes p e below _ (T17.setTop (mkF m 174 #[.val (.int p0), .val (.long q1), .second, .val (.long q3), .second, .val (.ref b5), .val (.ref b6), .val (.ref b7), .val (.int (Int32.ofNat E9.length)), .unset, .unset, .unset, .unset, .unset, .unset, .unset] [(.ref b5)]))
  refine own_pre (fun _ kz_ => XS.aload X17.here hx rfl (hb hby at_174) rfl rfl kz_) ?_
  show OwnGoes p e below _ (T17.setTop (mkF m 176 #[.val (.int p0), .val (.long q1), .second, .val (.long q3), .second, .val (.ref b5), .val (.ref b6), .val (.ref b7), .val (.int (Int32.ofNat E9.length)), .unset, .unset, .unset, .unset, .unset, .unset, .unset] [(.ref b6), (.ref b5)]))
  refine own_pre (fun _ kz_ => XS.iload X17.here hx rfl (hb hby at_176) rfl kz_) ?_
  show OwnGoes p e below _ (T17.setTop (mkF m 178 #[.val (.int p0), .val (.long q1), .second, .val (.long q3), .second, .val (.ref b5), .val (.ref b6), .val (.ref b7), .val (.int (Int32.ofNat E9.length)), .unset, .unset, .unset, .unset, .unset, .unset, .unset] [(.int (Int32.ofNat E9.length)), (.ref b6), (.ref b5)]))
  refine own_pre (fun _ kz_ => XS.iloadN X17.here hx rfl (hb hby at_178) rfl kz_) ?_
  show OwnGoes p e below _ (T17.setTop (mkF m 179 #[.val (.int p0), .val (.long q1), .second, .val (.long q3), .second, .val (.ref b5), .val (.ref b6), .val (.ref b7), .val (.int (Int32.ofNat E9.length)), .unset, .unset, .unset, .unset, .unset, .unset, .unset] [(.int p0), (.int (Int32.ofNat E9.length)), (.ref b6), (.ref b5)]))
  refine own_pre (fun _ kz_ => XS.lloadN X17.here hx rfl (hb hby at_179) rfl kz_) ?_
  show OwnGoes p e below _ (T17.setTop (mkF m 180 #[.val (.int p0), .val (.long q1), .second, .val (.long q3), .second, .val (.ref b5), .val (.ref b6), .val (.ref b7), .val (.int (Int32.ofNat E9.length)), .unset, .unset, .unset, .unset, .unset, .unset, .unset] [(.long q1), (.int p0), (.int (Int32.ofNat E9.length)), (.ref b6), (.ref b5)]))
  refine own_pre (fun _ kz_ => XS.iconst X17.here hx rfl (hb hby at_180) kz_) ?_
  show OwnGoes p e below _ (T17.setTop (mkF m 181 #[.val (.int p0), .val (.long q1), .second, .val (.long q3), .second, .val (.ref b5), .val (.ref b6), .val (.ref b7), .val (.int (Int32.ofNat E9.length)), .unset, .unset, .unset, .unset, .unset, .unset, .unset] [(.int (2 : Int32)), (.long q1), (.int p0), (.int (Int32.ofNat E9.length)), (.ref b6), (.ref b5)]))
  refine own_pre (fun _ kz_ => XS.iconst X17.here hx rfl (hb hby at_181) kz_) ?_
  show OwnGoes p e below _ (T17.setTop (mkF m 182 #[.val (.int p0), .val (.long q1), .second, .val (.long q3), .second, .val (.ref b5), .val (.ref b6), .val (.ref b7), .val (.int (Int32.ofNat E9.length)), .unset, .unset, .unset, .unset, .unset, .unset, .unset] [(.int (1 : Int32)), (.int (2 : Int32)), (.long q1), (.int p0), (.int (Int32.ofNat E9.length)), (.ref b6), (.ref b5)]))
  obtain ⟨_, _, ⟨T18, L18, k18, n18⟩, -, X18, ⟨Lc18, hQ18, l18, y18, z18⟩, st18⟩ := Jvm.LawKit.callS X17 hx (y := (⟨"com/example/dual_bounds/dualbounds/numerics/SparseMatrixRowTimesPinLaw", "put", "([I[DIIJII)I"⟩ : MethodName)) hown (mvT hZ (hw _ (List.mem_of_getElem? (i := 2) rfl))) (mvT hZ (hw _ (List.mem_of_getElem? (i := 3) rfl))) (mvT hZ (hw _ (List.mem_of_getElem? (i := 4) rfl))) (mvT hZ (hw _ (List.mem_of_getElem? (i := 5) rfl))) (by decide) (backOf (W := 0) (rmP l Z a0 hw [] b5 b6 E9 p0 q1 (2 : Int32) (1 : Int32) T17.heap n0 Z17 A17q B17q ne_b5_b6 g_b5 g_b6 (by omega)) hZ (hw _ (List.mem_of_getElem? (i := 5) rfl)) (hw _ (List.mem_of_getElem? (i := 4) rfl)) (by decide) (by decide)) (g := (mkF m 182 #[.val (.int p0), .val (.long q1), .second, .val (.long q3), .second, .val (.ref b5), .val (.ref b6), .val (.ref b7), .val (.int (Int32.ofNat E9.length)), .unset, .unset, .unset, .unset, .unset, .unset, .unset] [(.int (1 : Int32)), (.int (2 : Int32)), (.long q1), (.int p0), (.int (Int32.ofNat E9.length)), (.ref b6), (.ref b5)])) rfl (by rw [hml]; rfl) (argsL := [(.ref b5), (.ref b6), (.int (Int32.ofNat E9.length)), (.int p0), (.long q1), (.int (2 : Int32)), (.int (1 : Int32))]) (rest := []) (lenOf (d := "([I[DIIJII)I") (ps := [(.array .int), (.array .double), .int, .int, .long, .int, .int]) (r := some .int) (by decide +kernel) rfl) rfl (by show 2 * 0 + _ ≤ _; exact Nat.le_of_eq rfl) (hb hby at_182) (fun _ _ => ⟨rfl, rfl, (by decide : 3 + 0 ≤ _), (by decide : 28 + 0 ≤ _)⟩)
  dsimp only [Pt.U, Pt.locs, Pt.cells, Pt.slots] at X18 l18 y18 z18 st18 hQ18
  subst y18 z18
  obtain ⟨rfl, N18q, K18q, A18q, B18q⟩ := hQ18
  have N18 : Fr n0 L18 := by rw [l18]; exact Fr.app N17 N18q
  refine own_pre st18 ?_
  have f18_3 := f17_3.keep K18q (by simp only [List.mem_cons, List.not_mem_nil, or_false, not_or]; exact ⟨(Ne.symm ne_b5_b7), (Ne.symm ne_b6_b7)⟩)
  have Z18 := Nat.le_trans Z17 K18q.1
  have KK18 := (KK17).trans K18q (fun x hx => by simp only [List.mem_cons, List.not_mem_nil, or_false] at hx; rcases hx with rfl | rfl <;> first | exact Or.inl (List.mem_of_getElem? (i := 0) rfl) | exact Or.inl (List.mem_of_getElem? (i := 1) rfl) | exact Or.inr sz_b5 | exact Or.inr sz_b6 )
  obtain ⟨E10, hE10⟩ : ∃ z, z = (own_add E9 p0 q1 (2 : Int32) (1 : Int32)) := ⟨_, rfl⟩
  rw [← hE10] at A18q B18q
  rw [← hE10]
  have l10 : E10.length ≤ 10 := by rw [hE10]; exact Nat.le_trans (own_addlen ..) (by omega)
  show OwnGoes p e below _ (T18.setTop (mkF m 185 #[.val (.int p0), .val (.long q1), .second, .val (.long q3), .second, .val (.ref b5), .val (.ref b6), .val (.ref b7), .val (.int (Int32.ofNat E9.length)), .unset, .unset, .unset, .unset, .unset, .unset, .unset] [(.int (Int32.ofNat E10.length))]))
  refine own_pre (fun _ kz_ => XS.istore X18.here hx rfl (hb hby at_185) rfl (l' := #[.val (.int p0), .val (.long q1), .second, .val (.long q3), .second, .val (.ref b5), .val (.ref b6), .val (.ref b7), .val (.int (Int32.ofNat E10.length)), .unset, .unset, .unset, .unset, .unset, .unset, .unset]) rfl kz_) ?_
  show OwnGoes p e below _ (T18.setTop (mkF m 187 #[.val (.int p0), .val (.long q1), .second, .val (.long q3), .second, .val (.ref b5), .val (.ref b6), .val (.ref b7), .val (.int (Int32.ofNat E10.length)), .unset, .unset, .unset, .unset, .unset, .unset, .unset] []))
  refine own_pre (fun _ kz_ => XS.aload X18.here hx rfl (hb hby at_187) rfl rfl kz_) ?_
  show OwnGoes p e below _ (T18.setTop (mkF m 189 #[.val (.int p0), .val (.long q1), .second, .val (.long q3), .second, .val (.ref b5), .val (.ref b6), .val (.ref b7), .val (.int (Int32.ofNat E10.length)), .unset, .unset, .unset, .unset, .unset, .unset, .unset] [(.ref b5)]))
  refine own_pre (fun _ kz_ => XS.aload X18.here hx rfl (hb hby at_189) rfl rfl kz_) ?_
  show OwnGoes p e below _ (T18.setTop (mkF m 191 #[.val (.int p0), .val (.long q1), .second, .val (.long q3), .second, .val (.ref b5), .val (.ref b6), .val (.ref b7), .val (.int (Int32.ofNat E10.length)), .unset, .unset, .unset, .unset, .unset, .unset, .unset] [(.ref b6), (.ref b5)]))
  refine own_pre (fun _ kz_ => XS.iload X18.here hx rfl (hb hby at_191) rfl kz_) ?_
  show OwnGoes p e below _ (T18.setTop (mkF m 193 #[.val (.int p0), .val (.long q1), .second, .val (.long q3), .second, .val (.ref b5), .val (.ref b6), .val (.ref b7), .val (.int (Int32.ofNat E10.length)), .unset, .unset, .unset, .unset, .unset, .unset, .unset] [(.int (Int32.ofNat E10.length)), (.ref b6), (.ref b5)]))
  refine own_pre (fun _ kz_ => XS.iloadN X18.here hx rfl (hb hby at_193) rfl kz_) ?_
  show OwnGoes p e below _ (T18.setTop (mkF m 194 #[.val (.int p0), .val (.long q1), .second, .val (.long q3), .second, .val (.ref b5), .val (.ref b6), .val (.ref b7), .val (.int (Int32.ofNat E10.length)), .unset, .unset, .unset, .unset, .unset, .unset, .unset] [(.int p0), (.int (Int32.ofNat E10.length)), (.ref b6), (.ref b5)]))
  refine own_pre (fun _ kz_ => XS.lloadN X18.here hx rfl (hb hby at_194) rfl kz_) ?_
  show OwnGoes p e below _ (T18.setTop (mkF m 195 #[.val (.int p0), .val (.long q1), .second, .val (.long q3), .second, .val (.ref b5), .val (.ref b6), .val (.ref b7), .val (.int (Int32.ofNat E10.length)), .unset, .unset, .unset, .unset, .unset, .unset, .unset] [(.long q1), (.int p0), (.int (Int32.ofNat E10.length)), (.ref b6), (.ref b5)]))
  refine own_pre (fun _ kz_ => XS.iconst X18.here hx rfl (hb hby at_195) kz_) ?_
  show OwnGoes p e below _ (T18.setTop (mkF m 196 #[.val (.int p0), .val (.long q1), .second, .val (.long q3), .second, .val (.ref b5), .val (.ref b6), .val (.ref b7), .val (.int (Int32.ofNat E10.length)), .unset, .unset, .unset, .unset, .unset, .unset, .unset] [(.int (2 : Int32)), (.long q1), (.int p0), (.int (Int32.ofNat E10.length)), (.ref b6), (.ref b5)]))
  refine own_pre (fun _ kz_ => XS.iconst X18.here hx rfl (hb hby at_196) kz_) ?_
  show OwnGoes p e below _ (T18.setTop (mkF m 197 #[.val (.int p0), .val (.long q1), .second, .val (.long q3), .second, .val (.ref b5), .val (.ref b6), .val (.ref b7), .val (.int (Int32.ofNat E10.length)), .unset, .unset, .unset, .unset, .unset, .unset, .unset] [(.int (2 : Int32)), (.int (2 : Int32)), (.long q1), (.int p0), (.int (Int32.ofNat E10.length)), (.ref b6), (.ref b5)]))
  obtain ⟨_, _, ⟨T19, L19, k19, n19⟩, -, X19, ⟨Lc19, hQ19, l19, y19, z19⟩, st19⟩ := Jvm.LawKit.callS X18 hx (y := (⟨"com/example/dual_bounds/dualbounds/numerics/SparseMatrixRowTimesPinLaw", "put", "([I[DIIJII)I"⟩ : MethodName)) hown (mvT hZ (hw _ (List.mem_of_getElem? (i := 2) rfl))) (mvT hZ (hw _ (List.mem_of_getElem? (i := 3) rfl))) (mvT hZ (hw _ (List.mem_of_getElem? (i := 4) rfl))) (mvT hZ (hw _ (List.mem_of_getElem? (i := 5) rfl))) (by decide) (backOf (W := 0) (rmP l Z a0 hw [] b5 b6 E10 p0 q1 (2 : Int32) (2 : Int32) T18.heap n0 Z18 A18q B18q ne_b5_b6 g_b5 g_b6 (by omega)) hZ (hw _ (List.mem_of_getElem? (i := 5) rfl)) (hw _ (List.mem_of_getElem? (i := 4) rfl)) (by decide) (by decide)) (g := (mkF m 197 #[.val (.int p0), .val (.long q1), .second, .val (.long q3), .second, .val (.ref b5), .val (.ref b6), .val (.ref b7), .val (.int (Int32.ofNat E10.length)), .unset, .unset, .unset, .unset, .unset, .unset, .unset] [(.int (2 : Int32)), (.int (2 : Int32)), (.long q1), (.int p0), (.int (Int32.ofNat E10.length)), (.ref b6), (.ref b5)])) rfl (by rw [hml]; rfl) (argsL := [(.ref b5), (.ref b6), (.int (Int32.ofNat E10.length)), (.int p0), (.long q1), (.int (2 : Int32)), (.int (2 : Int32))]) (rest := []) (lenOf (d := "([I[DIIJII)I") (ps := [(.array .int), (.array .double), .int, .int, .long, .int, .int]) (r := some .int) (by decide +kernel) rfl) rfl (by show 2 * 0 + _ ≤ _; exact Nat.le_of_eq rfl) (hb hby at_197) (fun _ _ => ⟨rfl, rfl, (by decide : 3 + 0 ≤ _), (by decide : 28 + 0 ≤ _)⟩)
  dsimp only [Pt.U, Pt.locs, Pt.cells, Pt.slots] at X19 l19 y19 z19 st19 hQ19
  subst y19 z19
  obtain ⟨rfl, N19q, K19q, A19q, B19q⟩ := hQ19
  have N19 : Fr n0 L19 := by rw [l19]; exact Fr.app N18 N19q
  refine own_pre st19 ?_
  have f19_3 := f18_3.keep K19q (by simp only [List.mem_cons, List.not_mem_nil, or_false, not_or]; exact ⟨(Ne.symm ne_b5_b7), (Ne.symm ne_b6_b7)⟩)
  have Z19 := Nat.le_trans Z18 K19q.1
  have KK19 := (KK18).trans K19q (fun x hx => by simp only [List.mem_cons, List.not_mem_nil, or_false] at hx; rcases hx with rfl | rfl <;> first | exact Or.inl (List.mem_of_getElem? (i := 0) rfl) | exact Or.inl (List.mem_of_getElem? (i := 1) rfl) | exact Or.inr sz_b5 | exact Or.inr sz_b6 )
  obtain ⟨E11, hE11⟩ : ∃ z, z = (own_add E10 p0 q1 (2 : Int32) (2 : Int32)) := ⟨_, rfl⟩
  rw [← hE11] at A19q B19q
  rw [← hE11]
  have l11 : E11.length ≤ 11 := by rw [hE11]; exact Nat.le_trans (own_addlen ..) (by omega)
  show OwnGoes p e below _ (T19.setTop (mkF m 200 #[.val (.int p0), .val (.long q1), .second, .val (.long q3), .second, .val (.ref b5), .val (.ref b6), .val (.ref b7), .val (.int (Int32.ofNat E10.length)), .unset, .unset, .unset, .unset, .unset, .unset, .unset] [(.int (Int32.ofNat E11.length))]))
  refine own_pre (fun _ kz_ => XS.istore X19.here hx rfl (hb hby at_200) rfl (l' := #[.val (.int p0), .val (.long q1), .second, .val (.long q3), .second, .val (.ref b5), .val (.ref b6), .val (.ref b7), .val (.int (Int32.ofNat E11.length)), .unset, .unset, .unset, .unset, .unset, .unset, .unset]) rfl kz_) ?_
  show OwnGoes p e below _ (T19.setTop (mkF m 202 #[.val (.int p0), .val (.long q1), .second, .val (.long q3), .second, .val (.ref b5), .val (.ref b6), .val (.ref b7), .val (.int (Int32.ofNat E11.length)), .unset, .unset, .unset, .unset, .unset, .unset, .unset] []))
  refine own_pre (fun _ kz_ => XS.aload X19.here hx rfl (hb hby at_202) rfl rfl kz_) ?_
  show OwnGoes p e below _ (T19.setTop (mkF m 204 #[.val (.int p0), .val (.long q1), .second, .val (.long q3), .second, .val (.ref b5), .val (.ref b6), .val (.ref b7), .val (.int (Int32.ofNat E11.length)), .unset, .unset, .unset, .unset, .unset, .unset, .unset] [(.ref b5)]))
  refine own_pre (fun _ kz_ => XS.aload X19.here hx rfl (hb hby at_204) rfl rfl kz_) ?_
  show OwnGoes p e below _ (T19.setTop (mkF m 206 #[.val (.int p0), .val (.long q1), .second, .val (.long q3), .second, .val (.ref b5), .val (.ref b6), .val (.ref b7), .val (.int (Int32.ofNat E11.length)), .unset, .unset, .unset, .unset, .unset, .unset, .unset] [(.ref b6), (.ref b5)]))
  refine own_pre (fun _ kz_ => XS.iload X19.here hx rfl (hb hby at_206) rfl kz_) ?_
  show OwnGoes p e below _ (T19.setTop (mkF m 208 #[.val (.int p0), .val (.long q1), .second, .val (.long q3), .second, .val (.ref b5), .val (.ref b6), .val (.ref b7), .val (.int (Int32.ofNat E11.length)), .unset, .unset, .unset, .unset, .unset, .unset, .unset] [(.int (Int32.ofNat E11.length)), (.ref b6), (.ref b5)]))
  refine own_pre (fun _ kz_ => XS.iloadN X19.here hx rfl (hb hby at_208) rfl kz_) ?_
  show OwnGoes p e below _ (T19.setTop (mkF m 209 #[.val (.int p0), .val (.long q1), .second, .val (.long q3), .second, .val (.ref b5), .val (.ref b6), .val (.ref b7), .val (.int (Int32.ofNat E11.length)), .unset, .unset, .unset, .unset, .unset, .unset, .unset] [(.int p0), (.int (Int32.ofNat E11.length)), (.ref b6), (.ref b5)]))
  refine own_pre (fun _ kz_ => XS.lloadN X19.here hx rfl (hb hby at_209) rfl kz_) ?_
  show OwnGoes p e below _ (T19.setTop (mkF m 210 #[.val (.int p0), .val (.long q1), .second, .val (.long q3), .second, .val (.ref b5), .val (.ref b6), .val (.ref b7), .val (.int (Int32.ofNat E11.length)), .unset, .unset, .unset, .unset, .unset, .unset, .unset] [(.long q1), (.int p0), (.int (Int32.ofNat E11.length)), (.ref b6), (.ref b5)]))
  refine own_pre (fun _ kz_ => XS.iconst X19.here hx rfl (hb hby at_210) kz_) ?_
  show OwnGoes p e below _ (T19.setTop (mkF m 211 #[.val (.int p0), .val (.long q1), .second, .val (.long q3), .second, .val (.ref b5), .val (.ref b6), .val (.ref b7), .val (.int (Int32.ofNat E11.length)), .unset, .unset, .unset, .unset, .unset, .unset, .unset] [(.int (2 : Int32)), (.long q1), (.int p0), (.int (Int32.ofNat E11.length)), (.ref b6), (.ref b5)]))
  refine own_pre (fun _ kz_ => XS.iconst X19.here hx rfl (hb hby at_211) kz_) ?_
  show OwnGoes p e below _ (T19.setTop (mkF m 212 #[.val (.int p0), .val (.long q1), .second, .val (.long q3), .second, .val (.ref b5), .val (.ref b6), .val (.ref b7), .val (.int (Int32.ofNat E11.length)), .unset, .unset, .unset, .unset, .unset, .unset, .unset] [(.int (3 : Int32)), (.int (2 : Int32)), (.long q1), (.int p0), (.int (Int32.ofNat E11.length)), (.ref b6), (.ref b5)]))
  obtain ⟨_, _, ⟨T20, L20, k20, n20⟩, -, X20, ⟨Lc20, hQ20, l20, y20, z20⟩, st20⟩ := Jvm.LawKit.callS X19 hx (y := (⟨"com/example/dual_bounds/dualbounds/numerics/SparseMatrixRowTimesPinLaw", "put", "([I[DIIJII)I"⟩ : MethodName)) hown (mvT hZ (hw _ (List.mem_of_getElem? (i := 2) rfl))) (mvT hZ (hw _ (List.mem_of_getElem? (i := 3) rfl))) (mvT hZ (hw _ (List.mem_of_getElem? (i := 4) rfl))) (mvT hZ (hw _ (List.mem_of_getElem? (i := 5) rfl))) (by decide) (backOf (W := 0) (rmP l Z a0 hw [] b5 b6 E11 p0 q1 (2 : Int32) (3 : Int32) T19.heap n0 Z19 A19q B19q ne_b5_b6 g_b5 g_b6 (by omega)) hZ (hw _ (List.mem_of_getElem? (i := 5) rfl)) (hw _ (List.mem_of_getElem? (i := 4) rfl)) (by decide) (by decide)) (g := (mkF m 212 #[.val (.int p0), .val (.long q1), .second, .val (.long q3), .second, .val (.ref b5), .val (.ref b6), .val (.ref b7), .val (.int (Int32.ofNat E11.length)), .unset, .unset, .unset, .unset, .unset, .unset, .unset] [(.int (3 : Int32)), (.int (2 : Int32)), (.long q1), (.int p0), (.int (Int32.ofNat E11.length)), (.ref b6), (.ref b5)])) rfl (by rw [hml]; rfl) (argsL := [(.ref b5), (.ref b6), (.int (Int32.ofNat E11.length)), (.int p0), (.long q1), (.int (2 : Int32)), (.int (3 : Int32))]) (rest := []) (lenOf (d := "([I[DIIJII)I") (ps := [(.array .int), (.array .double), .int, .int, .long, .int, .int]) (r := some .int) (by decide +kernel) rfl) rfl (by show 2 * 0 + _ ≤ _; exact Nat.le_of_eq rfl) (hb hby at_212) (fun _ _ => ⟨rfl, rfl, (by decide : 3 + 0 ≤ _), (by decide : 28 + 0 ≤ _)⟩)
  dsimp only [Pt.U, Pt.locs, Pt.cells, Pt.slots] at X20 l20 y20 z20 st20 hQ20
  subst y20 z20
  obtain ⟨rfl, N20q, K20q, A20q, B20q⟩ := hQ20
  have N20 : Fr n0 L20 := by rw [l20]; exact Fr.app N19 N20q
  refine own_pre st20 ?_
  have f20_3 := f19_3.keep K20q (by simp only [List.mem_cons, List.not_mem_nil, or_false, not_or]; exact ⟨(Ne.symm ne_b5_b7), (Ne.symm ne_b6_b7)⟩)
  have Z20 := Nat.le_trans Z19 K20q.1
  have KK20 := (KK19).trans K20q (fun x hx => by simp only [List.mem_cons, List.not_mem_nil, or_false] at hx; rcases hx with rfl | rfl <;> first | exact Or.inl (List.mem_of_getElem? (i := 0) rfl) | exact Or.inl (List.mem_of_getElem? (i := 1) rfl) | exact Or.inr sz_b5 | exact Or.inr sz_b6 )
  obtain ⟨E12, hE12⟩ : ∃ z, z = (own_add E11 p0 q1 (2 : Int32) (3 : Int32)) := ⟨_, rfl⟩
  rw [← hE12] at A20q B20q
  rw [← hE12]
  have l12 : E12.length ≤ 12 := by rw [hE12]; exact Nat.le_trans (own_addlen ..) (by omega)
  show OwnGoes p e below _ (T20.setTop (mkF m 215 #[.val (.int p0), .val (.long q1), .second, .val (.long q3), .second, .val (.ref b5), .val (.ref b6), .val (.ref b7), .val (.int (Int32.ofNat E11.length)), .unset, .unset, .unset, .unset, .unset, .unset, .unset] [(.int (Int32.ofNat E12.length))]))
  refine own_pre (fun _ kz_ => XS.istore X20.here hx rfl (hb hby at_215) rfl (l' := #[.val (.int p0), .val (.long q1), .second, .val (.long q3), .second, .val (.ref b5), .val (.ref b6), .val (.ref b7), .val (.int (Int32.ofNat E12.length)), .unset, .unset, .unset, .unset, .unset, .unset, .unset]) rfl kz_) ?_
  show OwnGoes p e below _ (T20.setTop (mkF m 217 #[.val (.int p0), .val (.long q1), .second, .val (.long q3), .second, .val (.ref b5), .val (.ref b6), .val (.ref b7), .val (.int (Int32.ofNat E12.length)), .unset, .unset, .unset, .unset, .unset, .unset, .unset] []))
  refine own_pre (fun _ kz_ => XS.aload X20.here hx rfl (hb hby at_217) rfl rfl kz_) ?_
  show OwnGoes p e below _ (T20.setTop (mkF m 219 #[.val (.int p0), .val (.long q1), .second, .val (.long q3), .second, .val (.ref b5), .val (.ref b6), .val (.ref b7), .val (.int (Int32.ofNat E12.length)), .unset, .unset, .unset, .unset, .unset, .unset, .unset] [(.ref b7)]))
  refine own_pre (fun _ kz_ => XS.iconst X20.here hx rfl (hb hby at_219) kz_) ?_
  show OwnGoes p e below _ (T20.setTop (mkF m 220 #[.val (.int p0), .val (.long q1), .second, .val (.long q3), .second, .val (.ref b5), .val (.ref b6), .val (.ref b7), .val (.int (Int32.ofNat E12.length)), .unset, .unset, .unset, .unset, .unset, .unset, .unset] [(.int (3 : Int32)), (.ref b7)]))
  refine own_pre (fun _ kz_ => XS.iload X20.here hx rfl (hb hby at_220) rfl kz_) ?_
  show OwnGoes p e below _ (T20.setTop (mkF m 222 #[.val (.int p0), .val (.long q1), .second, .val (.long q3), .second, .val (.ref b5), .val (.ref b6), .val (.ref b7), .val (.int (Int32.ofNat E12.length)), .unset, .unset, .unset, .unset, .unset, .unset, .unset] [(.int (Int32.ofNat E12.length)), (.int (3 : Int32)), (.ref b7)]))
  obtain ⟨T21, h21, X21, e21, W21, V21, st21⟩ := own_ist X20 hx hZ rfl f20_3 (j := (3 : Int32)) (by decide) (by show 3 < 4; decide) (g := (mkF m 222 #[.val (.int p0), .val (.long q1), .second, .val (.long q3), .second, .val (.ref b5), .val (.ref b6), .val (.ref b7), .val (.int (Int32.ofNat E12.length)), .unset, .unset, .unset, .unset, .unset, .unset, .unset] [(.int (Int32.ofNat E12.length)), (.int (3 : Int32)), (.ref b7)])) rfl rfl (hb hby at_222)
  have f21_2 := A20q.other W21 ne_b5_b7
  have f21_1 := B20q.other W21 ne_b6_b7
  have K21 := (KK20).wr W21 (Or.inr sz_b7)
  have Z21 := Nat.le_trans Z20 (Keep.of_wr W21).1
  have Va21 : OwnA Z h21 b7 .int [(.int (0 : Int32)), (.int (Int32.ofNat E4.length)), (.int (Int32.ofNat E8.length)), (.int (Int32.ofNat E12.length))] := V21
  have N21 := Fr.snoc X21 N20 g_b7
  refine own_pre st21 ?_
  show OwnGoes p e below _ (T21.setTop (mkF m 223 #[.val (.int p0), .val (.long q1), .second, .val (.long q3), .second, .val (.ref b5), .val (.ref b6), .val (.ref b7), .val (.int (Int32.ofNat E12.length)), .unset, .unset, .unset, .unset, .unset, .unset, .unset] []))
  refine own_pre (fun _ kz_ => XS.iconst X21.here hx rfl (hb hby at_223) kz_) ?_
  show OwnGoes p e below _ (T21.setTop (mkF m 224 #[.val (.int p0), .val (.long q1), .second, .val (.long q3), .second, .val (.ref b5), .val (.ref b6), .val (.ref b7), .val (.int (Int32.ofNat E12.length)), .unset, .unset, .unset, .unset, .unset, .unset, .unset] [(.int (4 : Int32))]))
  obtain ⟨T22, h22, X22, e22, E22, V22, st22⟩ := own_newa X21 hx hZ (hw _ (List.mem_of_getElem? (i := 1) rfl)) e21 (g := (mkF m 224 #[.val (.int p0), .val (.long q1), .second, .val (.long q3), .second, .val (.ref b5), .val (.ref b6), .val (.ref b7), .val (.int (Int32.ofNat E12.length)), .unset, .unset, .unset, .unset, .unset, .unset, .unset] [(.int (4 : Int32))])) rfl (hb hby at_224) rfl (by decide) (cap := 4) (by decide) (by decide) (by decide) (by decide)
  obtain ⟨b9, g22⟩ : ∃ z, z = h21.size := ⟨_, rfl⟩
  rw [← g22] at V22 st22
  have g_b9 : n0 ≤ b9 := Nat.le_trans Z21 (Nat.le_of_eq g22.symm)
  have sz_b9 : h0.size ≤ b9 := Nat.le_trans (K21).1 (Nat.le_of_eq g22.symm)
  have ne_b6_b9 : b6 ≠ b9 := Nat.ne_of_lt (Nat.lt_of_lt_of_le f21_1.lt (Nat.le_of_eq g22.symm))
  have ne_b5_b9 : b5 ≠ b9 := Nat.ne_of_lt (Nat.lt_of_lt_of_le f21_2.lt (Nat.le_of_eq g22.symm))
  have ne_b7_b9 : b7 ≠ b9 := Nat.ne_of_lt (Nat.lt_of_lt_of_le Va21.lt (Nat.le_of_eq g22.symm))
  have f22_3 := Va21.ext E22
  have f22_2 := f21_2.ext E22
  have f22_1 := f21_1.ext E22
  have K22 := (K21).ext E22
  have Z22 := Nat.le_trans Z21 E22.1
  have Va22 : OwnA Z h22 b9 .double [(.double (0 : UInt64)), (.double (0 : UInt64)), (.double (0 : UInt64)), (.double (0 : UInt64))] := V22
  refine own_pre st22 ?_
  show OwnGoes p e below _ (T22.setTop (mkF m 226 #[.val (.int p0), .val (.long q1), .second, .val (.long q3), .second, .val (.ref b5), .val (.ref b6), .val (.ref b7), .val (.int (Int32.ofNat E12.length)), .unset, .unset, .unset, .unset, .unset, .unset, .unset] [(.ref b9)]))
  refine own_pre (fun _ kz_ => XS.dup X22.here hx rfl (hb hby at_226) rfl rfl kz_) ?_
  show OwnGoes p e below _ (T22.setTop (mkF m 227 #[.val (.int p0), .val (.long q1), .second, .val (.long q3), .second, .val (.ref b5), .val (.ref b6), .val (.ref b7), .val (.int (Int32.ofNat E12.length)), .unset, .unset, .unset, .unset, .unset, .unset, .unset] [(.ref b9), (.ref b9)]))
  refine own_pre (fun _ kz_ => XS.iconst X22.here hx rfl (hb hby at_227) kz_) ?_
  show OwnGoes p e below _ (T22.setTop (mkF m 228 #[.val (.int p0), .val (.long q1), .second, .val (.long q3), .second, .val (.ref b5), .val (.ref b6), .val (.ref b7), .val (.int (Int32.ofNat E12.length)), .unset, .unset, .unset, .unset, .unset, .unset, .unset] [(.int (0 : Int32)), (.ref b9), (.ref b9)]))
  refine own_pre (fun _ kz_ => XS.lloadN X22.here hx rfl (hb hby at_228) rfl kz_) ?_
  show OwnGoes p e below _ (T22.setTop (mkF m 229 #[.val (.int p0), .val (.long q1), .second, .val (.long q3), .second, .val (.ref b5), .val (.ref b6), .val (.ref b7), .val (.int (Int32.ofNat E12.length)), .unset, .unset, .unset, .unset, .unset, .unset, .unset] [(.long q3), (.int (0 : Int32)), (.ref b9), (.ref b9)]))
  refine own_pre (fun _ kz_ => XS.iconst X22.here hx rfl (hb hby at_229) kz_) ?_
  show OwnGoes p e below _ (T22.setTop (mkF m 230 #[.val (.int p0), .val (.long q1), .second, .val (.long q3), .second, .val (.ref b5), .val (.ref b6), .val (.ref b7), .val (.int (Int32.ofNat E12.length)), .unset, .unset, .unset, .unset, .unset, .unset, .unset] [(.int (0 : Int32)), (.long q3), (.int (0 : Int32)), (.ref b9), (.ref b9)]))
  obtain ⟨_, _, ⟨T23, L23, k23, n23⟩, -, X23, ⟨Lc23, hQ23, l23, y23, z23⟩, st23⟩ := Jvm.LawKit.callS X22 hx (y := (⟨"com/example/dual_bounds/dualbounds/numerics/SparseMatrixRowTimesPinLaw", "x", "(JI)I"⟩ : MethodName)) hown (mvT hZ (hw _ (List.mem_of_getElem? (i := 6) rfl))) (mvT hZ (hw _ (List.mem_of_getElem? (i := 7) rfl))) (mvT hZ (hw _ (List.mem_of_getElem? (i := 4) rfl))) (mvT hZ (hw _ (List.mem_of_getElem? (i := 8) rfl))) (by decide) (backOf (W := 3) (rmX l Z a0 hw [] q3 (0 : Int32) h22 n0 Z22) hZ (hw _ (List.mem_of_getElem? (i := 8) rfl)) (hw _ (List.mem_of_getElem? (i := 4) rfl)) (by decide) (by decide)) (g := (mkF m 230 #[.val (.int p0), .val (.long q1), .second, .val (.long q3), .second, .val (.ref b5), .val (.ref b6), .val (.ref b7), .val (.int (Int32.ofNat E12.length)), .unset, .unset, .unset, .unset, .unset, .unset, .unset] [(.int (0 : Int32)), (.long q3), (.int (0 : Int32)), (.ref b9), (.ref b9)])) rfl (by rw [hml]; rfl) (argsL := [(.long q3), (.int (0 : Int32))]) (rest := [(.int (0 : Int32)), (.ref b9), (.ref b9)]) (lenOf (d := "(JI)I") (ps := [.long, .int]) (r := some .int) (by decide +kernel) rfl) rfl (by show 2 * 0 + _ ≤ _; exact Nat.le_of_eq rfl) (hb hby at_230) (fun _ _ => ⟨rfl, e22, (by decide : 4 + 0 ≤ _), (by decide : 32 + 0 ≤ _)⟩)
  dsimp only [Pt.U, Pt.locs, Pt.cells, Pt.slots] at X23 l23 y23 z23 st23 hQ23
  subst y23 z23
  obtain ⟨rfl, N23q, e23⟩ := hQ23
  have N23 : Fr n0 L23 := by rw [l23]; exact Fr.app N21 N23q
  refine own_pre st23 ?_
  show OwnGoes p e below _ (T23.setTop (mkF m 233 #[.val (.int p0), .val (.long q1), .second, .val (.long q3), .second, .val (.ref b5), .val (.ref b6), .val (.ref b7), .val (.int (Int32.ofNat E12.length)), .unset, .unset, .unset, .unset, .unset, .unset, .unset] [(.int (own_x q3 (0 : Int32))), (.int (0 : Int32)), (.ref b9), (.ref b9)]))
  refine own_pre (fun _ kz_ => XS.i2dS X23.here hx rfl (hb hby at_233) rfl rfl kz_) ?_
  show OwnGoes p e below _ (T23.setTop (mkF m 234 #[.val (.int p0), .val (.long q1), .second, .val (.long q3), .second, .val (.ref b5), .val (.ref b6), .val (.ref b7), .val (.int (Int32.ofNat E12.length)), .unset, .unset, .unset, .unset, .unset, .unset, .unset] [(.double (Jvm.FP.i2d (own_x q3 (0 : Int32)))), (.int (0 : Int32)), (.ref b9), (.ref b9)]))
  obtain ⟨y0_, hy0_⟩ : ∃ z, z = (Jvm.FP.i2d (own_x q3 (0 : Int32))) := ⟨_, rfl⟩
  rw [← hy0_]
  show OwnGoes p e below _ (T23.setTop (mkF m 234 #[.val (.int p0), .val (.long q1), .second, .val (.long q3), .second, .val (.ref b5), .val (.ref b6), .val (.ref b7), .val (.int (Int32.ofNat E12.length)), .unset, .unset, .unset, .unset, .unset, .unset, .unset] [(.double y0_), (.int (0 : Int32)), (.ref b9), (.ref b9)]))
  obtain ⟨T24, h24, X24, e24, W24, V24, st24⟩ := own_dst X23 hx hZ e23 Va22 (j := (0 : Int32)) (by decide) (by show 0 < 4; decide) (g := (mkF m 234 #[.val (.int p0), .val (.long q1), .second, .val (.long q3), .second, .val (.ref b5), .val (.ref b6), .val (.ref b7), .val (.int (Int32.ofNat E12.length)), .unset, .unset, .unset, .unset, .unset, .unset, .unset] [(.double y0_), (.int (0 : Int32)), (.ref b9), (.ref b9)])) rfl rfl (hb hby at_234)
  have f24_4 := f22_3.other W24 ne_b7_b9
  have f24_3 := f22_2.other W24 ne_b5_b9
  have f24_2 := f22_1.other W24 ne_b6_b9
  have K24 := (K22).wr W24 (Or.inr sz_b9)
  have Z24 := Nat.le_trans Z22 (Keep.of_wr W24).1
  have Va24 : OwnA Z h24 b9 .double [(.double y0_), (.double (0 : UInt64)), (.double (0 : UInt64)), (.double (0 : UInt64))] := V24
  have N24 := Fr.snoc X24 N23 g_b9
  refine own_pre st24 ?_
  show OwnGoes p e below _ (T24.setTop (mkF m 235 #[.val (.int p0), .val (.long q1), .second, .val (.long q3), .second, .val (.ref b5), .val (.ref b6), .val (.ref b7), .val (.int (Int32.ofNat E12.length)), .unset, .unset, .unset, .unset, .unset, .unset, .unset] [(.ref b9)]))
  refine own_pre (fun _ kz_ => XS.dup X24.here hx rfl (hb hby at_235) rfl rfl kz_) ?_
  show OwnGoes p e below _ (T24.setTop (mkF m 236 #[.val (.int p0), .val (.long q1), .second, .val (.long q3), .second, .val (.ref b5), .val (.ref b6), .val (.ref b7), .val (.int (Int32.ofNat E12.length)), .unset, .unset, .unset, .unset, .unset, .unset, .unset] [(.ref b9), (.ref b9)]))
  refine own_pre (fun _ kz_ => XS.iconst X24.here hx rfl (hb hby at_236) kz_) ?_
  show OwnGoes p e below _ (T24.setTop (mkF m 237 #[.val (.int p0), .val (.long q1), .second, .val (.long q3), .second, .val (.ref b5), .val (.ref b6), .val (.ref b7), .val (.int (Int32.ofNat E12.length)), .unset, .unset, .unset, .unset, .unset, .unset, .unset] [(.int (1 : Int32)), (.ref b9), (.ref b9)]))
  refine own_pre (fun _ kz_ => XS.lloadN X24.here hx rfl (hb hby at_237) rfl kz_) ?_
  show OwnGoes p e below _ (T24.setTop (mkF m 238 #[.val (.int p0), .val (.long q1), .second, .val (.long q3), .second, .val (.ref b5), .val (.ref b6), .val (.ref b7), .val (.int (Int32.ofNat E12.length)), .unset, .unset, .unset, .unset, .unset, .unset, .unset] [(.long q3), (.int (1 : Int32)), (.ref b9), (.ref b9)]))
  refine own_pre (fun _ kz_ => XS.iconst X24.here hx rfl (hb hby at_238) kz_) ?_
  show OwnGoes p e below _ (T24.setTop (mkF m 239 #[.val (.int p0), .val (.long q1), .second, .val (.long q3), .second, .val (.ref b5), .val (.ref b6), .val (.ref b7), .val (.int (Int32.ofNat E12.length)), .unset, .unset, .unset, .unset, .unset, .unset, .unset] [(.int (1 : Int32)), (.long q3), (.int (1 : Int32)), (.ref b9), (.ref b9)]))
  obtain ⟨_, _, ⟨T25, L25, k25, n25⟩, -, X25, ⟨Lc25, hQ25, l25, y25, z25⟩, st25⟩ := Jvm.LawKit.callS X24 hx (y := (⟨"com/example/dual_bounds/dualbounds/numerics/SparseMatrixRowTimesPinLaw", "x", "(JI)I"⟩ : MethodName)) hown (mvT hZ (hw _ (List.mem_of_getElem? (i := 6) rfl))) (mvT hZ (hw _ (List.mem_of_getElem? (i := 7) rfl))) (mvT hZ (hw _ (List.mem_of_getElem? (i := 4) rfl))) (mvT hZ (hw _ (List.mem_of_getElem? (i := 8) rfl))) (by decide) (backOf (W := 3) (rmX l Z a0 hw [] q3 (1 : Int32) h24 n0 Z24) hZ (hw _ (List.mem_of_getElem? (i := 8) rfl)) (hw _ (List.mem_of_getElem? (i := 4) rfl)) (by decide) (by decide)) (g := (mkF m 239 #[.val (.int p0), .val (.long q1), .second, .val (.long q3), .second, .val (.ref b5), .val (.ref b6), .val (.ref b7), .val (.int (Int32.ofNat E12.length)), .unset, .unset, .unset, .unset, .unset, .unset, .unset] [(.int (1 : Int32)), (.long q3), (.int (1 : Int32)), (.ref b9), (.ref b9)])) rfl (by rw [hml]; rfl) (argsL := [(.long q3), (.int (1 : Int32))]) (rest := [(.int (1 : Int32)), (.ref b9), (.ref b9)]) (lenOf (d := "(JI)I") (ps := [.long, .int]) (r := some .int) (by decide +kernel) rfl) rfl (by show 2 * 0 + _ ≤ _; exact Nat.le_of_eq rfl) (hb hby at_239) (fun _ _ => ⟨rfl, e24, (by decide : 4 + 0 ≤ _), (by decide : 32 + 0 ≤ _)⟩)
  dsimp only [Pt.U, Pt.locs, Pt.cells, Pt.slots] at X25 l25 y25 z25 st25 hQ25
  subst y25 z25
  obtain ⟨rfl, N25q, e25⟩ := hQ25
  have N25 : Fr n0 L25 := by rw [l25]; exact Fr.app N24 N25q
  refine own_pre st25 ?_
  show OwnGoes p e below _ (T25.setTop (mkF m 242 #[.val (.int p0), .val (.long q1), .second, .val (.long q3), .second, .val (.ref b5), .val (.ref b6), .val (.ref b7), .val (.int (Int32.ofNat E12.length)), .unset, .unset, .unset, .unset, .unset, .unset, .unset] [(.int (own_x q3 (1 : Int32))), (.int (1 : Int32)), (.ref b9), (.ref b9)]))
  refine own_pre (fun _ kz_ => XS.i2dS X25.here hx rfl (hb hby at_242) rfl rfl kz_) ?_
  show OwnGoes p e below _ (T25.setTop (mkF m 243 #[.val (.int p0), .val (.long q1), .second, .val (.long q3), .second, .val (.ref b5), .val (.ref b6), .val (.ref b7), .val (.int (Int32.ofNat E12.length)), .unset, .unset, .unset, .unset, .unset, .unset, .unset] [(.double (Jvm.FP.i2d (own_x q3 (1 : Int32)))), (.int (1 : Int32)), (.ref b9), (.ref b9)]))
  obtain ⟨y1_, hy1_⟩ : ∃ z, z = (Jvm.FP.i2d (own_x q3 (1 : Int32))) := ⟨_, rfl⟩
  rw [← hy1_]
  show OwnGoes p e below _ (T25.setTop (mkF m 243 #[.val (.int p0), .val (.long q1), .second, .val (.long q3), .second, .val (.ref b5), .val (.ref b6), .val (.ref b7), .val (.int (Int32.ofNat E12.length)), .unset, .unset, .unset, .unset, .unset, .unset, .unset] [(.double y1_), (.int (1 : Int32)), (.ref b9), (.ref b9)]))
  obtain ⟨T26, h26, X26, e26, W26, V26, st26⟩ := own_dst X25 hx hZ e25 Va24 (j := (1 : Int32)) (by decide) (by show 1 < 4; decide) (g := (mkF m 243 #[.val (.int p0), .val (.long q1), .second, .val (.long q3), .second, .val (.ref b5), .val (.ref b6), .val (.ref b7), .val (.int (Int32.ofNat E12.length)), .unset, .unset, .unset, .unset, .unset, .unset, .unset] [(.double y1_), (.int (1 : Int32)), (.ref b9), (.ref b9)])) rfl rfl (hb hby at_243)
  have f26_4 := f24_4.other W26 ne_b7_b9
  have f26_3 := f24_3.other W26 ne_b5_b9
  have f26_2 := f24_2.other W26 ne_b6_b9
  have K26 := (K24).wr W26 (Or.inr sz_b9)
  have Z26 := Nat.le_trans Z24 (Keep.of_wr W26).1
  have Va26 : OwnA Z h26 b9 .double [(.double y0_), (.double y1_), (.double (0 : UInt64)), (.double (0 : UInt64))] := V26
  have N26 := Fr.snoc X26 N25 g_b9
  refine own_pre st26 ?_
  show OwnGoes p e below _ (T26.setTop (mkF m 244 #[.val (.int p0), .val (.long q1), .second, .val (.long q3), .second, .val (.ref b5), .val (.ref b6), .val (.ref b7), .val (.int (Int32.ofNat E12.length)), .unset, .unset, .unset, .unset, .unset, .unset, .unset] [(.ref b9)]))
  refine own_pre (fun _ kz_ => XS.dup X26.here hx rfl (hb hby at_244) rfl rfl kz_) ?_
  show OwnGoes p e below _ (T26.setTop (mkF m 245 #[.val (.int p0), .val (.long q1), .second, .val (.long q3), .second, .val (.ref b5), .val (.ref b6), .val (.ref b7), .val (.int (Int32.ofNat E12.length)), .unset, .unset, .unset, .unset, .unset, .unset, .unset] [(.ref b9), (.ref b9)]))
  refine own_pre (fun _ kz_ => XS.iconst X26.here hx rfl (hb hby at_245) kz_) ?_
  show OwnGoes p e below _ (T26.setTop (mkF m 246 #[.val (.int p0), .val (.long q1), .second, .val (.long q3), .second, .val (.ref b5), .val (.ref b6), .val (.ref b7), .val (.int (Int32.ofNat E12.length)), .unset, .unset, .unset, .unset, .unset, .unset, .unset] [(.int (2 : Int32)), (.ref b9), (.ref b9)]))
  refine own_pre (fun _ kz_ => XS.lloadN X26.here hx rfl (hb hby at_246) rfl kz_) ?_
  show OwnGoes p e below _ (T26.setTop (mkF m 247 #[.val (.int p0), .val (.long q1), .second, .val (.long q3), .second, .val (.ref b5), .val (.ref b6), .val (.ref b7), .val (.int (Int32.ofNat E12.length)), .unset, .unset, .unset, .unset, .unset, .unset, .unset] [(.long q3), (.int (2 : Int32)), (.ref b9), (.ref b9)]))
  refine own_pre (fun _ kz_ => XS.iconst X26.here hx rfl (hb hby at_247) kz_) ?_
  show OwnGoes p e below _ (T26.setTop (mkF m 248 #[.val (.int p0), .val (.long q1), .second, .val (.long q3), .second, .val (.ref b5), .val (.ref b6), .val (.ref b7), .val (.int (Int32.ofNat E12.length)), .unset, .unset, .unset, .unset, .unset, .unset, .unset] [(.int (2 : Int32)), (.long q3), (.int (2 : Int32)), (.ref b9), (.ref b9)]))
  obtain ⟨_, _, ⟨T27, L27, k27, n27⟩, -, X27, ⟨Lc27, hQ27, l27, y27, z27⟩, st27⟩ := Jvm.LawKit.callS X26 hx (y := (⟨"com/example/dual_bounds/dualbounds/numerics/SparseMatrixRowTimesPinLaw", "x", "(JI)I"⟩ : MethodName)) hown (mvT hZ (hw _ (List.mem_of_getElem? (i := 6) rfl))) (mvT hZ (hw _ (List.mem_of_getElem? (i := 7) rfl))) (mvT hZ (hw _ (List.mem_of_getElem? (i := 4) rfl))) (mvT hZ (hw _ (List.mem_of_getElem? (i := 8) rfl))) (by decide) (backOf (W := 3) (rmX l Z a0 hw [] q3 (2 : Int32) h26 n0 Z26) hZ (hw _ (List.mem_of_getElem? (i := 8) rfl)) (hw _ (List.mem_of_getElem? (i := 4) rfl)) (by decide) (by decide)) (g := (mkF m 248 #[.val (.int p0), .val (.long q1), .second, .val (.long q3), .second, .val (.ref b5), .val (.ref b6), .val (.ref b7), .val (.int (Int32.ofNat E12.length)), .unset, .unset, .unset, .unset, .unset, .unset, .unset] [(.int (2 : Int32)), (.long q3), (.int (2 : Int32)), (.ref b9), (.ref b9)])) rfl (by rw [hml]; rfl) (argsL := [(.long q3), (.int (2 : Int32))]) (rest := [(.int (2 : Int32)), (.ref b9), (.ref b9)]) (lenOf (d := "(JI)I") (ps := [.long, .int]) (r := some .int) (by decide +kernel) rfl) rfl (by show 2 * 0 + _ ≤ _; exact Nat.le_of_eq rfl) (hb hby at_248) (fun _ _ => ⟨rfl, e26, (by decide : 4 + 0 ≤ _), (by decide : 32 + 0 ≤ _)⟩)
  dsimp only [Pt.U, Pt.locs, Pt.cells, Pt.slots] at X27 l27 y27 z27 st27 hQ27
  subst y27 z27
  obtain ⟨rfl, N27q, e27⟩ := hQ27
  have N27 : Fr n0 L27 := by rw [l27]; exact Fr.app N26 N27q
  refine own_pre st27 ?_
  show OwnGoes p e below _ (T27.setTop (mkF m 251 #[.val (.int p0), .val (.long q1), .second, .val (.long q3), .second, .val (.ref b5), .val (.ref b6), .val (.ref b7), .val (.int (Int32.ofNat E12.length)), .unset, .unset, .unset, .unset, .unset, .unset, .unset] [(.int (own_x q3 (2 : Int32))), (.int (2 : Int32)), (.ref b9), (.ref b9)]))
  refine own_pre (fun _ kz_ => XS.i2dS X27.here hx rfl (hb hby at_251) rfl rfl kz_) ?_
  show OwnGoes p e below _ (T27.setTop (mkF m 252 #[.val (.int p0), .val (.long q1), .second, .val (.long q3), .second, .val (.ref b5), .val (.ref b6), .val (.ref b7), .val (.int (Int32.ofNat E12.length)), .unset, .unset, .unset, .unset, .unset, .unset, .unset] [(.double (Jvm.FP.i2d (own_x q3 (2 : Int32)))), (.int (2 : Int32)), (.ref b9), (.ref b9)]))
  obtain ⟨y2_, hy2_⟩ : ∃ z, z = (Jvm.FP.i2d (own_x q3 (2 : Int32))) := ⟨_, rfl⟩
  rw [← hy2_]
  show OwnGoes p e below _ (T27.setTop (mkF m 252 #[.val (.int p0), .val (.long q1), .second, .val (.long q3), .second, .val (.ref b5), .val (.ref b6), .val (.ref b7), .val (.int (Int32.ofNat E12.length)), .unset, .unset, .unset, .unset, .unset, .unset, .unset] [(.double y2_), (.int (2 : Int32)), (.ref b9), (.ref b9)]))
  obtain ⟨T28, h28, X28, e28, W28, V28, st28⟩ := own_dst X27 hx hZ e27 Va26 (j := (2 : Int32)) (by decide) (by show 2 < 4; decide) (g := (mkF m 252 #[.val (.int p0), .val (.long q1), .second, .val (.long q3), .second, .val (.ref b5), .val (.ref b6), .val (.ref b7), .val (.int (Int32.ofNat E12.length)), .unset, .unset, .unset, .unset, .unset, .unset, .unset] [(.double y2_), (.int (2 : Int32)), (.ref b9), (.ref b9)])) rfl rfl (hb hby at_252)
  have f28_4 := f26_4.other W28 ne_b7_b9
  have f28_3 := f26_3.other W28 ne_b5_b9
  have f28_2 := f26_2.other W28 ne_b6_b9
  have K28 := (K26).wr W28 (Or.inr sz_b9)
  have Z28 := Nat.le_trans Z26 (Keep.of_wr W28).1
  have Va28 : OwnA Z h28 b9 .double [(.double y0_), (.double y1_), (.double y2_), (.double (0 : UInt64))] := V28
  have N28 := Fr.snoc X28 N27 g_b9
  refine own_pre st28 ?_
  show OwnGoes p e below _ (T28.setTop (mkF m 253 #[.val (.int p0), .val (.long q1), .second, .val (.long q3), .second, .val (.ref b5), .val (.ref b6), .val (.ref b7), .val (.int (Int32.ofNat E12.length)), .unset, .unset, .unset, .unset, .unset, .unset, .unset] [(.ref b9)]))
  refine own_pre (fun _ kz_ => XS.dup X28.here hx rfl (hb hby at_253) rfl rfl kz_) ?_
  show OwnGoes p e below _ (T28.setTop (mkF m 254 #[.val (.int p0), .val (.long q1), .second, .val (.long q3), .second, .val (.ref b5), .val (.ref b6), .val (.ref b7), .val (.int (Int32.ofNat E12.length)), .unset, .unset, .unset, .unset, .unset, .unset, .unset] [(.ref b9), (.ref b9)]))
  refine own_pre (fun _ kz_ => XS.iconst X28.here hx rfl (hb hby at_254) kz_) ?_
  show OwnGoes p e below _ (T28.setTop (mkF m 255 #[.val (.int p0), .val (.long q1), .second, .val (.long q3), .second, .val (.ref b5), .val (.ref b6), .val (.ref b7), .val (.int (Int32.ofNat E12.length)), .unset, .unset, .unset, .unset, .unset, .unset, .unset] [(.int (3 : Int32)), (.ref b9), (.ref b9)]))
  refine own_pre (fun _ kz_ => XS.lloadN X28.here hx rfl (hb hby at_255) rfl kz_) ?_
  show OwnGoes p e below _ (T28.setTop (mkF m 256 #[.val (.int p0), .val (.long q1), .second, .val (.long q3), .second, .val (.ref b5), .val (.ref b6), .val (.ref b7), .val (.int (Int32.ofNat E12.length)), .unset, .unset, .unset, .unset, .unset, .unset, .unset] [(.long q3), (.int (3 : Int32)), (.ref b9), (.ref b9)]))
  refine own_pre (fun _ kz_ => XS.iconst X28.here hx rfl (hb hby at_256) kz_) ?_
  show OwnGoes p e below _ (T28.setTop (mkF m 257 #[.val (.int p0), .val (.long q1), .second, .val (.long q3), .second, .val (.ref b5), .val (.ref b6), .val (.ref b7), .val (.int (Int32.ofNat E12.length)), .unset, .unset, .unset, .unset, .unset, .unset, .unset] [(.int (3 : Int32)), (.long q3), (.int (3 : Int32)), (.ref b9), (.ref b9)]))
  obtain ⟨_, _, ⟨T29, L29, k29, n29⟩, -, X29, ⟨Lc29, hQ29, l29, y29, z29⟩, st29⟩ := Jvm.LawKit.callS X28 hx (y := (⟨"com/example/dual_bounds/dualbounds/numerics/SparseMatrixRowTimesPinLaw", "x", "(JI)I"⟩ : MethodName)) hown (mvT hZ (hw _ (List.mem_of_getElem? (i := 6) rfl))) (mvT hZ (hw _ (List.mem_of_getElem? (i := 7) rfl))) (mvT hZ (hw _ (List.mem_of_getElem? (i := 4) rfl))) (mvT hZ (hw _ (List.mem_of_getElem? (i := 8) rfl))) (by decide) (backOf (W := 3) (rmX l Z a0 hw [] q3 (3 : Int32) h28 n0 Z28) hZ (hw _ (List.mem_of_getElem? (i := 8) rfl)) (hw _ (List.mem_of_getElem? (i := 4) rfl)) (by decide) (by decide)) (g := (mkF m 257 #[.val (.int p0), .val (.long q1), .second, .val (.long q3), .second, .val (.ref b5), .val (.ref b6), .val (.ref b7), .val (.int (Int32.ofNat E12.length)), .unset, .unset, .unset, .unset, .unset, .unset, .unset] [(.int (3 : Int32)), (.long q3), (.int (3 : Int32)), (.ref b9), (.ref b9)])) rfl (by rw [hml]; rfl) (argsL := [(.long q3), (.int (3 : Int32))]) (rest := [(.int (3 : Int32)), (.ref b9), (.ref b9)]) (lenOf (d := "(JI)I") (ps := [.long, .int]) (r := some .int) (by decide +kernel) rfl) rfl (by show 2 * 0 + _ ≤ _; exact Nat.le_of_eq rfl) (hb hby at_257) (fun _ _ => ⟨rfl, e28, (by decide : 4 + 0 ≤ _), (by decide : 32 + 0 ≤ _)⟩)
  dsimp only [Pt.U, Pt.locs, Pt.cells, Pt.slots] at X29 l29 y29 z29 st29 hQ29
  subst y29 z29
  obtain ⟨rfl, N29q, e29⟩ := hQ29
  have N29 : Fr n0 L29 := by rw [l29]; exact Fr.app N28 N29q
  refine own_pre st29 ?_
  show OwnGoes p e below _ (T29.setTop (mkF m 260 #[.val (.int p0), .val (.long q1), .second, .val (.long q3), .second, .val (.ref b5), .val (.ref b6), .val (.ref b7), .val (.int (Int32.ofNat E12.length)), .unset, .unset, .unset, .unset, .unset, .unset, .unset] [(.int (own_x q3 (3 : Int32))), (.int (3 : Int32)), (.ref b9), (.ref b9)]))
  refine own_pre (fun _ kz_ => XS.i2dS X29.here hx rfl (hb hby at_260) rfl rfl kz_) ?_
  show OwnGoes p e below _ (T29.setTop (mkF m 261 #[.val (.int p0), .val (.long q1), .second, .val (.long q3), .second, .val (.ref b5), .val (.ref b6), .val (.ref b7), .val (.int (Int32.ofNat E12.length)), .unset, .unset, .unset, .unset, .unset, .unset, .unset] [(.double (Jvm.FP.i2d (own_x q3 (3 : Int32)))), (.int (3 : Int32)), (.ref b9), (.ref b9)]))
  obtain ⟨y3_, hy3_⟩ : ∃ z, z = (Jvm.FP.i2d (own_x q3 (3 : Int32))) := ⟨_, rfl⟩
  rw [← hy3_]
  show OwnGoes p e below _ (T29.setTop (mkF m 261 #[.val (.int p0), .val (.long q1), .second, .val (.long q3), .second, .val (.ref b5), .val (.ref b6), .val (.ref b7), .val (.int (Int32.ofNat E12.length)), .unset, .unset, .unset, .unset, .unset, .unset, .unset] [(.double y3_), (.int (3 : Int32)), (.ref b9), (.ref b9)]))
  obtain ⟨T30, h30, X30, e30, W30, V30, st30⟩ := own_dst X29 hx hZ e29 Va28 (j := (3 : Int32)) (by decide) (by show 3 < 4; decide) (g := (mkF m 261 #[.val (.int p0), .val (.long q1), .second, .val (.long q3), .second, .val (.ref b5), .val (.ref b6), .val (.ref b7), .val (.int (Int32.ofNat E12.length)), .unset, .unset, .unset, .unset, .unset, .unset, .unset] [(.double y3_), (.int (3 : Int32)), (.ref b9), (.ref b9)])) rfl rfl (hb hby at_261)
  have f30_4 := f28_4.other W30 ne_b7_b9
  have f30_3 := f28_3.other W30 ne_b5_b9
  have f30_2 := f28_2.other W30 ne_b6_b9
  have K30 := (K28).wr W30 (Or.inr sz_b9)
  have Z30 := Nat.le_trans Z28 (Keep.of_wr W30).1
  have Va30 : OwnA Z h30 b9 .double [(.double y0_), (.double y1_), (.double y2_), (.double y3_)] := V30
  have N30 := Fr.snoc X30 N29 g_b9
  refine own_pre st30 ?_
  show OwnGoes p e below _ (T30.setTop (mkF m 262 #[.val (.int p0), .val (.long q1), .second, .val (.long q3), .second, .val (.ref b5), .val (.ref b6), .val (.ref b7), .val (.int (Int32.ofNat E12.length)), .unset, .unset, .unset, .unset, .unset, .unset, .unset] [(.ref b9)]))
  refine own_pre (fun _ kz_ => XS.astore X30.here hx rfl (hb hby at_262) rfl rfl (l' := #[.val (.int p0), .val (.long q1), .second, .val (.long q3), .second, .val (.ref b5), .val (.ref b6), .val (.ref b7), .val (.int (Int32.ofNat E12.length)), .val (.ref b9), .unset, .unset, .unset, .unset, .unset, .unset]) rfl kz_) ?_
  show OwnGoes p e below _ (T30.setTop (mkF m 264 #[.val (.int p0), .val (.long q1), .second, .val (.long q3), .second, .val (.ref b5), .val (.ref b6), .val (.ref b7), .val (.int (Int32.ofNat E12.length)), .val (.ref b9), .unset, .unset, .unset, .unset, .unset, .unset] []))
  refine own_pre (fun _ kz_ => XS.iloadN X30.here hx rfl (hb hby at_264) rfl kz_) ?_
  show OwnGoes p e below _ (T30.setTop (mkF m 265 #[.val (.int p0), .val (.long q1), .second, .val (.long q3), .second, .val (.ref b5), .val (.ref b6), .val (.ref b7), .val (.int (Int32.ofNat E12.length)), .val (.ref b9), .unset, .unset, .unset, .unset, .unset, .unset] [(.int p0)]))
  refine own_pre (fun _ kz_ => XS.bipush X30.here hx rfl (hb hby at_265) kz_) ?_
  show OwnGoes p e below _ (T30.setTop (mkF m 267 #[.val (.int p0), .val (.long q1), .second, .val (.long q3), .second, .val (.ref b5), .val (.ref b6), .val (.ref b7), .val (.int (Int32.ofNat E12.length)), .val (.ref b9), .unset, .unset, .unset, .unset, .unset, .unset] [(.int (12 : Int32)), (.int p0)]))
  refine own_pre (fun _ kz_ => XS.iushr X30.here hx rfl (hb hby at_267) rfl kz_) ?_
  show OwnGoes p e below _ (T30.setTop (mkF m 268 #[.val (.int p0), .val (.long q1), .second, .val (.long q3), .second, .val (.ref b5), .val (.ref b6), .val (.ref b7), .val (.int (Int32.ofNat E12.length)), .val (.ref b9), .unset, .unset, .unset, .unset, .unset, .unset] [(.int ((p0.toUInt32 >>> ((12 : Int32) &&& 31).toUInt32).toInt32))]))
  refine own_pre (fun _ kz_ => XS.sipush X30.here hx rfl (hb hby at_268) kz_) ?_
  show OwnGoes p e below _ (T30.setTop (mkF m 271 #[.val (.int p0), .val (.long q1), .second, .val (.long q3), .second, .val (.ref b5), .val (.ref b6), .val (.ref b7), .val (.int (Int32.ofNat E12.length)), .val (.ref b9), .unset, .unset, .unset, .unset, .unset, .unset] [(.int (255 : Int32)), (.int ((p0.toUInt32 >>> ((12 : Int32) &&& 31).toUInt32).toInt32))]))
  refine own_pre (fun _ kz_ => XS.iand X30.here hx rfl (hb hby at_271) rfl kz_) ?_
  show OwnGoes p e below _ (T30.setTop (mkF m 272 #[.val (.int p0), .val (.long q1), .second, .val (.long q3), .second, .val (.ref b5), .val (.ref b6), .val (.ref b7), .val (.int (Int32.ofNat E12.length)), .val (.ref b9), .unset, .unset, .unset, .unset, .unset, .unset] [(.int (((p0.toUInt32 >>> ((12 : Int32) &&& 31).toUInt32).toInt32) &&& (255 : Int32)))]))
  refine own_pre (fun _ kz_ => XS.iconst X30.here hx rfl (hb hby at_272) kz_) ?_
  show OwnGoes p e below _ (T30.setTop (mkF m 273 #[.val (.int p0), .val (.long q1), .second, .val (.long q3), .second, .val (.ref b5), .val (.ref b6), .val (.ref b7), .val (.int (Int32.ofNat E12.length)), .val (.ref b9), .unset, .unset, .unset, .unset, .unset, .unset] [(.int (3 : Int32)), (.int (((p0.toUInt32 >>> ((12 : Int32) &&& 31).toUInt32).toInt32) &&& (255 : Int32)))]))
  refine own_pre (fun _ kz_ => iremM X30 hx rfl (hb hby at_273) rfl (by decide) kz_) ?_
  show OwnGoes p e below _ (T30.setTop (mkF m 274 #[.val (.int p0), .val (.long q1), .second, .val (.long q3), .second, .val (.ref b5), .val (.ref b6), .val (.ref b7), .val (.int (Int32.ofNat E12.length)), .val (.ref b9), .unset, .unset, .unset, .unset, .unset, .unset] [(.int ((((p0.toUInt32 >>> ((12 : Int32) &&& 31).toUInt32).toInt32) &&& (255 : Int32)) % (3 : Int32)))]))
  have r4 : E4 = own_row [] p0 q1 0 := by rw [hE4, hE3, hE2, hE1, hE0]; rfl
  have r8 : E8 = E4 ++ own_row [] p0 q1 1 := by rw [hE8, hE7, hE6, hE5, ← own_rowapp]; rfl
  have r12 : E12 = E8 ++ own_row [] p0 q1 2 := by rw [hE12, hE11, hE10, hE9, ← own_rowapp]; rfl
  have k4 : E4.length ≤ E8.length := by rw [r8, List.length_append]; omega
  have k8 : E8.length ≤ E12.length := by rw [r12, List.length_append]; omega
  have ok12 : OwnOk E12 := by rw [hE12, hE11, hE10, hE9]; exact own_okrow (by rw [hE8, hE7, hE6, hE5]; exact own_okrow (by rw [r4]; exact own_okrow (fun e he => by cases he)))
  have V9v : OwnA Z h30 b9 .double (own_vec q3) := by unfold own_vec; rw [← hy0_, ← hy1_, ← hy2_, ← hy3_]; exact Va30
  rcases own_mod3 p0 with hk | hk | hk
  · rw [hk]
    show OwnGoes p e below _ (T30.setTop (mkF m 274 #[.val (.int p0), .val (.long q1), .second, .val (.long q3), .second, .val (.ref b5), .val (.ref b6), .val (.ref b7), .val (.int (Int32.ofNat E12.length)), .val (.ref b9), .unset, .unset, .unset, .unset, .unset, .unset] [(.int (0 : Int32))]))
    refine own_pre (fun _ kz_ => XS.istore X30.here hx rfl (hb hby at_274) rfl (l' := #[.val (.int p0), .val (.long q1), .second, .val (.long q3), .second, .val (.ref b5), .val (.ref b6), .val (.ref b7), .val (.int (Int32.ofNat E12.length)), .val (.ref b9), .val (.int (0 : Int32)), .unset, .unset, .unset, .unset, .unset]) rfl kz_) ?_
    show OwnGoes p e below _ (T30.setTop (mkF m 276 #[.val (.int p0), .val (.long q1), .second, .val (.long q3), .second, .val (.ref b5), .val (.ref b6), .val (.ref b7), .val (.int (Int32.ofNat E12.length)), .val (.ref b9), .val (.int (0 : Int32)), .unset, .unset, .unset, .unset, .unset] []))
    obtain ⟨T31, h31, X31, e31, E31, A31, D31, -, st31⟩ := newO X30 hx hZ hown (hw _ (List.mem_of_getElem? (i := 11) rfl)) (hw _ (List.mem_of_getElem? (i := 12) rfl)) (hw _ (List.mem_of_getElem? (i := 13) rfl)) e30 (g := (mkF m 276 #[.val (.int p0), .val (.long q1), .second, .val (.long q3), .second, .val (.ref b5), .val (.ref b6), .val (.ref b7), .val (.int (Int32.ofNat E12.length)), .val (.ref b9), .val (.int (0 : Int32)), .unset, .unset, .unset, .unset, .unset] [])) rfl (hb hby at_276) (by decide) (by decide)
    obtain ⟨o, g31⟩ : ∃ z, z = h30.size := ⟨_, rfl⟩
    rw [← g31] at A31 D31 st31
    have g_o : n0 ≤ o := Nat.le_trans Z30 (Nat.le_of_eq g31.symm)
    have sz_o : h0.size ≤ o := Nat.le_trans (K30).1 (Nat.le_of_eq g31.symm)
    have ne_b6_o : b6 ≠ o := Nat.ne_of_lt (Nat.lt_of_lt_of_le f30_2.lt (Nat.le_of_eq g31.symm))
    have ne_b5_o : b5 ≠ o := Nat.ne_of_lt (Nat.lt_of_lt_of_le f30_3.lt (Nat.le_of_eq g31.symm))
    have ne_b7_o : b7 ≠ o := Nat.ne_of_lt (Nat.lt_of_lt_of_le f30_4.lt (Nat.le_of_eq g31.symm))
    have ne_b9_o : b9 ≠ o := Nat.ne_of_lt (Nat.lt_of_lt_of_le V9v.lt (Nat.le_of_eq g31.symm))
    have f31_4 := f30_4.ext E31
    have f31_3 := f30_3.ext E31
    have f31_2 := f30_2.ext E31
    have f31_1 := V9v.ext E31
    have K31 := (K30).ext E31
    have Z31 := Nat.le_trans Z30 E31.1
    have F31_rowStart : Fld Z h31 o "com/example/dual_bounds/dualbounds/numerics/SparseMatrix" "rowStart" "[I" .null := D31 (Or.inr (hw _ (List.mem_of_getElem? (i := 21) rfl))) (ty := (.array .int)) (by decide)
    have F31_columns : Fld Z h31 o "com/example/dual_bounds/dualbounds/numerics/SparseMatrix" "columns" "[I" .null := D31 (Or.inr (hw _ (List.mem_of_getElem? (i := 23) rfl))) (ty := (.array .int)) (by decide)
    have F31_values : Fld Z h31 o "com/example/dual_bounds/dualbounds/numerics/SparseMatrix" "values" "[D" .null := D31 (Or.inr (hw _ (List.mem_of_getElem? (i := 25) rfl))) (ty := (.array .double)) (by decide)
    refine own_pre st31 ?_
    show OwnGoes p e below _ (T31.setTop (mkF m 279 #[.val (.int p0), .val (.long q1), .second, .val (.long q3), .second, .val (.ref b5), .val (.ref b6), .val (.ref b7), .val (.int (Int32.ofNat E12.length)), .val (.ref b9), .val (.int (0 : Int32)), .unset, .unset, .unset, .unset, .unset] [(.ref o)]))
    refine own_pre (fun _ kz_ => XS.dup X31.here hx rfl (hb hby at_279) rfl rfl kz_) ?_
    show OwnGoes p e below _ (T31.setTop (mkF m 280 #[.val (.int p0), .val (.long q1), .second, .val (.long q3), .second, .val (.ref b5), .val (.ref b6), .val (.ref b7), .val (.int (Int32.ofNat E12.length)), .val (.ref b9), .val (.int (0 : Int32)), .unset, .unset, .unset, .unset, .unset] [(.ref o), (.ref o)]))
    refine own_pre (fun _ kz_ => XS.aload X31.here hx rfl (hb hby at_280) rfl rfl kz_) ?_
    show OwnGoes p e below _ (T31.setTop (mkF m 282 #[.val (.int p0), .val (.long q1), .second, .val (.long q3), .second, .val (.ref b5), .val (.ref b6), .val (.ref b7), .val (.int (Int32.ofNat E12.length)), .val (.ref b9), .val (.int (0 : Int32)), .unset, .unset, .unset, .unset, .unset] [(.ref b7), (.ref o), (.ref o)]))
    refine own_pre (fun _ kz_ => XS.aload X31.here hx rfl (hb hby at_282) rfl rfl kz_) ?_
    show OwnGoes p e below _ (T31.setTop (mkF m 284 #[.val (.int p0), .val (.long q1), .second, .val (.long q3), .second, .val (.ref b5), .val (.ref b6), .val (.ref b7), .val (.int (Int32.ofNat E12.length)), .val (.ref b9), .val (.int (0 : Int32)), .unset, .unset, .unset, .unset, .unset] [(.ref b5), (.ref b7), (.ref o), (.ref o)]))
    refine own_pre (fun _ kz_ => XS.aload X31.here hx rfl (hb hby at_284) rfl rfl kz_) ?_
    show OwnGoes p e below _ (T31.setTop (mkF m 286 #[.val (.int p0), .val (.long q1), .second, .val (.long q3), .second, .val (.ref b5), .val (.ref b6), .val (.ref b7), .val (.int (Int32.ofNat E12.length)), .val (.ref b9), .val (.int (0 : Int32)), .unset, .unset, .unset, .unset, .unset] [(.ref b6), (.ref b5), (.ref b7), (.ref o), (.ref o)]))
    obtain ⟨_, _, ⟨T32, L32, k32, n32⟩, -, X32, ⟨Lc32, hQ32, l32, y32, z32⟩, st32⟩ := X31.specialBack hx (y := (⟨"com/example/dual_bounds/dualbounds/numerics/SparseMatrix", "<init>", "([I[I[D)V"⟩ : MethodName)) rfl hown (mvT hZ (hw _ (List.mem_of_getElem? (i := 14) rfl))) (mvT hZ (hw _ (List.mem_of_getElem? (i := 15) rfl))) (mvT hZ (hw _ (List.mem_of_getElem? (i := 16) rfl))) (by decide) (backOf (W := 1) (rmI l Z a0 hw [] o b7 b5 b6 h31 n0 Z31 A31 F31_rowStart F31_columns F31_values g_o) hZ (hw _ (List.mem_of_getElem? (i := 16) rfl)) (hw _ (List.mem_of_getElem? (i := 13) rfl)) (by decide) (by decide)) (g := (mkF m 286 #[.val (.int p0), .val (.long q1), .second, .val (.long q3), .second, .val (.ref b5), .val (.ref b6), .val (.ref b7), .val (.int (Int32.ofNat E12.length)), .val (.ref b9), .val (.int (0 : Int32)), .unset, .unset, .unset, .unset, .unset] [(.ref b6), (.ref b5), (.ref b7), (.ref o), (.ref o)])) rfl (by rw [hml]; rfl) (Steps.refl _) (a := o) (argsL := [(.ref b7), (.ref b5), (.ref b6)]) (rest := [(.ref o)]) (lenOf (d := "([I[I[D)V") (ps := [(.array .int), (.array .int), (.array .double)]) (r := none) (by decide +kernel) rfl) rfl (by show 2 * 0 + _ ≤ _; exact Nat.le_of_eq rfl) (hb hby at_286) (fun _ _ => ⟨rfl, e31, (by decide : 5 + 0 ≤ _), (by decide : 35 + 0 ≤ _)⟩)
    dsimp only [Pt.U, Pt.locs, Pt.cells, Pt.slots] at X32 l32 y32 z32 st32 hQ32
    subst y32 z32
    obtain ⟨rfl, N32q, K32q, E32q, F0_32q, F1_32q, F2_32q⟩ := hQ32
    have N32 : Fr n0 L32 := by rw [l32]; exact Fr.app N30 N32q
    refine own_tr st32 ?_
    have f32_8 := f31_4.keep K32q (fun q => ne_b7_o (List.mem_singleton.mp q))
    have f32_7 := f31_3.keep K32q (fun q => ne_b5_o (List.mem_singleton.mp q))
    have f32_6 := f31_2.keep K32q (fun q => ne_b6_o (List.mem_singleton.mp q))
    have f32_5 := f31_1.keep K32q (fun q => ne_b9_o (List.mem_singleton.mp q))
    have f32_4 := A31.keep K32q
    have Z32 := Nat.le_trans Z31 K32q.1
    have KK32 := (K31).trans K32q (fun x hx => by simp only [List.mem_cons, List.not_mem_nil, or_false] at hx; rcases hx with rfl <;> first | exact Or.inl (List.mem_of_getElem? (i := 0) rfl) | exact Or.inl (List.mem_of_getElem? (i := 1) rfl) | exact Or.inr sz_o )
    show OwnGoes p e below _ (T32.setTop (mkF m 289 #[.val (.int p0), .val (.long q1), .second, .val (.long q3), .second, .val (.ref b5), .val (.ref b6), .val (.ref b7), .val (.int (Int32.ofNat E12.length)), .val (.ref b9), .val (.int (0 : Int32)), .unset, .unset, .unset, .unset, .unset] [(.ref o)]))
    refine own_pre (fun _ kz_ => XS.astore X32.here hx rfl (hb hby at_289) rfl rfl (l' := #[.val (.int p0), .val (.long q1), .second, .val (.long q3), .second, .val (.ref b5), .val (.ref b6), .val (.ref b7), .val (.int (Int32.ofNat E12.length)), .val (.ref b9), .val (.int (0 : Int32)), .val (.ref o), .unset, .unset, .unset, .unset]) rfl kz_) ?_
    show OwnGoes p e below _ (T32.setTop (mkF m 291 #[.val (.int p0), .val (.long q1), .second, .val (.long q3), .second, .val (.ref b5), .val (.ref b6), .val (.ref b7), .val (.int (Int32.ofNat E12.length)), .val (.ref b9), .val (.int (0 : Int32)), .val (.ref o), .unset, .unset, .unset, .unset] []))
    refine own_pre (fun _ kz_ => XS.aload X32.here hx rfl (hb hby at_291) rfl rfl kz_) ?_
    show OwnGoes p e below _ (T32.setTop (mkF m 293 #[.val (.int p0), .val (.long q1), .second, .val (.long q3), .second, .val (.ref b5), .val (.ref b6), .val (.ref b7), .val (.int (Int32.ofNat E12.length)), .val (.ref b9), .val (.int (0 : Int32)), .val (.ref o), .unset, .unset, .unset, .unset] [(.ref o)]))
    refine own_pre (fun _ kz_ => XS.iload X32.here hx rfl (hb hby at_293) rfl kz_) ?_
    show OwnGoes p e below _ (T32.setTop (mkF m 295 #[.val (.int p0), .val (.long q1), .second, .val (.long q3), .second, .val (.ref b5), .val (.ref b6), .val (.ref b7), .val (.int (Int32.ofNat E12.length)), .val (.ref b9), .val (.int (0 : Int32)), .val (.ref o), .unset, .unset, .unset, .unset] [(.int (0 : Int32)), (.ref o)]))
    refine own_pre (fun _ kz_ => XS.aload X32.here hx rfl (hb hby at_295) rfl rfl kz_) ?_
    show OwnGoes p e below _ (T32.setTop (mkF m 297 #[.val (.int p0), .val (.long q1), .second, .val (.long q3), .second, .val (.ref b5), .val (.ref b6), .val (.ref b7), .val (.int (Int32.ofNat E12.length)), .val (.ref b9), .val (.int (0 : Int32)), .val (.ref o), .unset, .unset, .unset, .unset] [(.ref b9), (.int (0 : Int32)), (.ref o)]))
    obtain ⟨cq33, kq33, q33a, q33b, q33c⟩ := isOf hZ rfl E32q
    obtain ⟨_, _, ⟨T33, L33, k33, n33⟩, -, X33, ⟨Lc33, hQ33, l33, y33, z33⟩, st33⟩ := X32.virtualBack hx (y := (⟨"com/example/dual_bounds/dualbounds/numerics/SparseMatrix", "rowTimes", "(I[D)D"⟩ : MethodName)) (z := (⟨"com/example/dual_bounds/dualbounds/numerics/SparseMatrix", "rowTimes", "(I[D)D"⟩ : MethodName)) hown (mvT hZ (hw _ (List.mem_of_getElem? (i := 26) rfl))) (mvT hZ (hw _ (List.mem_of_getElem? (i := 27) rfl))) (notFace_of_selects (args := #[]) (mvT hZ (hw _ (List.mem_of_getElem? (i := 29) rfl)))) (mvT hZ (hw _ (List.mem_of_getElem? (i := 29) rfl))) (mvT hZ (hw _ (List.mem_of_getElem? (i := 28) rfl))) (by decide) (backOf (W := 0) (rmR l Z a0 hw [] o b7 b5 b6 b9 (0 : Int32) [(.int (0 : Int32)), (.int (Int32.ofNat E4.length)), (.int (Int32.ofNat E8.length)), (.int (Int32.ofNat E12.length))] E12 q3 (0) (E4.length) T32.heap n0 Z32 F0_32q F1_32q F2_32q f32_8 f32_7 f32_6 f32_5 ok12 l12 (by omega) (by decide) (by decide) rfl rfl (by omega)) hZ (hw _ (List.mem_of_getElem? (i := 30) rfl)) (hw _ (List.mem_of_getElem? (i := 13) rfl)) (by decide) (by decide)) q33a q33c (g := (mkF m 297 #[.val (.int p0), .val (.long q1), .second, .val (.long q3), .second, .val (.ref b5), .val (.ref b6), .val (.ref b7), .val (.int (Int32.ofNat E12.length)), .val (.ref b9), .val (.int (0 : Int32)), .val (.ref o), .unset, .unset, .unset, .unset] [(.ref b9), (.int (0 : Int32)), (.ref o)])) rfl (by rw [hml]; rfl) (Steps.refl _) (argsL := [(.int (0 : Int32)), (.ref b9)]) (rest := []) (lenOf (d := "(I[D)D") (ps := [.int, (.array .double)]) (r := some .double) (by decide +kernel) rfl) rfl (by show 2 * 0 + _ ≤ _; exact Nat.le_of_eq rfl) (hb hby at_297) (fun _ _ => ⟨rfl, rfl, (by decide : 5 + 0 ≤ _), (by decide : 35 + 0 ≤ _)⟩)
    dsimp only [Pt.U, Pt.locs, Pt.cells, Pt.slots] at X33 l33 y33 z33 st33 hQ33
    subst y33 z33
    obtain ⟨xd, rfl, N33q, e33, hxd⟩ := hQ33
    have N33 : Fr n0 L33 := by rw [l33]; exact Fr.app N32 N33q
    refine own_tr st33 ?_
    show OwnGoes p e below _ (T33.setTop (mkF m 300 #[.val (.int p0), .val (.long q1), .second, .val (.long q3), .second, .val (.ref b5), .val (.ref b6), .val (.ref b7), .val (.int (Int32.ofNat E12.length)), .val (.ref b9), .val (.int (0 : Int32)), .val (.ref o), .unset, .unset, .unset, .unset] [(.double xd)]))
    refine own_pre (fun _ kz_ => XS.dstore X33.here hx rfl (hb hby at_300) rfl (l' := #[.val (.int p0), .val (.long q1), .second, .val (.long q3), .second, .val (.ref b5), .val (.ref b6), .val (.ref b7), .val (.int (Int32.ofNat E12.length)), .val (.ref b9), .val (.int (0 : Int32)), .val (.ref o), .val (.double xd), .second, .unset, .unset]) rfl kz_) ?_
    show OwnGoes p e below _ (T33.setTop (mkF m 302 #[.val (.int p0), .val (.long q1), .second, .val (.long q3), .second, .val (.ref b5), .val (.ref b6), .val (.ref b7), .val (.int (Int32.ofNat E12.length)), .val (.ref b9), .val (.int (0 : Int32)), .val (.ref o), .val (.double xd), .second, .unset, .unset] []))
    refine own_pre (fun _ kz_ => XS.iloadN X33.here hx rfl (hb hby at_302) rfl kz_) ?_
    show OwnGoes p e below _ (T33.setTop (mkF m 303 #[.val (.int p0), .val (.long q1), .second, .val (.long q3), .second, .val (.ref b5), .val (.ref b6), .val (.ref b7), .val (.int (Int32.ofNat E12.length)), .val (.ref b9), .val (.int (0 : Int32)), .val (.ref o), .val (.double xd), .second, .unset, .unset] [(.int p0)]))
    refine own_pre (fun _ kz_ => XS.lloadN X33.here hx rfl (hb hby at_303) rfl kz_) ?_
    show OwnGoes p e below _ (T33.setTop (mkF m 304 #[.val (.int p0), .val (.long q1), .second, .val (.long q3), .second, .val (.ref b5), .val (.ref b6), .val (.ref b7), .val (.int (Int32.ofNat E12.length)), .val (.ref b9), .val (.int (0 : Int32)), .val (.ref o), .val (.double xd), .second, .unset, .unset] [(.long q1), (.int p0)]))
    refine own_pre (fun _ kz_ => XS.lloadN X33.here hx rfl (hb hby at_304) rfl kz_) ?_
    show OwnGoes p e below _ (T33.setTop (mkF m 305 #[.val (.int p0), .val (.long q1), .second, .val (.long q3), .second, .val (.ref b5), .val (.ref b6), .val (.ref b7), .val (.int (Int32.ofNat E12.length)), .val (.ref b9), .val (.int (0 : Int32)), .val (.ref o), .val (.double xd), .second, .unset, .unset] [(.long q3), (.long q1), (.int p0)]))
    refine own_pre (fun _ kz_ => XS.iload X33.here hx rfl (hb hby at_305) rfl kz_) ?_
    show OwnGoes p e below _ (T33.setTop (mkF m 307 #[.val (.int p0), .val (.long q1), .second, .val (.long q3), .second, .val (.ref b5), .val (.ref b6), .val (.ref b7), .val (.int (Int32.ofNat E12.length)), .val (.ref b9), .val (.int (0 : Int32)), .val (.ref o), .val (.double xd), .second, .unset, .unset] [(.int (0 : Int32)), (.long q3), (.long q1), (.int p0)]))
    refine own_pre (fun _ kz_ => XS.iconst X33.here hx rfl (hb hby at_307) kz_) ?_
    show OwnGoes p e below _ (T33.setTop (mkF m 308 #[.val (.int p0), .val (.long q1), .second, .val (.long q3), .second, .val (.ref b5), .val (.ref b6), .val (.ref b7), .val (.int (Int32.ofNat E12.length)), .val (.ref b9), .val (.int (0 : Int32)), .val (.ref o), .val (.double xd), .second, .unset, .unset] [(.int (0 : Int32)), (.int (0 : Int32)), (.long q3), (.long q1), (.int p0)]))
    obtain ⟨_, _, ⟨T34, L34, k34, n34⟩, -, X34, ⟨Lc34, hQ34, l34, y34, z34⟩, st34⟩ := Jvm.LawKit.callS X33 hx (y := (⟨"com/example/dual_bounds/dualbounds/numerics/SparseMatrixRowTimesPinLaw", "term", "(IJJII)J"⟩ : MethodName)) hown (mvT hZ (hw _ (List.mem_of_getElem? (i := 31) rfl))) (mvT hZ (hw _ (List.mem_of_getElem? (i := 32) rfl))) (mvT hZ (hw _ (List.mem_of_getElem? (i := 4) rfl))) (mvT hZ (hw _ (List.mem_of_getElem? (i := 33) rfl))) (by decide) (backOf (W := 0) (rmT l Z a0 hw [] p0 q1 q3 (0 : Int32) (0 : Int32) T32.heap n0 Z32) hZ (hw _ (List.mem_of_getElem? (i := 33) rfl)) (hw _ (List.mem_of_getElem? (i := 4) rfl)) (by decide) (by decide)) (g := (mkF m 308 #[.val (.int p0), .val (.long q1), .second, .val (.long q3), .second, .val (.ref b5), .val (.ref b6), .val (.ref b7), .val (.int (Int32.ofNat E12.length)), .val (.ref b9), .val (.int (0 : Int32)), .val (.ref o), .val (.double xd), .second, .unset, .unset] [(.int (0 : Int32)), (.int (0 : Int32)), (.long q3), (.long q1), (.int p0)])) rfl (by rw [hml]; rfl) (argsL := [(.int p0), (.long q1), (.long q3), (.int (0 : Int32)), (.int (0 : Int32))]) (rest := []) (lenOf (d := "(IJJII)J") (ps := [.int, .long, .long, .int, .int]) (r := some .long) (by decide +kernel) rfl) rfl (by show 2 * 0 + _ ≤ _; exact Nat.le_of_eq rfl) (hb hby at_308) (fun _ _ => ⟨rfl, e33, (by decide : 5 + 0 ≤ _), (by decide : 35 + 0 ≤ _)⟩)
    dsimp only [Pt.U, Pt.locs, Pt.cells, Pt.slots] at X34 l34 y34 z34 st34 hQ34
    subst y34 z34
    obtain ⟨rfl, N34q, e34⟩ := hQ34
    have N34 : Fr n0 L34 := by rw [l34]; exact Fr.app N33 N34q
    refine own_pre st34 ?_
    show OwnGoes p e below _ (T34.setTop (mkF m 311 #[.val (.int p0), .val (.long q1), .second, .val (.long q3), .second, .val (.ref b5), .val (.ref b6), .val (.ref b7), .val (.int (Int32.ofNat E12.length)), .val (.ref b9), .val (.int (0 : Int32)), .val (.ref o), .val (.double xd), .second, .unset, .unset] [(.long (own_term p0 q1 q3 (0 : Int32) (0 : Int32)))]))
    refine own_pre (fun _ kz_ => XS.iloadN X34.here hx rfl (hb hby at_311) rfl kz_) ?_
    show OwnGoes p e below _ (T34.setTop (mkF m 312 #[.val (.int p0), .val (.long q1), .second, .val (.long q3), .second, .val (.ref b5), .val (.ref b6), .val (.ref b7), .val (.int (Int32.ofNat E12.length)), .val (.ref b9), .val (.int (0 : Int32)), .val (.ref o), .val (.double xd), .second, .unset, .unset] [(.int p0), (.long (own_term p0 q1 q3 (0 : Int32) (0 : Int32)))]))
    refine own_pre (fun _ kz_ => XS.lloadN X34.here hx rfl (hb hby at_312) rfl kz_) ?_
    show OwnGoes p e below _ (T34.setTop (mkF m 313 #[.val (.int p0), .val (.long q1), .second, .val (.long q3), .second, .val (.ref b5), .val (.ref b6), .val (.ref b7), .val (.int (Int32.ofNat E12.length)), .val (.ref b9), .val (.int (0 : Int32)), .val (.ref o), .val (.double xd), .second, .unset, .unset] [(.long q1), (.int p0), (.long (own_term p0 q1 q3 (0 : Int32) (0 : Int32)))]))
    refine own_pre (fun _ kz_ => XS.lloadN X34.here hx rfl (hb hby at_313) rfl kz_) ?_
    show OwnGoes p e below _ (T34.setTop (mkF m 314 #[.val (.int p0), .val (.long q1), .second, .val (.long q3), .second, .val (.ref b5), .val (.ref b6), .val (.ref b7), .val (.int (Int32.ofNat E12.length)), .val (.ref b9), .val (.int (0 : Int32)), .val (.ref o), .val (.double xd), .second, .unset, .unset] [(.long q3), (.long q1), (.int p0), (.long (own_term p0 q1 q3 (0 : Int32) (0 : Int32)))]))
    refine own_pre (fun _ kz_ => XS.iload X34.here hx rfl (hb hby at_314) rfl kz_) ?_
    show OwnGoes p e below _ (T34.setTop (mkF m 316 #[.val (.int p0), .val (.long q1), .second, .val (.long q3), .second, .val (.ref b5), .val (.ref b6), .val (.ref b7), .val (.int (Int32.ofNat E12.length)), .val (.ref b9), .val (.int (0 : Int32)), .val (.ref o), .val (.double xd), .second, .unset, .unset] [(.int (0 : Int32)), (.long q3), (.long q1), (.int p0), (.long (own_term p0 q1 q3 (0 : Int32) (0 : Int32)))]))
    refine own_pre (fun _ kz_ => XS.iconst X34.here hx rfl (hb hby at_316) kz_) ?_
    show OwnGoes p e below _ (T34.setTop (mkF m 317 #[.val (.int p0), .val (.long q1), .second, .val (.long q3), .second, .val (.ref b5), .val (.ref b6), .val (.ref b7), .val (.int (Int32.ofNat E12.length)), .val (.ref b9), .val (.int (0 : Int32)), .val (.ref o), .val (.double xd), .second, .unset, .unset] [(.int (1 : Int32)), (.int (0 : Int32)), (.long q3), (.long q1), (.int p0), (.long (own_term p0 q1 q3 (0 : Int32) (0 : Int32)))]))
    obtain ⟨_, _, ⟨T35, L35, k35, n35⟩, -, X35, ⟨Lc35, hQ35, l35, y35, z35⟩, st35⟩ := Jvm.LawKit.callS X34 hx (y := (⟨"com/example/dual_bounds/dualbounds/numerics/SparseMatrixRowTimesPinLaw", "term", "(IJJII)J"⟩ : MethodName)) hown (mvT hZ (hw _ (List.mem_of_getElem? (i := 31) rfl))) (mvT hZ (hw _ (List.mem_of_getElem? (i := 32) rfl))) (mvT hZ (hw _ (List.mem_of_getElem? (i := 4) rfl))) (mvT hZ (hw _ (List.mem_of_getElem? (i := 33) rfl))) (by decide) (backOf (W := 2) (rmT l Z a0 hw [] p0 q1 q3 (0 : Int32) (1 : Int32) T32.heap n0 Z32) hZ (hw _ (List.mem_of_getElem? (i := 33) rfl)) (hw _ (List.mem_of_getElem? (i := 4) rfl)) (by decide) (by decide)) (g := (mkF m 317 #[.val (.int p0), .val (.long q1), .second, .val (.long q3), .second, .val (.ref b5), .val (.ref b6), .val (.ref b7), .val (.int (Int32.ofNat E12.length)), .val (.ref b9), .val (.int (0 : Int32)), .val (.ref o), .val (.double xd), .second, .unset, .unset] [(.int (1 : Int32)), (.int (0 : Int32)), (.long q3), (.long q1), (.int p0), (.long (own_term p0 q1 q3 (0 : Int32) (0 : Int32)))])) rfl (by rw [hml]; rfl) (argsL := [(.int p0), (.long q1), (.long q3), (.int (0 : Int32)), (.int (1 : Int32))]) (rest := [(.long (own_term p0 q1 q3 (0 : Int32) (0 : Int32)))]) (lenOf (d := "(IJJII)J") (ps := [.int, .long, .long, .int, .int]) (r := some .long) (by decide +kernel) rfl) rfl (by show 2 * 0 + _ ≤ _; exact Nat.le_of_eq rfl) (hb hby at_317) (fun _ _ => ⟨rfl, e34, (by decide : 5 + 0 ≤ _), (by decide : 35 + 0 ≤ _)⟩)
    dsimp only [Pt.U, Pt.locs, Pt.cells, Pt.slots] at X35 l35 y35 z35 st35 hQ35
    subst y35 z35
    obtain ⟨rfl, N35q, e35⟩ := hQ35
    have N35 : Fr n0 L35 := by rw [l35]; exact Fr.app N34 N35q
    refine own_pre st35 ?_
    show OwnGoes p e below _ (T35.setTop (mkF m 320 #[.val (.int p0), .val (.long q1), .second, .val (.long q3), .second, .val (.ref b5), .val (.ref b6), .val (.ref b7), .val (.int (Int32.ofNat E12.length)), .val (.ref b9), .val (.int (0 : Int32)), .val (.ref o), .val (.double xd), .second, .unset, .unset] [(.long (own_term p0 q1 q3 (0 : Int32) (1 : Int32))), (.long (own_term p0 q1 q3 (0 : Int32) (0 : Int32)))]))
    refine own_pre (fun _ kz_ => XS.ladd X35.here hx rfl (hb hby at_320) rfl kz_) ?_
    show OwnGoes p e below _ (T35.setTop (mkF m 321 #[.val (.int p0), .val (.long q1), .second, .val (.long q3), .second, .val (.ref b5), .val (.ref b6), .val (.ref b7), .val (.int (Int32.ofNat E12.length)), .val (.ref b9), .val (.int (0 : Int32)), .val (.ref o), .val (.double xd), .second, .unset, .unset] [(.long ((own_term p0 q1 q3 (0 : Int32) (0 : Int32)) + (own_term p0 q1 q3 (0 : Int32) (1 : Int32))))]))
    refine own_pre (fun _ kz_ => XS.iloadN X35.here hx rfl (hb hby at_321) rfl kz_) ?_
    show OwnGoes p e below _ (T35.setTop (mkF m 322 #[.val (.int p0), .val (.long q1), .second, .val (.long q3), .second, .val (.ref b5), .val (.ref b6), .val (.ref b7), .val (.int (Int32.ofNat E12.length)), .val (.ref b9), .val (.int (0 : Int32)), .val (.ref o), .val (.double xd), .second, .unset, .unset] [(.int p0), (.long ((own_term p0 q1 q3 (0 : Int32) (0 : Int32)) + (own_term p0 q1 q3 (0 : Int32) (1 : Int32))))]))
    refine own_pre (fun _ kz_ => XS.lloadN X35.here hx rfl (hb hby at_322) rfl kz_) ?_
    show OwnGoes p e below _ (T35.setTop (mkF m 323 #[.val (.int p0), .val (.long q1), .second, .val (.long q3), .second, .val (.ref b5), .val (.ref b6), .val (.ref b7), .val (.int (Int32.ofNat E12.length)), .val (.ref b9), .val (.int (0 : Int32)), .val (.ref o), .val (.double xd), .second, .unset, .unset] [(.long q1), (.int p0), (.long ((own_term p0 q1 q3 (0 : Int32) (0 : Int32)) + (own_term p0 q1 q3 (0 : Int32) (1 : Int32))))]))
    refine own_pre (fun _ kz_ => XS.lloadN X35.here hx rfl (hb hby at_323) rfl kz_) ?_
    show OwnGoes p e below _ (T35.setTop (mkF m 324 #[.val (.int p0), .val (.long q1), .second, .val (.long q3), .second, .val (.ref b5), .val (.ref b6), .val (.ref b7), .val (.int (Int32.ofNat E12.length)), .val (.ref b9), .val (.int (0 : Int32)), .val (.ref o), .val (.double xd), .second, .unset, .unset] [(.long q3), (.long q1), (.int p0), (.long ((own_term p0 q1 q3 (0 : Int32) (0 : Int32)) + (own_term p0 q1 q3 (0 : Int32) (1 : Int32))))]))
    refine own_pre (fun _ kz_ => XS.iload X35.here hx rfl (hb hby at_324) rfl kz_) ?_
    show OwnGoes p e below _ (T35.setTop (mkF m 326 #[.val (.int p0), .val (.long q1), .second, .val (.long q3), .second, .val (.ref b5), .val (.ref b6), .val (.ref b7), .val (.int (Int32.ofNat E12.length)), .val (.ref b9), .val (.int (0 : Int32)), .val (.ref o), .val (.double xd), .second, .unset, .unset] [(.int (0 : Int32)), (.long q3), (.long q1), (.int p0), (.long ((own_term p0 q1 q3 (0 : Int32) (0 : Int32)) + (own_term p0 q1 q3 (0 : Int32) (1 : Int32))))]))
    refine own_pre (fun _ kz_ => XS.iconst X35.here hx rfl (hb hby at_326) kz_) ?_
    show OwnGoes p e below _ (T35.setTop (mkF m 327 #[.val (.int p0), .val (.long q1), .second, .val (.long q3), .second, .val (.ref b5), .val (.ref b6), .val (.ref b7), .val (.int (Int32.ofNat E12.length)), .val (.ref b9), .val (.int (0 : Int32)), .val (.ref o), .val (.double xd), .second, .unset, .unset] [(.int (2 : Int32)), (.int (0 : Int32)), (.long q3), (.long q1), (.int p0), (.long ((own_term p0 q1 q3 (0 : Int32) (0 : Int32)) + (own_term p0 q1 q3 (0 : Int32) (1 : Int32))))]))
    obtain ⟨_, _, ⟨T36, L36, k36, n36⟩, -, X36, ⟨Lc36, hQ36, l36, y36, z36⟩, st36⟩ := Jvm.LawKit.callS X35 hx (y := (⟨"com/example/dual_bounds/dualbounds/numerics/SparseMatrixRowTimesPinLaw", "term", "(IJJII)J"⟩ : MethodName)) hown (mvT hZ (hw _ (List.mem_of_getElem? (i := 31) rfl))) (mvT hZ (hw _ (List.mem_of_getElem? (i := 32) rfl))) (mvT hZ (hw _ (List.mem_of_getElem? (i := 4) rfl))) (mvT hZ (hw _ (List.mem_of_getElem? (i := 33) rfl))) (by decide) (backOf (W := 2) (rmT l Z a0 hw [] p0 q1 q3 (0 : Int32) (2 : Int32) T32.heap n0 Z32) hZ (hw _ (List.mem_of_getElem? (i := 33) rfl)) (hw _ (List.mem_of_getElem? (i := 4) rfl)) (by decide) (by decide)) (g := (mkF m 327 #[.val (.int p0), .val (.long q1), .second, .val (.long q3), .second, .val (.ref b5), .val (.ref b6), .val (.ref b7), .val (.int (Int32.ofNat E12.length)), .val (.ref b9), .val (.int (0 : Int32)), .val (.ref o), .val (.double xd), .second, .unset, .unset] [(.int (2 : Int32)), (.int (0 : Int32)), (.long q3), (.long q1), (.int p0), (.long ((own_term p0 q1 q3 (0 : Int32) (0 : Int32)) + (own_term p0 q1 q3 (0 : Int32) (1 : Int32))))])) rfl (by rw [hml]; rfl) (argsL := [(.int p0), (.long q1), (.long q3), (.int (0 : Int32)), (.int (2 : Int32))]) (rest := [(.long ((own_term p0 q1 q3 (0 : Int32) (0 : Int32)) + (own_term p0 q1 q3 (0 : Int32) (1 : Int32))))]) (lenOf (d := "(IJJII)J") (ps := [.int, .long, .long, .int, .int]) (r := some .long) (by decide +kernel) rfl) rfl (by show 2 * 0 + _ ≤ _; exact Nat.le_of_eq rfl) (hb hby at_327) (fun _ _ => ⟨rfl, e35, (by decide : 5 + 0 ≤ _), (by decide : 35 + 0 ≤ _)⟩)
    dsimp only [Pt.U, Pt.locs, Pt.cells, Pt.slots] at X36 l36 y36 z36 st36 hQ36
    subst y36 z36
    obtain ⟨rfl, N36q, e36⟩ := hQ36
    have N36 : Fr n0 L36 := by rw [l36]; exact Fr.app N35 N36q
    refine own_pre st36 ?_
    show OwnGoes p e below _ (T36.setTop (mkF m 330 #[.val (.int p0), .val (.long q1), .second, .val (.long q3), .second, .val (.ref b5), .val (.ref b6), .val (.ref b7), .val (.int (Int32.ofNat E12.length)), .val (.ref b9), .val (.int (0 : Int32)), .val (.ref o), .val (.double xd), .second, .unset, .unset] [(.long (own_term p0 q1 q3 (0 : Int32) (2 : Int32))), (.long ((own_term p0 q1 q3 (0 : Int32) (0 : Int32)) + (own_term p0 q1 q3 (0 : Int32) (1 : Int32))))]))
    refine own_pre (fun _ kz_ => XS.ladd X36.here hx rfl (hb hby at_330) rfl kz_) ?_
    show OwnGoes p e below _ (T36.setTop (mkF m 331 #[.val (.int p0), .val (.long q1), .second, .val (.long q3), .second, .val (.ref b5), .val (.ref b6), .val (.ref b7), .val (.int (Int32.ofNat E12.length)), .val (.ref b9), .val (.int (0 : Int32)), .val (.ref o), .val (.double xd), .second, .unset, .unset] [(.long (((own_term p0 q1 q3 (0 : Int32) (0 : Int32)) + (own_term p0 q1 q3 (0 : Int32) (1 : Int32))) + (own_term p0 q1 q3 (0 : Int32) (2 : Int32))))]))
    refine own_pre (fun _ kz_ => XS.iloadN X36.here hx rfl (hb hby at_331) rfl kz_) ?_
    show OwnGoes p e below _ (T36.setTop (mkF m 332 #[.val (.int p0), .val (.long q1), .second, .val (.long q3), .second, .val (.ref b5), .val (.ref b6), .val (.ref b7), .val (.int (Int32.ofNat E12.length)), .val (.ref b9), .val (.int (0 : Int32)), .val (.ref o), .val (.double xd), .second, .unset, .unset] [(.int p0), (.long (((own_term p0 q1 q3 (0 : Int32) (0 : Int32)) + (own_term p0 q1 q3 (0 : Int32) (1 : Int32))) + (own_term p0 q1 q3 (0 : Int32) (2 : Int32))))]))
    refine own_pre (fun _ kz_ => XS.lloadN X36.here hx rfl (hb hby at_332) rfl kz_) ?_
    show OwnGoes p e below _ (T36.setTop (mkF m 333 #[.val (.int p0), .val (.long q1), .second, .val (.long q3), .second, .val (.ref b5), .val (.ref b6), .val (.ref b7), .val (.int (Int32.ofNat E12.length)), .val (.ref b9), .val (.int (0 : Int32)), .val (.ref o), .val (.double xd), .second, .unset, .unset] [(.long q1), (.int p0), (.long (((own_term p0 q1 q3 (0 : Int32) (0 : Int32)) + (own_term p0 q1 q3 (0 : Int32) (1 : Int32))) + (own_term p0 q1 q3 (0 : Int32) (2 : Int32))))]))
    refine own_pre (fun _ kz_ => XS.lloadN X36.here hx rfl (hb hby at_333) rfl kz_) ?_
    show OwnGoes p e below _ (T36.setTop (mkF m 334 #[.val (.int p0), .val (.long q1), .second, .val (.long q3), .second, .val (.ref b5), .val (.ref b6), .val (.ref b7), .val (.int (Int32.ofNat E12.length)), .val (.ref b9), .val (.int (0 : Int32)), .val (.ref o), .val (.double xd), .second, .unset, .unset] [(.long q3), (.long q1), (.int p0), (.long (((own_term p0 q1 q3 (0 : Int32) (0 : Int32)) + (own_term p0 q1 q3 (0 : Int32) (1 : Int32))) + (own_term p0 q1 q3 (0 : Int32) (2 : Int32))))]))
    refine own_pre (fun _ kz_ => XS.iload X36.here hx rfl (hb hby at_334) rfl kz_) ?_
    show OwnGoes p e below _ (T36.setTop (mkF m 336 #[.val (.int p0), .val (.long q1), .second, .val (.long q3), .second, .val (.ref b5), .val (.ref b6), .val (.ref b7), .val (.int (Int32.ofNat E12.length)), .val (.ref b9), .val (.int (0 : Int32)), .val (.ref o), .val (.double xd), .second, .unset, .unset] [(.int (0 : Int32)), (.long q3), (.long q1), (.int p0), (.long (((own_term p0 q1 q3 (0 : Int32) (0 : Int32)) + (own_term p0 q1 q3 (0 : Int32) (1 : Int32))) + (own_term p0 q1 q3 (0 : Int32) (2 : Int32))))]))
    refine own_pre (fun _ kz_ => XS.iconst X36.here hx rfl (hb hby at_336) kz_) ?_
    show OwnGoes p e below _ (T36.setTop (mkF m 337 #[.val (.int p0), .val (.long q1), .second, .val (.long q3), .second, .val (.ref b5), .val (.ref b6), .val (.ref b7), .val (.int (Int32.ofNat E12.length)), .val (.ref b9), .val (.int (0 : Int32)), .val (.ref o), .val (.double xd), .second, .unset, .unset] [(.int (3 : Int32)), (.int (0 : Int32)), (.long q3), (.long q1), (.int p0), (.long (((own_term p0 q1 q3 (0 : Int32) (0 : Int32)) + (own_term p0 q1 q3 (0 : Int32) (1 : Int32))) + (own_term p0 q1 q3 (0 : Int32) (2 : Int32))))]))
    obtain ⟨_, _, ⟨T37, L37, k37, n37⟩, -, X37, ⟨Lc37, hQ37, l37, y37, z37⟩, st37⟩ := Jvm.LawKit.callS X36 hx (y := (⟨"com/example/dual_bounds/dualbounds/numerics/SparseMatrixRowTimesPinLaw", "term", "(IJJII)J"⟩ : MethodName)) hown (mvT hZ (hw _ (List.mem_of_getElem? (i := 31) rfl))) (mvT hZ (hw _ (List.mem_of_getElem? (i := 32) rfl))) (mvT hZ (hw _ (List.mem_of_getElem? (i := 4) rfl))) (mvT hZ (hw _ (List.mem_of_getElem? (i := 33) rfl))) (by decide) (backOf (W := 2) (rmT l Z a0 hw [] p0 q1 q3 (0 : Int32) (3 : Int32) T32.heap n0 Z32) hZ (hw _ (List.mem_of_getElem? (i := 33) rfl)) (hw _ (List.mem_of_getElem? (i := 4) rfl)) (by decide) (by decide)) (g := (mkF m 337 #[.val (.int p0), .val (.long q1), .second, .val (.long q3), .second, .val (.ref b5), .val (.ref b6), .val (.ref b7), .val (.int (Int32.ofNat E12.length)), .val (.ref b9), .val (.int (0 : Int32)), .val (.ref o), .val (.double xd), .second, .unset, .unset] [(.int (3 : Int32)), (.int (0 : Int32)), (.long q3), (.long q1), (.int p0), (.long (((own_term p0 q1 q3 (0 : Int32) (0 : Int32)) + (own_term p0 q1 q3 (0 : Int32) (1 : Int32))) + (own_term p0 q1 q3 (0 : Int32) (2 : Int32))))])) rfl (by rw [hml]; rfl) (argsL := [(.int p0), (.long q1), (.long q3), (.int (0 : Int32)), (.int (3 : Int32))]) (rest := [(.long (((own_term p0 q1 q3 (0 : Int32) (0 : Int32)) + (own_term p0 q1 q3 (0 : Int32) (1 : Int32))) + (own_term p0 q1 q3 (0 : Int32) (2 : Int32))))]) (lenOf (d := "(IJJII)J") (ps := [.int, .long, .long, .int, .int]) (r := some .long) (by decide +kernel) rfl) rfl (by show 2 * 0 + _ ≤ _; exact Nat.le_of_eq rfl) (hb hby at_337) (fun _ _ => ⟨rfl, e36, (by decide : 5 + 0 ≤ _), (by decide : 35 + 0 ≤ _)⟩)
    dsimp only [Pt.U, Pt.locs, Pt.cells, Pt.slots] at X37 l37 y37 z37 st37 hQ37
    subst y37 z37
    obtain ⟨rfl, N37q, e37⟩ := hQ37
    have N37 : Fr n0 L37 := by rw [l37]; exact Fr.app N36 N37q
    refine own_pre st37 ?_
    show OwnGoes p e below _ (T37.setTop (mkF m 340 #[.val (.int p0), .val (.long q1), .second, .val (.long q3), .second, .val (.ref b5), .val (.ref b6), .val (.ref b7), .val (.int (Int32.ofNat E12.length)), .val (.ref b9), .val (.int (0 : Int32)), .val (.ref o), .val (.double xd), .second, .unset, .unset] [(.long (own_term p0 q1 q3 (0 : Int32) (3 : Int32))), (.long (((own_term p0 q1 q3 (0 : Int32) (0 : Int32)) + (own_term p0 q1 q3 (0 : Int32) (1 : Int32))) + (own_term p0 q1 q3 (0 : Int32) (2 : Int32))))]))
    refine own_pre (fun _ kz_ => XS.ladd X37.here hx rfl (hb hby at_340) rfl kz_) ?_
    show OwnGoes p e below _ (T37.setTop (mkF m 341 #[.val (.int p0), .val (.long q1), .second, .val (.long q3), .second, .val (.ref b5), .val (.ref b6), .val (.ref b7), .val (.int (Int32.ofNat E12.length)), .val (.ref b9), .val (.int (0 : Int32)), .val (.ref o), .val (.double xd), .second, .unset, .unset] [(.long ((((own_term p0 q1 q3 (0 : Int32) (0 : Int32)) + (own_term p0 q1 q3 (0 : Int32) (1 : Int32))) + (own_term p0 q1 q3 (0 : Int32) (2 : Int32))) + (own_term p0 q1 q3 (0 : Int32) (3 : Int32))))]))
    refine own_pre (fun _ kz_ => XS.lstore X37.here hx rfl (hb hby at_341) rfl (l' := #[.val (.int p0), .val (.long q1), .second, .val (.long q3), .second, .val (.ref b5), .val (.ref b6), .val (.ref b7), .val (.int (Int32.ofNat E12.length)), .val (.ref b9), .val (.int (0 : Int32)), .val (.ref o), .val (.double xd), .second, .val (.long ((((own_term p0 q1 q3 (0 : Int32) (0 : Int32)) + (own_term p0 q1 q3 (0 : Int32) (1 : Int32))) + (own_term p0 q1 q3 (0 : Int32) (2 : Int32))) + (own_term p0 q1 q3 (0 : Int32) (3 : Int32)))), .second]) rfl kz_) ?_
    show OwnGoes p e below _ (T37.setTop (mkF m 343 #[.val (.int p0), .val (.long q1), .second, .val (.long q3), .second, .val (.ref b5), .val (.ref b6), .val (.ref b7), .val (.int (Int32.ofNat E12.length)), .val (.ref b9), .val (.int (0 : Int32)), .val (.ref o), .val (.double xd), .second, .val (.long ((((own_term p0 q1 q3 (0 : Int32) (0 : Int32)) + (own_term p0 q1 q3 (0 : Int32) (1 : Int32))) + (own_term p0 q1 q3 (0 : Int32) (2 : Int32))) + (own_term p0 q1 q3 (0 : Int32) (3 : Int32)))), .second] []))
    refine own_pre (fun _ kz_ => XS.dload X37.here hx rfl (hb hby at_343) rfl kz_) ?_
    show OwnGoes p e below _ (T37.setTop (mkF m 345 #[.val (.int p0), .val (.long q1), .second, .val (.long q3), .second, .val (.ref b5), .val (.ref b6), .val (.ref b7), .val (.int (Int32.ofNat E12.length)), .val (.ref b9), .val (.int (0 : Int32)), .val (.ref o), .val (.double xd), .second, .val (.long ((((own_term p0 q1 q3 (0 : Int32) (0 : Int32)) + (own_term p0 q1 q3 (0 : Int32) (1 : Int32))) + (own_term p0 q1 q3 (0 : Int32) (2 : Int32))) + (own_term p0 q1 q3 (0 : Int32) (3 : Int32)))), .second] [(.double xd)]))
    refine own_pre (fun _ kz_ => XS.lload X37.here hx rfl (hb hby at_345) rfl kz_) ?_
    show OwnGoes p e below _ (T37.setTop (mkF m 347 #[.val (.int p0), .val (.long q1), .second, .val (.long q3), .second, .val (.ref b5), .val (.ref b6), .val (.ref b7), .val (.int (Int32.ofNat E12.length)), .val (.ref b9), .val (.int (0 : Int32)), .val (.ref o), .val (.double xd), .second, .val (.long ((((own_term p0 q1 q3 (0 : Int32) (0 : Int32)) + (own_term p0 q1 q3 (0 : Int32) (1 : Int32))) + (own_term p0 q1 q3 (0 : Int32) (2 : Int32))) + (own_term p0 q1 q3 (0 : Int32) (3 : Int32)))), .second] [(.long ((((own_term p0 q1 q3 (0 : Int32) (0 : Int32)) + (own_term p0 q1 q3 (0 : Int32) (1 : Int32))) + (own_term p0 q1 q3 (0 : Int32) (2 : Int32))) + (own_term p0 q1 q3 (0 : Int32) (3 : Int32)))), (.double xd)]))
    refine own_pre (fun _ kz_ => XS.l2dS X37.here hx rfl (hb hby at_347) rfl rfl kz_) ?_
    show OwnGoes p e below _ (T37.setTop (mkF m 348 #[.val (.int p0), .val (.long q1), .second, .val (.long q3), .second, .val (.ref b5), .val (.ref b6), .val (.ref b7), .val (.int (Int32.ofNat E12.length)), .val (.ref b9), .val (.int (0 : Int32)), .val (.ref o), .val (.double xd), .second, .val (.long ((((own_term p0 q1 q3 (0 : Int32) (0 : Int32)) + (own_term p0 q1 q3 (0 : Int32) (1 : Int32))) + (own_term p0 q1 q3 (0 : Int32) (2 : Int32))) + (own_term p0 q1 q3 (0 : Int32) (3 : Int32)))), .second] [(.double (Jvm.FP.l2d ((((own_term p0 q1 q3 (0 : Int32) (0 : Int32)) + (own_term p0 q1 q3 (0 : Int32) (1 : Int32))) + (own_term p0 q1 q3 (0 : Int32) (2 : Int32))) + (own_term p0 q1 q3 (0 : Int32) (3 : Int32))))), (.double xd)]))
    refine own_pre (fun _ kz_ => XS.dcmpS X37.here hx rfl (hb hby at_348) rfl (v := (0 : Int32)) (own_fin hxd (by rw [r12, r8, List.drop_zero, List.append_assoc, List.take_left' rfl]; exact r4)) kz_) ?_
    show OwnGoes p e below _ (T37.setTop (mkF m 349 #[.val (.int p0), .val (.long q1), .second, .val (.long q3), .second, .val (.ref b5), .val (.ref b6), .val (.ref b7), .val (.int (Int32.ofNat E12.length)), .val (.ref b9), .val (.int (0 : Int32)), .val (.ref o), .val (.double xd), .second, .val (.long ((((own_term p0 q1 q3 (0 : Int32) (0 : Int32)) + (own_term p0 q1 q3 (0 : Int32) (1 : Int32))) + (own_term p0 q1 q3 (0 : Int32) (2 : Int32))) + (own_term p0 q1 q3 (0 : Int32) (3 : Int32)))), .second] [(.int (0 : Int32))]))
    refine own_pre (fun _ kz_ => XS.ifNo X37.here hx rfl (hb hby at_349) rfl ((if0 _ _).trans (teq (by decide : (0 : Int32) = (0 : Int32))).2) kz_) ?_
    show OwnGoes p e below _ (T37.setTop (mkF m 352 #[.val (.int p0), .val (.long q1), .second, .val (.long q3), .second, .val (.ref b5), .val (.ref b6), .val (.ref b7), .val (.int (Int32.ofNat E12.length)), .val (.ref b9), .val (.int (0 : Int32)), .val (.ref o), .val (.double xd), .second, .val (.long ((((own_term p0 q1 q3 (0 : Int32) (0 : Int32)) + (own_term p0 q1 q3 (0 : Int32) (1 : Int32))) + (own_term p0 q1 q3 (0 : Int32) (2 : Int32))) + (own_term p0 q1 q3 (0 : Int32) (3 : Int32)))), .second] []))
    refine own_pre (fun _ kz_ => XS.iconst X37.here hx rfl (hb hby at_352) kz_) ?_
    show OwnGoes p e below _ (T37.setTop (mkF m 353 #[.val (.int p0), .val (.long q1), .second, .val (.long q3), .second, .val (.ref b5), .val (.ref b6), .val (.ref b7), .val (.int (Int32.ofNat E12.length)), .val (.ref b9), .val (.int (0 : Int32)), .val (.ref o), .val (.double xd), .second, .val (.long ((((own_term p0 q1 q3 (0 : Int32) (0 : Int32)) + (own_term p0 q1 q3 (0 : Int32) (1 : Int32))) + (own_term p0 q1 q3 (0 : Int32) (2 : Int32))) + (own_term p0 q1 q3 (0 : Int32) (3 : Int32)))), .second] [(.int (1 : Int32))]))
    refine own_pre (fun _ kz_ => XS.goto X37.here hx rfl (pc0 := 353) (pc' := 357) rfl (hb hby at_353) (by decide) (by decide) kz_) ?_
    show OwnGoes p e below _ (T37.setTop (mkF m 357 #[.val (.int p0), .val (.long q1), .second, .val (.long q3), .second, .val (.ref b5), .val (.ref b6), .val (.ref b7), .val (.int (Int32.ofNat E12.length)), .val (.ref b9), .val (.int (0 : Int32)), .val (.ref o), .val (.double xd), .second, .val (.long ((((own_term p0 q1 q3 (0 : Int32) (0 : Int32)) + (own_term p0 q1 q3 (0 : Int32) (1 : Int32))) + (own_term p0 q1 q3 (0 : Int32) (2 : Int32))) + (own_term p0 q1 q3 (0 : Int32) (3 : Int32)))), .second] [(.int (1 : Int32))]))
    exact own_ret X37 hx Bd.returns (rfl) (Or.inl ⟨rfl, by simp, _, rfl⟩) Bd.notSynchronized (hb hby at_357) ⟨rfl, N37⟩ (by decide) (by decide)
  · rw [hk]
    show OwnGoes p e below _ (T30.setTop (mkF m 274 #[.val (.int p0), .val (.long q1), .second, .val (.long q3), .second, .val (.ref b5), .val (.ref b6), .val (.ref b7), .val (.int (Int32.ofNat E12.length)), .val (.ref b9), .unset, .unset, .unset, .unset, .unset, .unset] [(.int (1 : Int32))]))
    refine own_pre (fun _ kz_ => XS.istore X30.here hx rfl (hb hby at_274) rfl (l' := #[.val (.int p0), .val (.long q1), .second, .val (.long q3), .second, .val (.ref b5), .val (.ref b6), .val (.ref b7), .val (.int (Int32.ofNat E12.length)), .val (.ref b9), .val (.int (1 : Int32)), .unset, .unset, .unset, .unset, .unset]) rfl kz_) ?_
    show OwnGoes p e below _ (T30.setTop (mkF m 276 #[.val (.int p0), .val (.long q1), .second, .val (.long q3), .second, .val (.ref b5), .val (.ref b6), .val (.ref b7), .val (.int (Int32.ofNat E12.length)), .val (.ref b9), .val (.int (1 : Int32)), .unset, .unset, .unset, .unset, .unset] []))
    obtain ⟨T38, h38, X38, e38, E38, A38, D38, -, st38⟩ := newO X30 hx hZ hown (hw _ (List.mem_of_getElem? (i := 11) rfl)) (hw _ (List.mem_of_getElem? (i := 12) rfl)) (hw _ (List.mem_of_getElem? (i := 13) rfl)) e30 (g := (mkF m 276 #[.val (.int p0), .val (.long q1), .second, .val (.long q3), .second, .val (.ref b5), .val (.ref b6), .val (.ref b7), .val (.int (Int32.ofNat E12.length)), .val (.ref b9), .val (.int (1 : Int32)), .unset, .unset, .unset, .unset, .unset] [])) rfl (hb hby at_276) (by decide) (by decide)
    obtain ⟨o, g38⟩ : ∃ z, z = h30.size := ⟨_, rfl⟩
    rw [← g38] at A38 D38 st38
    have g_o : n0 ≤ o := Nat.le_trans Z30 (Nat.le_of_eq g38.symm)
    have sz_o : h0.size ≤ o := Nat.le_trans (K30).1 (Nat.le_of_eq g38.symm)
    have ne_b6_o : b6 ≠ o := Nat.ne_of_lt (Nat.lt_of_lt_of_le f30_2.lt (Nat.le_of_eq g38.symm))
    have ne_b5_o : b5 ≠ o := Nat.ne_of_lt (Nat.lt_of_lt_of_le f30_3.lt (Nat.le_of_eq g38.symm))
    have ne_b7_o : b7 ≠ o := Nat.ne_of_lt (Nat.lt_of_lt_of_le f30_4.lt (Nat.le_of_eq g38.symm))
    have ne_b9_o : b9 ≠ o := Nat.ne_of_lt (Nat.lt_of_lt_of_le V9v.lt (Nat.le_of_eq g38.symm))
    have f38_4 := f30_4.ext E38
    have f38_3 := f30_3.ext E38
    have f38_2 := f30_2.ext E38
    have f38_1 := V9v.ext E38
    have K38 := (K30).ext E38
    have Z38 := Nat.le_trans Z30 E38.1
    have F38_rowStart : Fld Z h38 o "com/example/dual_bounds/dualbounds/numerics/SparseMatrix" "rowStart" "[I" .null := D38 (Or.inr (hw _ (List.mem_of_getElem? (i := 21) rfl))) (ty := (.array .int)) (by decide)
    have F38_columns : Fld Z h38 o "com/example/dual_bounds/dualbounds/numerics/SparseMatrix" "columns" "[I" .null := D38 (Or.inr (hw _ (List.mem_of_getElem? (i := 23) rfl))) (ty := (.array .int)) (by decide)
    have F38_values : Fld Z h38 o "com/example/dual_bounds/dualbounds/numerics/SparseMatrix" "values" "[D" .null := D38 (Or.inr (hw _ (List.mem_of_getElem? (i := 25) rfl))) (ty := (.array .double)) (by decide)
    refine own_pre st38 ?_
    show OwnGoes p e below _ (T38.setTop (mkF m 279 #[.val (.int p0), .val (.long q1), .second, .val (.long q3), .second, .val (.ref b5), .val (.ref b6), .val (.ref b7), .val (.int (Int32.ofNat E12.length)), .val (.ref b9), .val (.int (1 : Int32)), .unset, .unset, .unset, .unset, .unset] [(.ref o)]))
    refine own_pre (fun _ kz_ => XS.dup X38.here hx rfl (hb hby at_279) rfl rfl kz_) ?_
    show OwnGoes p e below _ (T38.setTop (mkF m 280 #[.val (.int p0), .val (.long q1), .second, .val (.long q3), .second, .val (.ref b5), .val (.ref b6), .val (.ref b7), .val (.int (Int32.ofNat E12.length)), .val (.ref b9), .val (.int (1 : Int32)), .unset, .unset, .unset, .unset, .unset] [(.ref o), (.ref o)]))
    refine own_pre (fun _ kz_ => XS.aload X38.here hx rfl (hb hby at_280) rfl rfl kz_) ?_
    show OwnGoes p e below _ (T38.setTop (mkF m 282 #[.val (.int p0), .val (.long q1), .second, .val (.long q3), .second, .val (.ref b5), .val (.ref b6), .val (.ref b7), .val (.int (Int32.ofNat E12.length)), .val (.ref b9), .val (.int (1 : Int32)), .unset, .unset, .unset, .unset, .unset] [(.ref b7), (.ref o), (.ref o)]))
    refine own_pre (fun _ kz_ => XS.aload X38.here hx rfl (hb hby at_282) rfl rfl kz_) ?_
    show OwnGoes p e below _ (T38.setTop (mkF m 284 #[.val (.int p0), .val (.long q1), .second, .val (.long q3), .second, .val (.ref b5), .val (.ref b6), .val (.ref b7), .val (.int (Int32.ofNat E12.length)), .val (.ref b9), .val (.int (1 : Int32)), .unset, .unset, .unset, .unset, .unset] [(.ref b5), (.ref b7), (.ref o), (.ref o)]))
    refine own_pre (fun _ kz_ => XS.aload X38.here hx rfl (hb hby at_284) rfl rfl kz_) ?_
    show OwnGoes p e below _ (T38.setTop (mkF m 286 #[.val (.int p0), .val (.long q1), .second, .val (.long q3), .second, .val (.ref b5), .val (.ref b6), .val (.ref b7), .val (.int (Int32.ofNat E12.length)), .val (.ref b9), .val (.int (1 : Int32)), .unset, .unset, .unset, .unset, .unset] [(.ref b6), (.ref b5), (.ref b7), (.ref o), (.ref o)]))
    obtain ⟨_, _, ⟨T39, L39, k39, n39⟩, -, X39, ⟨Lc39, hQ39, l39, y39, z39⟩, st39⟩ := X38.specialBack hx (y := (⟨"com/example/dual_bounds/dualbounds/numerics/SparseMatrix", "<init>", "([I[I[D)V"⟩ : MethodName)) rfl hown (mvT hZ (hw _ (List.mem_of_getElem? (i := 14) rfl))) (mvT hZ (hw _ (List.mem_of_getElem? (i := 15) rfl))) (mvT hZ (hw _ (List.mem_of_getElem? (i := 16) rfl))) (by decide) (backOf (W := 1) (rmI l Z a0 hw [] o b7 b5 b6 h38 n0 Z38 A38 F38_rowStart F38_columns F38_values g_o) hZ (hw _ (List.mem_of_getElem? (i := 16) rfl)) (hw _ (List.mem_of_getElem? (i := 13) rfl)) (by decide) (by decide)) (g := (mkF m 286 #[.val (.int p0), .val (.long q1), .second, .val (.long q3), .second, .val (.ref b5), .val (.ref b6), .val (.ref b7), .val (.int (Int32.ofNat E12.length)), .val (.ref b9), .val (.int (1 : Int32)), .unset, .unset, .unset, .unset, .unset] [(.ref b6), (.ref b5), (.ref b7), (.ref o), (.ref o)])) rfl (by rw [hml]; rfl) (Steps.refl _) (a := o) (argsL := [(.ref b7), (.ref b5), (.ref b6)]) (rest := [(.ref o)]) (lenOf (d := "([I[I[D)V") (ps := [(.array .int), (.array .int), (.array .double)]) (r := none) (by decide +kernel) rfl) rfl (by show 2 * 0 + _ ≤ _; exact Nat.le_of_eq rfl) (hb hby at_286) (fun _ _ => ⟨rfl, e38, (by decide : 5 + 0 ≤ _), (by decide : 35 + 0 ≤ _)⟩)
    dsimp only [Pt.U, Pt.locs, Pt.cells, Pt.slots] at X39 l39 y39 z39 st39 hQ39
    subst y39 z39
    obtain ⟨rfl, N39q, K39q, E39q, F0_39q, F1_39q, F2_39q⟩ := hQ39
    have N39 : Fr n0 L39 := by rw [l39]; exact Fr.app N30 N39q
    refine own_tr st39 ?_
    have f39_8 := f38_4.keep K39q (fun q => ne_b7_o (List.mem_singleton.mp q))
    have f39_7 := f38_3.keep K39q (fun q => ne_b5_o (List.mem_singleton.mp q))
    have f39_6 := f38_2.keep K39q (fun q => ne_b6_o (List.mem_singleton.mp q))
    have f39_5 := f38_1.keep K39q (fun q => ne_b9_o (List.mem_singleton.mp q))
    have f39_4 := A38.keep K39q
    have Z39 := Nat.le_trans Z38 K39q.1
    have KK39 := (K38).trans K39q (fun x hx => by simp only [List.mem_cons, List.not_mem_nil, or_false] at hx; rcases hx with rfl <;> first | exact Or.inl (List.mem_of_getElem? (i := 0) rfl) | exact Or.inl (List.mem_of_getElem? (i := 1) rfl) | exact Or.inr sz_o )
    show OwnGoes p e below _ (T39.setTop (mkF m 289 #[.val (.int p0), .val (.long q1), .second, .val (.long q3), .second, .val (.ref b5), .val (.ref b6), .val (.ref b7), .val (.int (Int32.ofNat E12.length)), .val (.ref b9), .val (.int (1 : Int32)), .unset, .unset, .unset, .unset, .unset] [(.ref o)]))
    refine own_pre (fun _ kz_ => XS.astore X39.here hx rfl (hb hby at_289) rfl rfl (l' := #[.val (.int p0), .val (.long q1), .second, .val (.long q3), .second, .val (.ref b5), .val (.ref b6), .val (.ref b7), .val (.int (Int32.ofNat E12.length)), .val (.ref b9), .val (.int (1 : Int32)), .val (.ref o), .unset, .unset, .unset, .unset]) rfl kz_) ?_
    show OwnGoes p e below _ (T39.setTop (mkF m 291 #[.val (.int p0), .val (.long q1), .second, .val (.long q3), .second, .val (.ref b5), .val (.ref b6), .val (.ref b7), .val (.int (Int32.ofNat E12.length)), .val (.ref b9), .val (.int (1 : Int32)), .val (.ref o), .unset, .unset, .unset, .unset] []))
    refine own_pre (fun _ kz_ => XS.aload X39.here hx rfl (hb hby at_291) rfl rfl kz_) ?_
    show OwnGoes p e below _ (T39.setTop (mkF m 293 #[.val (.int p0), .val (.long q1), .second, .val (.long q3), .second, .val (.ref b5), .val (.ref b6), .val (.ref b7), .val (.int (Int32.ofNat E12.length)), .val (.ref b9), .val (.int (1 : Int32)), .val (.ref o), .unset, .unset, .unset, .unset] [(.ref o)]))
    refine own_pre (fun _ kz_ => XS.iload X39.here hx rfl (hb hby at_293) rfl kz_) ?_
    show OwnGoes p e below _ (T39.setTop (mkF m 295 #[.val (.int p0), .val (.long q1), .second, .val (.long q3), .second, .val (.ref b5), .val (.ref b6), .val (.ref b7), .val (.int (Int32.ofNat E12.length)), .val (.ref b9), .val (.int (1 : Int32)), .val (.ref o), .unset, .unset, .unset, .unset] [(.int (1 : Int32)), (.ref o)]))
    refine own_pre (fun _ kz_ => XS.aload X39.here hx rfl (hb hby at_295) rfl rfl kz_) ?_
    show OwnGoes p e below _ (T39.setTop (mkF m 297 #[.val (.int p0), .val (.long q1), .second, .val (.long q3), .second, .val (.ref b5), .val (.ref b6), .val (.ref b7), .val (.int (Int32.ofNat E12.length)), .val (.ref b9), .val (.int (1 : Int32)), .val (.ref o), .unset, .unset, .unset, .unset] [(.ref b9), (.int (1 : Int32)), (.ref o)]))
    obtain ⟨cq40, kq40, q40a, q40b, q40c⟩ := isOf hZ rfl E39q
    obtain ⟨_, _, ⟨T40, L40, k40, n40⟩, -, X40, ⟨Lc40, hQ40, l40, y40, z40⟩, st40⟩ := X39.virtualBack hx (y := (⟨"com/example/dual_bounds/dualbounds/numerics/SparseMatrix", "rowTimes", "(I[D)D"⟩ : MethodName)) (z := (⟨"com/example/dual_bounds/dualbounds/numerics/SparseMatrix", "rowTimes", "(I[D)D"⟩ : MethodName)) hown (mvT hZ (hw _ (List.mem_of_getElem? (i := 26) rfl))) (mvT hZ (hw _ (List.mem_of_getElem? (i := 27) rfl))) (notFace_of_selects (args := #[]) (mvT hZ (hw _ (List.mem_of_getElem? (i := 29) rfl)))) (mvT hZ (hw _ (List.mem_of_getElem? (i := 29) rfl))) (mvT hZ (hw _ (List.mem_of_getElem? (i := 28) rfl))) (by decide) (backOf (W := 0) (rmR l Z a0 hw [] o b7 b5 b6 b9 (1 : Int32) [(.int (0 : Int32)), (.int (Int32.ofNat E4.length)), (.int (Int32.ofNat E8.length)), (.int (Int32.ofNat E12.length))] E12 q3 (E4.length) (E8.length) T39.heap n0 Z39 F0_39q F1_39q F2_39q f39_8 f39_7 f39_6 f39_5 ok12 l12 (by omega) (by decide) (by decide) rfl rfl (by omega)) hZ (hw _ (List.mem_of_getElem? (i := 30) rfl)) (hw _ (List.mem_of_getElem? (i := 13) rfl)) (by decide) (by decide)) q40a q40c (g := (mkF m 297 #[.val (.int p0), .val (.long q1), .second, .val (.long q3), .second, .val (.ref b5), .val (.ref b6), .val (.ref b7), .val (.int (Int32.ofNat E12.length)), .val (.ref b9), .val (.int (1 : Int32)), .val (.ref o), .unset, .unset, .unset, .unset] [(.ref b9), (.int (1 : Int32)), (.ref o)])) rfl (by rw [hml]; rfl) (Steps.refl _) (argsL := [(.int (1 : Int32)), (.ref b9)]) (rest := []) (lenOf (d := "(I[D)D") (ps := [.int, (.array .double)]) (r := some .double) (by decide +kernel) rfl) rfl (by show 2 * 0 + _ ≤ _; exact Nat.le_of_eq rfl) (hb hby at_297) (fun _ _ => ⟨rfl, rfl, (by decide : 5 + 0 ≤ _), (by decide : 35 + 0 ≤ _)⟩)
    dsimp only [Pt.U, Pt.locs, Pt.cells, Pt.slots] at X40 l40 y40 z40 st40 hQ40
    subst y40 z40
    obtain ⟨xd, rfl, N40q, e40, hxd⟩ := hQ40
    have N40 : Fr n0 L40 := by rw [l40]; exact Fr.app N39 N40q
    refine own_tr st40 ?_
    show OwnGoes p e below _ (T40.setTop (mkF m 300 #[.val (.int p0), .val (.long q1), .second, .val (.long q3), .second, .val (.ref b5), .val (.ref b6), .val (.ref b7), .val (.int (Int32.ofNat E12.length)), .val (.ref b9), .val (.int (1 : Int32)), .val (.ref o), .unset, .unset, .unset, .unset] [(.double xd)]))
    refine own_pre (fun _ kz_ => XS.dstore X40.here hx rfl (hb hby at_300) rfl (l' := #[.val (.int p0), .val (.long q1), .second, .val (.long q3), .second, .val (.ref b5), .val (.ref b6), .val (.ref b7), .val (.int (Int32.ofNat E12.length)), .val (.ref b9), .val (.int (1 : Int32)), .val (.ref o), .val (.double xd), .second, .unset, .unset]) rfl kz_) ?_
    show OwnGoes p e below _ (T40.setTop (mkF m 302 #[.val (.int p0), .val (.long q1), .second, .val (.long q3), .second, .val (.ref b5), .val (.ref b6), .val (.ref b7), .val (.int (Int32.ofNat E12.length)), .val (.ref b9), .val (.int (1 : Int32)), .val (.ref o), .val (.double xd), .second, .unset, .unset] []))
    refine own_pre (fun _ kz_ => XS.iloadN X40.here hx rfl (hb hby at_302) rfl kz_) ?_
    show OwnGoes p e below _ (T40.setTop (mkF m 303 #[.val (.int p0), .val (.long q1), .second, .val (.long q3), .second, .val (.ref b5), .val (.ref b6), .val (.ref b7), .val (.int (Int32.ofNat E12.length)), .val (.ref b9), .val (.int (1 : Int32)), .val (.ref o), .val (.double xd), .second, .unset, .unset] [(.int p0)]))
    refine own_pre (fun _ kz_ => XS.lloadN X40.here hx rfl (hb hby at_303) rfl kz_) ?_
    show OwnGoes p e below _ (T40.setTop (mkF m 304 #[.val (.int p0), .val (.long q1), .second, .val (.long q3), .second, .val (.ref b5), .val (.ref b6), .val (.ref b7), .val (.int (Int32.ofNat E12.length)), .val (.ref b9), .val (.int (1 : Int32)), .val (.ref o), .val (.double xd), .second, .unset, .unset] [(.long q1), (.int p0)]))
    refine own_pre (fun _ kz_ => XS.lloadN X40.here hx rfl (hb hby at_304) rfl kz_) ?_
    show OwnGoes p e below _ (T40.setTop (mkF m 305 #[.val (.int p0), .val (.long q1), .second, .val (.long q3), .second, .val (.ref b5), .val (.ref b6), .val (.ref b7), .val (.int (Int32.ofNat E12.length)), .val (.ref b9), .val (.int (1 : Int32)), .val (.ref o), .val (.double xd), .second, .unset, .unset] [(.long q3), (.long q1), (.int p0)]))
    refine own_pre (fun _ kz_ => XS.iload X40.here hx rfl (hb hby at_305) rfl kz_) ?_
    show OwnGoes p e below _ (T40.setTop (mkF m 307 #[.val (.int p0), .val (.long q1), .second, .val (.long q3), .second, .val (.ref b5), .val (.ref b6), .val (.ref b7), .val (.int (Int32.ofNat E12.length)), .val (.ref b9), .val (.int (1 : Int32)), .val (.ref o), .val (.double xd), .second, .unset, .unset] [(.int (1 : Int32)), (.long q3), (.long q1), (.int p0)]))
    refine own_pre (fun _ kz_ => XS.iconst X40.here hx rfl (hb hby at_307) kz_) ?_
    show OwnGoes p e below _ (T40.setTop (mkF m 308 #[.val (.int p0), .val (.long q1), .second, .val (.long q3), .second, .val (.ref b5), .val (.ref b6), .val (.ref b7), .val (.int (Int32.ofNat E12.length)), .val (.ref b9), .val (.int (1 : Int32)), .val (.ref o), .val (.double xd), .second, .unset, .unset] [(.int (0 : Int32)), (.int (1 : Int32)), (.long q3), (.long q1), (.int p0)]))
    obtain ⟨_, _, ⟨T41, L41, k41, n41⟩, -, X41, ⟨Lc41, hQ41, l41, y41, z41⟩, st41⟩ := Jvm.LawKit.callS X40 hx (y := (⟨"com/example/dual_bounds/dualbounds/numerics/SparseMatrixRowTimesPinLaw", "term", "(IJJII)J"⟩ : MethodName)) hown (mvT hZ (hw _ (List.mem_of_getElem? (i := 31) rfl))) (mvT hZ (hw _ (List.mem_of_getElem? (i := 32) rfl))) (mvT hZ (hw _ (List.mem_of_getElem? (i := 4) rfl))) (mvT hZ (hw _ (List.mem_of_getElem? (i := 33) rfl))) (by decide) (backOf (W := 0) (rmT l Z a0 hw [] p0 q1 q3 (1 : Int32) (0 : Int32) T39.heap n0 Z39) hZ (hw _ (List.mem_of_getElem? (i := 33) rfl)) (hw _ (List.mem_of_getElem? (i := 4) rfl)) (by decide) (by decide)) (g := (mkF m 308 #[.val (.int p0), .val (.long q1), .second, .val (.long q3), .second, .val (.ref b5), .val (.ref b6), .val (.ref b7), .val (.int (Int32.ofNat E12.length)), .val (.ref b9), .val (.int (1 : Int32)), .val (.ref o), .val (.double xd), .second, .unset, .unset] [(.int (0 : Int32)), (.int (1 : Int32)), (.long q3), (.long q1), (.int p0)])) rfl (by rw [hml]; rfl) (argsL := [(.int p0), (.long q1), (.long q3), (.int (1 : Int32)), (.int (0 : Int32))]) (rest := []) (lenOf (d := "(IJJII)J") (ps := [.int, .long, .long, .int, .int]) (r := some .long) (by decide +kernel) rfl) rfl (by show 2 * 0 + _ ≤ _; exact Nat.le_of_eq rfl) (hb hby at_308) (fun _ _ => ⟨rfl, e40, (by decide : 5 + 0 ≤ _), (by decide : 35 + 0 ≤ _)⟩)
    dsimp only [Pt.U, Pt.locs, Pt.cells, Pt.slots] at X41 l41 y41 z41 st41 hQ41
    subst y41 z41
    obtain ⟨rfl, N41q, e41⟩ := hQ41
    have N41 : Fr n0 L41 := by rw [l41]; exact Fr.app N40 N41q
    refine own_pre st41 ?_
    show OwnGoes p e below _ (T41.setTop (mkF m 311 #[.val (.int p0), .val (.long q1), .second, .val (.long q3), .second, .val (.ref b5), .val (.ref b6), .val (.ref b7), .val (.int (Int32.ofNat E12.length)), .val (.ref b9), .val (.int (1 : Int32)), .val (.ref o), .val (.double xd), .second, .unset, .unset] [(.long (own_term p0 q1 q3 (1 : Int32) (0 : Int32)))]))
    refine own_pre (fun _ kz_ => XS.iloadN X41.here hx rfl (hb hby at_311) rfl kz_) ?_
    show OwnGoes p e below _ (T41.setTop (mkF m 312 #[.val (.int p0), .val (.long q1), .second, .val (.long q3), .second, .val (.ref b5), .val (.ref b6), .val (.ref b7), .val (.int (Int32.ofNat E12.length)), .val (.ref b9), .val (.int (1 : Int32)), .val (.ref o), .val (.double xd), .second, .unset, .unset] [(.int p0), (.long (own_term p0 q1 q3 (1 : Int32) (0 : Int32)))]))
    refine own_pre (fun _ kz_ => XS.lloadN X41.here hx rfl (hb hby at_312) rfl kz_) ?_
    show OwnGoes p e below _ (T41.setTop (mkF m 313 #[.val (.int p0), .val (.long q1), .second, .val (.long q3), .second, .val (.ref b5), .val (.ref b6), .val (.ref b7), .val (.int (Int32.ofNat E12.length)), .val (.ref b9), .val (.int (1 : Int32)), .val (.ref o), .val (.double xd), .second, .unset, .unset] [(.long q1), (.int p0), (.long (own_term p0 q1 q3 (1 : Int32) (0 : Int32)))]))
    refine own_pre (fun _ kz_ => XS.lloadN X41.here hx rfl (hb hby at_313) rfl kz_) ?_
    show OwnGoes p e below _ (T41.setTop (mkF m 314 #[.val (.int p0), .val (.long q1), .second, .val (.long q3), .second, .val (.ref b5), .val (.ref b6), .val (.ref b7), .val (.int (Int32.ofNat E12.length)), .val (.ref b9), .val (.int (1 : Int32)), .val (.ref o), .val (.double xd), .second, .unset, .unset] [(.long q3), (.long q1), (.int p0), (.long (own_term p0 q1 q3 (1 : Int32) (0 : Int32)))]))
    refine own_pre (fun _ kz_ => XS.iload X41.here hx rfl (hb hby at_314) rfl kz_) ?_
    show OwnGoes p e below _ (T41.setTop (mkF m 316 #[.val (.int p0), .val (.long q1), .second, .val (.long q3), .second, .val (.ref b5), .val (.ref b6), .val (.ref b7), .val (.int (Int32.ofNat E12.length)), .val (.ref b9), .val (.int (1 : Int32)), .val (.ref o), .val (.double xd), .second, .unset, .unset] [(.int (1 : Int32)), (.long q3), (.long q1), (.int p0), (.long (own_term p0 q1 q3 (1 : Int32) (0 : Int32)))]))
    refine own_pre (fun _ kz_ => XS.iconst X41.here hx rfl (hb hby at_316) kz_) ?_
    show OwnGoes p e below _ (T41.setTop (mkF m 317 #[.val (.int p0), .val (.long q1), .second, .val (.long q3), .second, .val (.ref b5), .val (.ref b6), .val (.ref b7), .val (.int (Int32.ofNat E12.length)), .val (.ref b9), .val (.int (1 : Int32)), .val (.ref o), .val (.double xd), .second, .unset, .unset] [(.int (1 : Int32)), (.int (1 : Int32)), (.long q3), (.long q1), (.int p0), (.long (own_term p0 q1 q3 (1 : Int32) (0 : Int32)))]))
    obtain ⟨_, _, ⟨T42, L42, k42, n42⟩, -, X42, ⟨Lc42, hQ42, l42, y42, z42⟩, st42⟩ := Jvm.LawKit.callS X41 hx (y := (⟨"com/example/dual_bounds/dualbounds/numerics/SparseMatrixRowTimesPinLaw", "term", "(IJJII)J"⟩ : MethodName)) hown (mvT hZ (hw _ (List.mem_of_getElem? (i := 31) rfl))) (mvT hZ (hw _ (List.mem_of_getElem? (i := 32) rfl))) (mvT hZ (hw _ (List.mem_of_getElem? (i := 4) rfl))) (mvT hZ (hw _ (List.mem_of_getElem? (i := 33) rfl))) (by decide) (backOf (W := 2) (rmT l Z a0 hw [] p0 q1 q3 (1 : Int32) (1 : Int32) T39.heap n0 Z39) hZ (hw _ (List.mem_of_getElem? (i := 33) rfl)) (hw _ (List.mem_of_getElem? (i := 4) rfl)) (by decide) (by decide)) (g := (mkF m 317 #[.val (.int p0), .val (.long q1), .second, .val (.long q3), .second, .val (.ref b5), .val (.ref b6), .val (.ref b7), .val (.int (Int32.ofNat E12.length)), .val (.ref b9), .val (.int (1 : Int32)), .val (.ref o), .val (.double xd), .second, .unset, .unset] [(.int (1 : Int32)), (.int (1 : Int32)), (.long q3), (.long q1), (.int p0), (.long (own_term p0 q1 q3 (1 : Int32) (0 : Int32)))])) rfl (by rw [hml]; rfl) (argsL := [(.int p0), (.long q1), (.long q3), (.int (1 : Int32)), (.int (1 : Int32))]) (rest := [(.long (own_term p0 q1 q3 (1 : Int32) (0 : Int32)))]) (lenOf (d := "(IJJII)J") (ps := [.int, .long, .long, .int, .int]) (r := some .long) (by decide +kernel) rfl) rfl (by show 2 * 0 + _ ≤ _; exact Nat.le_of_eq rfl) (hb hby at_317) (fun _ _ => ⟨rfl, e41, (by decide : 5 + 0 ≤ _), (by decide : 35 + 0 ≤ _)⟩)
    dsimp only [Pt.U, Pt.locs, Pt.cells, Pt.slots] at X42 l42 y42 z42 st42 hQ42
    subst y42 z42
    obtain ⟨rfl, N42q, e42⟩ := hQ42
    have N42 : Fr n0 L42 := by rw [l42]; exact Fr.app N41 N42q
    refine own_pre st42 ?_
    show OwnGoes p e below _ (T42.setTop (mkF m 320 #[.val (.int p0), .val (.long q1), .second, .val (.long q3), .second, .val (.ref b5), .val (.ref b6), .val (.ref b7), .val (.int (Int32.ofNat E12.length)), .val (.ref b9), .val (.int (1 : Int32)), .val (.ref o), .val (.double xd), .second, .unset, .unset] [(.long (own_term p0 q1 q3 (1 : Int32) (1 : Int32))), (.long (own_term p0 q1 q3 (1 : Int32) (0 : Int32)))]))
    refine own_pre (fun _ kz_ => XS.ladd X42.here hx rfl (hb hby at_320) rfl kz_) ?_
    show OwnGoes p e below _ (T42.setTop (mkF m 321 #[.val (.int p0), .val (.long q1), .second, .val (.long q3), .second, .val (.ref b5), .val (.ref b6), .val (.ref b7), .val (.int (Int32.ofNat E12.length)), .val (.ref b9), .val (.int (1 : Int32)), .val (.ref o), .val (.double xd), .second, .unset, .unset] [(.long ((own_term p0 q1 q3 (1 : Int32) (0 : Int32)) + (own_term p0 q1 q3 (1 : Int32) (1 : Int32))))]))
    refine own_pre (fun _ kz_ => XS.iloadN X42.here hx rfl (hb hby at_321) rfl kz_) ?_
    show OwnGoes p e below _ (T42.setTop (mkF m 322 #[.val (.int p0), .val (.long q1), .second, .val (.long q3), .second, .val (.ref b5), .val (.ref b6), .val (.ref b7), .val (.int (Int32.ofNat E12.length)), .val (.ref b9), .val (.int (1 : Int32)), .val (.ref o), .val (.double xd), .second, .unset, .unset] [(.int p0), (.long ((own_term p0 q1 q3 (1 : Int32) (0 : Int32)) + (own_term p0 q1 q3 (1 : Int32) (1 : Int32))))]))
    refine own_pre (fun _ kz_ => XS.lloadN X42.here hx rfl (hb hby at_322) rfl kz_) ?_
    show OwnGoes p e below _ (T42.setTop (mkF m 323 #[.val (.int p0), .val (.long q1), .second, .val (.long q3), .second, .val (.ref b5), .val (.ref b6), .val (.ref b7), .val (.int (Int32.ofNat E12.length)), .val (.ref b9), .val (.int (1 : Int32)), .val (.ref o), .val (.double xd), .second, .unset, .unset] [(.long q1), (.int p0), (.long ((own_term p0 q1 q3 (1 : Int32) (0 : Int32)) + (own_term p0 q1 q3 (1 : Int32) (1 : Int32))))]))
    refine own_pre (fun _ kz_ => XS.lloadN X42.here hx rfl (hb hby at_323) rfl kz_) ?_
    show OwnGoes p e below _ (T42.setTop (mkF m 324 #[.val (.int p0), .val (.long q1), .second, .val (.long q3), .second, .val (.ref b5), .val (.ref b6), .val (.ref b7), .val (.int (Int32.ofNat E12.length)), .val (.ref b9), .val (.int (1 : Int32)), .val (.ref o), .val (.double xd), .second, .unset, .unset] [(.long q3), (.long q1), (.int p0), (.long ((own_term p0 q1 q3 (1 : Int32) (0 : Int32)) + (own_term p0 q1 q3 (1 : Int32) (1 : Int32))))]))
    refine own_pre (fun _ kz_ => XS.iload X42.here hx rfl (hb hby at_324) rfl kz_) ?_
    show OwnGoes p e below _ (T42.setTop (mkF m 326 #[.val (.int p0), .val (.long q1), .second, .val (.long q3), .second, .val (.ref b5), .val (.ref b6), .val (.ref b7), .val (.int (Int32.ofNat E12.length)), .val (.ref b9), .val (.int (1 : Int32)), .val (.ref o), .val (.double xd), .second, .unset, .unset] [(.int (1 : Int32)), (.long q3), (.long q1), (.int p0), (.long ((own_term p0 q1 q3 (1 : Int32) (0 : Int32)) + (own_term p0 q1 q3 (1 : Int32) (1 : Int32))))]))
    refine own_pre (fun _ kz_ => XS.iconst X42.here hx rfl (hb hby at_326) kz_) ?_
    show OwnGoes p e below _ (T42.setTop (mkF m 327 #[.val (.int p0), .val (.long q1), .second, .val (.long q3), .second, .val (.ref b5), .val (.ref b6), .val (.ref b7), .val (.int (Int32.ofNat E12.length)), .val (.ref b9), .val (.int (1 : Int32)), .val (.ref o), .val (.double xd), .second, .unset, .unset] [(.int (2 : Int32)), (.int (1 : Int32)), (.long q3), (.long q1), (.int p0), (.long ((own_term p0 q1 q3 (1 : Int32) (0 : Int32)) + (own_term p0 q1 q3 (1 : Int32) (1 : Int32))))]))
    obtain ⟨_, _, ⟨T43, L43, k43, n43⟩, -, X43, ⟨Lc43, hQ43, l43, y43, z43⟩, st43⟩ := Jvm.LawKit.callS X42 hx (y := (⟨"com/example/dual_bounds/dualbounds/numerics/SparseMatrixRowTimesPinLaw", "term", "(IJJII)J"⟩ : MethodName)) hown (mvT hZ (hw _ (List.mem_of_getElem? (i := 31) rfl))) (mvT hZ (hw _ (List.mem_of_getElem? (i := 32) rfl))) (mvT hZ (hw _ (List.mem_of_getElem? (i := 4) rfl))) (mvT hZ (hw _ (List.mem_of_getElem? (i := 33) rfl))) (by decide) (backOf (W := 2) (rmT l Z a0 hw [] p0 q1 q3 (1 : Int32) (2 : Int32) T39.heap n0 Z39) hZ (hw _ (List.mem_of_getElem? (i := 33) rfl)) (hw _ (List.mem_of_getElem? (i := 4) rfl)) (by decide) (by decide)) (g := (mkF m 327 #[.val (.int p0), .val (.long q1), .second, .val (.long q3), .second, .val (.ref b5), .val (.ref b6), .val (.ref b7), .val (.int (Int32.ofNat E12.length)), .val (.ref b9), .val (.int (1 : Int32)), .val (.ref o), .val (.double xd), .second, .unset, .unset] [(.int (2 : Int32)), (.int (1 : Int32)), (.long q3), (.long q1), (.int p0), (.long ((own_term p0 q1 q3 (1 : Int32) (0 : Int32)) + (own_term p0 q1 q3 (1 : Int32) (1 : Int32))))])) rfl (by rw [hml]; rfl) (argsL := [(.int p0), (.long q1), (.long q3), (.int (1 : Int32)), (.int (2 : Int32))]) (rest := [(.long ((own_term p0 q1 q3 (1 : Int32) (0 : Int32)) + (own_term p0 q1 q3 (1 : Int32) (1 : Int32))))]) (lenOf (d := "(IJJII)J") (ps := [.int, .long, .long, .int, .int]) (r := some .long) (by decide +kernel) rfl) rfl (by show 2 * 0 + _ ≤ _; exact Nat.le_of_eq rfl) (hb hby at_327) (fun _ _ => ⟨rfl, e42, (by decide : 5 + 0 ≤ _), (by decide : 35 + 0 ≤ _)⟩)
    dsimp only [Pt.U, Pt.locs, Pt.cells, Pt.slots] at X43 l43 y43 z43 st43 hQ43
    subst y43 z43
    obtain ⟨rfl, N43q, e43⟩ := hQ43
    have N43 : Fr n0 L43 := by rw [l43]; exact Fr.app N42 N43q
    refine own_pre st43 ?_
    show OwnGoes p e below _ (T43.setTop (mkF m 330 #[.val (.int p0), .val (.long q1), .second, .val (.long q3), .second, .val (.ref b5), .val (.ref b6), .val (.ref b7), .val (.int (Int32.ofNat E12.length)), .val (.ref b9), .val (.int (1 : Int32)), .val (.ref o), .val (.double xd), .second, .unset, .unset] [(.long (own_term p0 q1 q3 (1 : Int32) (2 : Int32))), (.long ((own_term p0 q1 q3 (1 : Int32) (0 : Int32)) + (own_term p0 q1 q3 (1 : Int32) (1 : Int32))))]))
    refine own_pre (fun _ kz_ => XS.ladd X43.here hx rfl (hb hby at_330) rfl kz_) ?_
    show OwnGoes p e below _ (T43.setTop (mkF m 331 #[.val (.int p0), .val (.long q1), .second, .val (.long q3), .second, .val (.ref b5), .val (.ref b6), .val (.ref b7), .val (.int (Int32.ofNat E12.length)), .val (.ref b9), .val (.int (1 : Int32)), .val (.ref o), .val (.double xd), .second, .unset, .unset] [(.long (((own_term p0 q1 q3 (1 : Int32) (0 : Int32)) + (own_term p0 q1 q3 (1 : Int32) (1 : Int32))) + (own_term p0 q1 q3 (1 : Int32) (2 : Int32))))]))
    refine own_pre (fun _ kz_ => XS.iloadN X43.here hx rfl (hb hby at_331) rfl kz_) ?_
    show OwnGoes p e below _ (T43.setTop (mkF m 332 #[.val (.int p0), .val (.long q1), .second, .val (.long q3), .second, .val (.ref b5), .val (.ref b6), .val (.ref b7), .val (.int (Int32.ofNat E12.length)), .val (.ref b9), .val (.int (1 : Int32)), .val (.ref o), .val (.double xd), .second, .unset, .unset] [(.int p0), (.long (((own_term p0 q1 q3 (1 : Int32) (0 : Int32)) + (own_term p0 q1 q3 (1 : Int32) (1 : Int32))) + (own_term p0 q1 q3 (1 : Int32) (2 : Int32))))]))
    refine own_pre (fun _ kz_ => XS.lloadN X43.here hx rfl (hb hby at_332) rfl kz_) ?_
    show OwnGoes p e below _ (T43.setTop (mkF m 333 #[.val (.int p0), .val (.long q1), .second, .val (.long q3), .second, .val (.ref b5), .val (.ref b6), .val (.ref b7), .val (.int (Int32.ofNat E12.length)), .val (.ref b9), .val (.int (1 : Int32)), .val (.ref o), .val (.double xd), .second, .unset, .unset] [(.long q1), (.int p0), (.long (((own_term p0 q1 q3 (1 : Int32) (0 : Int32)) + (own_term p0 q1 q3 (1 : Int32) (1 : Int32))) + (own_term p0 q1 q3 (1 : Int32) (2 : Int32))))]))
    refine own_pre (fun _ kz_ => XS.lloadN X43.here hx rfl (hb hby at_333) rfl kz_) ?_
    show OwnGoes p e below _ (T43.setTop (mkF m 334 #[.val (.int p0), .val (.long q1), .second, .val (.long q3), .second, .val (.ref b5), .val (.ref b6), .val (.ref b7), .val (.int (Int32.ofNat E12.length)), .val (.ref b9), .val (.int (1 : Int32)), .val (.ref o), .val (.double xd), .second, .unset, .unset] [(.long q3), (.long q1), (.int p0), (.long (((own_term p0 q1 q3 (1 : Int32) (0 : Int32)) + (own_term p0 q1 q3 (1 : Int32) (1 : Int32))) + (own_term p0 q1 q3 (1 : Int32) (2 : Int32))))]))
    refine own_pre (fun _ kz_ => XS.iload X43.here hx rfl (hb hby at_334) rfl kz_) ?_
    show OwnGoes p e below _ (T43.setTop (mkF m 336 #[.val (.int p0), .val (.long q1), .second, .val (.long q3), .second, .val (.ref b5), .val (.ref b6), .val (.ref b7), .val (.int (Int32.ofNat E12.length)), .val (.ref b9), .val (.int (1 : Int32)), .val (.ref o), .val (.double xd), .second, .unset, .unset] [(.int (1 : Int32)), (.long q3), (.long q1), (.int p0), (.long (((own_term p0 q1 q3 (1 : Int32) (0 : Int32)) + (own_term p0 q1 q3 (1 : Int32) (1 : Int32))) + (own_term p0 q1 q3 (1 : Int32) (2 : Int32))))]))
    refine own_pre (fun _ kz_ => XS.iconst X43.here hx rfl (hb hby at_336) kz_) ?_
    show OwnGoes p e below _ (T43.setTop (mkF m 337 #[.val (.int p0), .val (.long q1), .second, .val (.long q3), .second, .val (.ref b5), .val (.ref b6), .val (.ref b7), .val (.int (Int32.ofNat E12.length)), .val (.ref b9), .val (.int (1 : Int32)), .val (.ref o), .val (.double xd), .second, .unset, .unset] [(.int (3 : Int32)), (.int (1 : Int32)), (.long q3), (.long q1), (.int p0), (.long (((own_term p0 q1 q3 (1 : Int32) (0 : Int32)) + (own_term p0 q1 q3 (1 : Int32) (1 : Int32))) + (own_term p0 q1 q3 (1 : Int32) (2 : Int32))))]))
    obtain ⟨_, _, ⟨T44, L44, k44, n44⟩, -, X44, ⟨Lc44, hQ44, l44, y44, z44⟩, st44⟩ := Jvm.LawKit.callS X43 hx (y := (⟨"com/example/dual_bounds/dualbounds/numerics/SparseMatrixRowTimesPinLaw", "term", "(IJJII)J"⟩ : MethodName)) hown (mvT hZ (hw _ (List.mem_of_getElem? (i := 31) rfl))) (mvT hZ (hw _ (List.mem_of_getElem? (i := 32) rfl))) (mvT hZ (hw _ (List.mem_of_getElem? (i := 4) rfl))) (mvT hZ (hw _ (List.mem_of_getElem? (i := 33) rfl))) (by decide) (backOf (W := 2) (rmT l Z a0 hw [] p0 q1 q3 (1 : Int32) (3 : Int32) T39.heap n0 Z39) hZ (hw _ (List.mem_of_getElem? (i := 33) rfl)) (hw _ (List.mem_of_getElem? (i := 4) rfl)) (by decide) (by decide)) (g := (mkF m 337 #[.val (.int p0), .val (.long q1), .second, .val (.long q3), .second, .val (.ref b5), .val (.ref b6), .val (.ref b7), .val (.int (Int32.ofNat E12.length)), .val (.ref b9), .val (.int (1 : Int32)), .val (.ref o), .val (.double xd), .second, .unset, .unset] [(.int (3 : Int32)), (.int (1 : Int32)), (.long q3), (.long q1), (.int p0), (.long (((own_term p0 q1 q3 (1 : Int32) (0 : Int32)) + (own_term p0 q1 q3 (1 : Int32) (1 : Int32))) + (own_term p0 q1 q3 (1 : Int32) (2 : Int32))))])) rfl (by rw [hml]; rfl) (argsL := [(.int p0), (.long q1), (.long q3), (.int (1 : Int32)), (.int (3 : Int32))]) (rest := [(.long (((own_term p0 q1 q3 (1 : Int32) (0 : Int32)) + (own_term p0 q1 q3 (1 : Int32) (1 : Int32))) + (own_term p0 q1 q3 (1 : Int32) (2 : Int32))))]) (lenOf (d := "(IJJII)J") (ps := [.int, .long, .long, .int, .int]) (r := some .long) (by decide +kernel) rfl) rfl (by show 2 * 0 + _ ≤ _; exact Nat.le_of_eq rfl) (hb hby at_337) (fun _ _ => ⟨rfl, e43, (by decide : 5 + 0 ≤ _), (by decide : 35 + 0 ≤ _)⟩)
    dsimp only [Pt.U, Pt.locs, Pt.cells, Pt.slots] at X44 l44 y44 z44 st44 hQ44
    subst y44 z44
    obtain ⟨rfl, N44q, e44⟩ := hQ44
    have N44 : Fr n0 L44 := by rw [l44]; exact Fr.app N43 N44q
    refine own_pre st44 ?_
    show OwnGoes p e below _ (T44.setTop (mkF m 340 #[.val (.int p0), .val (.long q1), .second, .val (.long q3), .second, .val (.ref b5), .val (.ref b6), .val (.ref b7), .val (.int (Int32.ofNat E12.length)), .val (.ref b9), .val (.int (1 : Int32)), .val (.ref o), .val (.double xd), .second, .unset, .unset] [(.long (own_term p0 q1 q3 (1 : Int32) (3 : Int32))), (.long (((own_term p0 q1 q3 (1 : Int32) (0 : Int32)) + (own_term p0 q1 q3 (1 : Int32) (1 : Int32))) + (own_term p0 q1 q3 (1 : Int32) (2 : Int32))))]))
    refine own_pre (fun _ kz_ => XS.ladd X44.here hx rfl (hb hby at_340) rfl kz_) ?_
    show OwnGoes p e below _ (T44.setTop (mkF m 341 #[.val (.int p0), .val (.long q1), .second, .val (.long q3), .second, .val (.ref b5), .val (.ref b6), .val (.ref b7), .val (.int (Int32.ofNat E12.length)), .val (.ref b9), .val (.int (1 : Int32)), .val (.ref o), .val (.double xd), .second, .unset, .unset] [(.long ((((own_term p0 q1 q3 (1 : Int32) (0 : Int32)) + (own_term p0 q1 q3 (1 : Int32) (1 : Int32))) + (own_term p0 q1 q3 (1 : Int32) (2 : Int32))) + (own_term p0 q1 q3 (1 : Int32) (3 : Int32))))]))
    refine own_pre (fun _ kz_ => XS.lstore X44.here hx rfl (hb hby at_341) rfl (l' := #[.val (.int p0), .val (.long q1), .second, .val (.long q3), .second, .val (.ref b5), .val (.ref b6), .val (.ref b7), .val (.int (Int32.ofNat E12.length)), .val (.ref b9), .val (.int (1 : Int32)), .val (.ref o), .val (.double xd), .second, .val (.long ((((own_term p0 q1 q3 (1 : Int32) (0 : Int32)) + (own_term p0 q1 q3 (1 : Int32) (1 : Int32))) + (own_term p0 q1 q3 (1 : Int32) (2 : Int32))) + (own_term p0 q1 q3 (1 : Int32) (3 : Int32)))), .second]) rfl kz_) ?_
    show OwnGoes p e below _ (T44.setTop (mkF m 343 #[.val (.int p0), .val (.long q1), .second, .val (.long q3), .second, .val (.ref b5), .val (.ref b6), .val (.ref b7), .val (.int (Int32.ofNat E12.length)), .val (.ref b9), .val (.int (1 : Int32)), .val (.ref o), .val (.double xd), .second, .val (.long ((((own_term p0 q1 q3 (1 : Int32) (0 : Int32)) + (own_term p0 q1 q3 (1 : Int32) (1 : Int32))) + (own_term p0 q1 q3 (1 : Int32) (2 : Int32))) + (own_term p0 q1 q3 (1 : Int32) (3 : Int32)))), .second] []))
    refine own_pre (fun _ kz_ => XS.dload X44.here hx rfl (hb hby at_343) rfl kz_) ?_
    show OwnGoes p e below _ (T44.setTop (mkF m 345 #[.val (.int p0), .val (.long q1), .second, .val (.long q3), .second, .val (.ref b5), .val (.ref b6), .val (.ref b7), .val (.int (Int32.ofNat E12.length)), .val (.ref b9), .val (.int (1 : Int32)), .val (.ref o), .val (.double xd), .second, .val (.long ((((own_term p0 q1 q3 (1 : Int32) (0 : Int32)) + (own_term p0 q1 q3 (1 : Int32) (1 : Int32))) + (own_term p0 q1 q3 (1 : Int32) (2 : Int32))) + (own_term p0 q1 q3 (1 : Int32) (3 : Int32)))), .second] [(.double xd)]))
    refine own_pre (fun _ kz_ => XS.lload X44.here hx rfl (hb hby at_345) rfl kz_) ?_
    show OwnGoes p e below _ (T44.setTop (mkF m 347 #[.val (.int p0), .val (.long q1), .second, .val (.long q3), .second, .val (.ref b5), .val (.ref b6), .val (.ref b7), .val (.int (Int32.ofNat E12.length)), .val (.ref b9), .val (.int (1 : Int32)), .val (.ref o), .val (.double xd), .second, .val (.long ((((own_term p0 q1 q3 (1 : Int32) (0 : Int32)) + (own_term p0 q1 q3 (1 : Int32) (1 : Int32))) + (own_term p0 q1 q3 (1 : Int32) (2 : Int32))) + (own_term p0 q1 q3 (1 : Int32) (3 : Int32)))), .second] [(.long ((((own_term p0 q1 q3 (1 : Int32) (0 : Int32)) + (own_term p0 q1 q3 (1 : Int32) (1 : Int32))) + (own_term p0 q1 q3 (1 : Int32) (2 : Int32))) + (own_term p0 q1 q3 (1 : Int32) (3 : Int32)))), (.double xd)]))
    refine own_pre (fun _ kz_ => XS.l2dS X44.here hx rfl (hb hby at_347) rfl rfl kz_) ?_
    show OwnGoes p e below _ (T44.setTop (mkF m 348 #[.val (.int p0), .val (.long q1), .second, .val (.long q3), .second, .val (.ref b5), .val (.ref b6), .val (.ref b7), .val (.int (Int32.ofNat E12.length)), .val (.ref b9), .val (.int (1 : Int32)), .val (.ref o), .val (.double xd), .second, .val (.long ((((own_term p0 q1 q3 (1 : Int32) (0 : Int32)) + (own_term p0 q1 q3 (1 : Int32) (1 : Int32))) + (own_term p0 q1 q3 (1 : Int32) (2 : Int32))) + (own_term p0 q1 q3 (1 : Int32) (3 : Int32)))), .second] [(.double (Jvm.FP.l2d ((((own_term p0 q1 q3 (1 : Int32) (0 : Int32)) + (own_term p0 q1 q3 (1 : Int32) (1 : Int32))) + (own_term p0 q1 q3 (1 : Int32) (2 : Int32))) + (own_term p0 q1 q3 (1 : Int32) (3 : Int32))))), (.double xd)]))
    refine own_pre (fun _ kz_ => XS.dcmpS X44.here hx rfl (hb hby at_348) rfl (v := (0 : Int32)) (own_fin hxd (by rw [r12, List.take_left' rfl, r8, List.drop_left' rfl])) kz_) ?_
    show OwnGoes p e below _ (T44.setTop (mkF m 349 #[.val (.int p0), .val (.long q1), .second, .val (.long q3), .second, .val (.ref b5), .val (.ref b6), .val (.ref b7), .val (.int (Int32.ofNat E12.length)), .val (.ref b9), .val (.int (1 : Int32)), .val (.ref o), .val (.double xd), .second, .val (.long ((((own_term p0 q1 q3 (1 : Int32) (0 : Int32)) + (own_term p0 q1 q3 (1 : Int32) (1 : Int32))) + (own_term p0 q1 q3 (1 : Int32) (2 : Int32))) + (own_term p0 q1 q3 (1 : Int32) (3 : Int32)))), .second] [(.int (0 : Int32))]))
    refine own_pre (fun _ kz_ => XS.ifNo X44.here hx rfl (hb hby at_349) rfl ((if0 _ _).trans (teq (by decide : (0 : Int32) = (0 : Int32))).2) kz_) ?_
    show OwnGoes p e below _ (T44.setTop (mkF m 352 #[.val (.int p0), .val (.long q1), .second, .val (.long q3), .second, .val (.ref b5), .val (.ref b6), .val (.ref b7), .val (.int (Int32.ofNat E12.length)), .val (.ref b9), .val (.int (1 : Int32)), .val (.ref o), .val (.double xd), .second, .val (.long ((((own_term p0 q1 q3 (1 : Int32) (0 : Int32)) + (own_term p0 q1 q3 (1 : Int32) (1 : Int32))) + (own_term p0 q1 q3 (1 : Int32) (2 : Int32))) + (own_term p0 q1 q3 (1 : Int32) (3 : Int32)))), .second] []))
    refine own_pre (fun _ kz_ => XS.iconst X44.here hx rfl (hb hby at_352) kz_) ?_
    show OwnGoes p e below _ (T44.setTop (mkF m 353 #[.val (.int p0), .val (.long q1), .second, .val (.long q3), .second, .val (.ref b5), .val (.ref b6), .val (.ref b7), .val (.int (Int32.ofNat E12.length)), .val (.ref b9), .val (.int (1 : Int32)), .val (.ref o), .val (.double xd), .second, .val (.long ((((own_term p0 q1 q3 (1 : Int32) (0 : Int32)) + (own_term p0 q1 q3 (1 : Int32) (1 : Int32))) + (own_term p0 q1 q3 (1 : Int32) (2 : Int32))) + (own_term p0 q1 q3 (1 : Int32) (3 : Int32)))), .second] [(.int (1 : Int32))]))
    refine own_pre (fun _ kz_ => XS.goto X44.here hx rfl (pc0 := 353) (pc' := 357) rfl (hb hby at_353) (by decide) (by decide) kz_) ?_
    show OwnGoes p e below _ (T44.setTop (mkF m 357 #[.val (.int p0), .val (.long q1), .second, .val (.long q3), .second, .val (.ref b5), .val (.ref b6), .val (.ref b7), .val (.int (Int32.ofNat E12.length)), .val (.ref b9), .val (.int (1 : Int32)), .val (.ref o), .val (.double xd), .second, .val (.long ((((own_term p0 q1 q3 (1 : Int32) (0 : Int32)) + (own_term p0 q1 q3 (1 : Int32) (1 : Int32))) + (own_term p0 q1 q3 (1 : Int32) (2 : Int32))) + (own_term p0 q1 q3 (1 : Int32) (3 : Int32)))), .second] [(.int (1 : Int32))]))
    exact own_ret X44 hx Bd.returns (rfl) (Or.inl ⟨rfl, by simp, _, rfl⟩) Bd.notSynchronized (hb hby at_357) ⟨rfl, N44⟩ (by decide) (by decide)
  · rw [hk]
    show OwnGoes p e below _ (T30.setTop (mkF m 274 #[.val (.int p0), .val (.long q1), .second, .val (.long q3), .second, .val (.ref b5), .val (.ref b6), .val (.ref b7), .val (.int (Int32.ofNat E12.length)), .val (.ref b9), .unset, .unset, .unset, .unset, .unset, .unset] [(.int (2 : Int32))]))
    refine own_pre (fun _ kz_ => XS.istore X30.here hx rfl (hb hby at_274) rfl (l' := #[.val (.int p0), .val (.long q1), .second, .val (.long q3), .second, .val (.ref b5), .val (.ref b6), .val (.ref b7), .val (.int (Int32.ofNat E12.length)), .val (.ref b9), .val (.int (2 : Int32)), .unset, .unset, .unset, .unset, .unset]) rfl kz_) ?_
    show OwnGoes p e below _ (T30.setTop (mkF m 276 #[.val (.int p0), .val (.long q1), .second, .val (.long q3), .second, .val (.ref b5), .val (.ref b6), .val (.ref b7), .val (.int (Int32.ofNat E12.length)), .val (.ref b9), .val (.int (2 : Int32)), .unset, .unset, .unset, .unset, .unset] []))
    obtain ⟨T45, h45, X45, e45, E45, A45, D45, -, st45⟩ := newO X30 hx hZ hown (hw _ (List.mem_of_getElem? (i := 11) rfl)) (hw _ (List.mem_of_getElem? (i := 12) rfl)) (hw _ (List.mem_of_getElem? (i := 13) rfl)) e30 (g := (mkF m 276 #[.val (.int p0), .val (.long q1), .second, .val (.long q3), .second, .val (.ref b5), .val (.ref b6), .val (.ref b7), .val (.int (Int32.ofNat E12.length)), .val (.ref b9), .val (.int (2 : Int32)), .unset, .unset, .unset, .unset, .unset] [])) rfl (hb hby at_276) (by decide) (by decide)
    obtain ⟨o, g45⟩ : ∃ z, z = h30.size := ⟨_, rfl⟩
    rw [← g45] at A45 D45 st45
    have g_o : n0 ≤ o := Nat.le_trans Z30 (Nat.le_of_eq g45.symm)
    have sz_o : h0.size ≤ o := Nat.le_trans (K30).1 (Nat.le_of_eq g45.symm)
    have ne_b6_o : b6 ≠ o := Nat.ne_of_lt (Nat.lt_of_lt_of_le f30_2.lt (Nat.le_of_eq g45.symm))
    have ne_b5_o : b5 ≠ o := Nat.ne_of_lt (Nat.lt_of_lt_of_le f30_3.lt (Nat.le_of_eq g45.symm))
    have ne_b7_o : b7 ≠ o := Nat.ne_of_lt (Nat.lt_of_lt_of_le f30_4.lt (Nat.le_of_eq g45.symm))
    have ne_b9_o : b9 ≠ o := Nat.ne_of_lt (Nat.lt_of_lt_of_le V9v.lt (Nat.le_of_eq g45.symm))
    have f45_4 := f30_4.ext E45
    have f45_3 := f30_3.ext E45
    have f45_2 := f30_2.ext E45
    have f45_1 := V9v.ext E45
    have K45 := (K30).ext E45
    have Z45 := Nat.le_trans Z30 E45.1
    have F45_rowStart : Fld Z h45 o "com/example/dual_bounds/dualbounds/numerics/SparseMatrix" "rowStart" "[I" .null := D45 (Or.inr (hw _ (List.mem_of_getElem? (i := 21) rfl))) (ty := (.array .int)) (by decide)
    have F45_columns : Fld Z h45 o "com/example/dual_bounds/dualbounds/numerics/SparseMatrix" "columns" "[I" .null := D45 (Or.inr (hw _ (List.mem_of_getElem? (i := 23) rfl))) (ty := (.array .int)) (by decide)
    have F45_values : Fld Z h45 o "com/example/dual_bounds/dualbounds/numerics/SparseMatrix" "values" "[D" .null := D45 (Or.inr (hw _ (List.mem_of_getElem? (i := 25) rfl))) (ty := (.array .double)) (by decide)
    refine own_pre st45 ?_
    show OwnGoes p e below _ (T45.setTop (mkF m 279 #[.val (.int p0), .val (.long q1), .second, .val (.long q3), .second, .val (.ref b5), .val (.ref b6), .val (.ref b7), .val (.int (Int32.ofNat E12.length)), .val (.ref b9), .val (.int (2 : Int32)), .unset, .unset, .unset, .unset, .unset] [(.ref o)]))
    refine own_pre (fun _ kz_ => XS.dup X45.here hx rfl (hb hby at_279) rfl rfl kz_) ?_
    show OwnGoes p e below _ (T45.setTop (mkF m 280 #[.val (.int p0), .val (.long q1), .second, .val (.long q3), .second, .val (.ref b5), .val (.ref b6), .val (.ref b7), .val (.int (Int32.ofNat E12.length)), .val (.ref b9), .val (.int (2 : Int32)), .unset, .unset, .unset, .unset, .unset] [(.ref o), (.ref o)]))
    refine own_pre (fun _ kz_ => XS.aload X45.here hx rfl (hb hby at_280) rfl rfl kz_) ?_
    show OwnGoes p e below _ (T45.setTop (mkF m 282 #[.val (.int p0), .val (.long q1), .second, .val (.long q3), .second, .val (.ref b5), .val (.ref b6), .val (.ref b7), .val (.int (Int32.ofNat E12.length)), .val (.ref b9), .val (.int (2 : Int32)), .unset, .unset, .unset, .unset, .unset] [(.ref b7), (.ref o), (.ref o)]))
    refine own_pre (fun _ kz_ => XS.aload X45.here hx rfl (hb hby at_282) rfl rfl kz_) ?_
    show OwnGoes p e below _ (T45.setTop (mkF m 284 #[.val (.int p0), .val (.long q1), .second, .val (.long q3), .second, .val (.ref b5), .val (.ref b6), .val (.ref b7), .val (.int (Int32.ofNat E12.length)), .val (.ref b9), .val (.int (2 : Int32)), .unset, .unset, .unset, .unset, .unset] [(.ref b5), (.ref b7), (.ref o), (.ref o)]))
    refine own_pre (fun _ kz_ => XS.aload X45.here hx rfl (hb hby at_284) rfl rfl kz_) ?_
    show OwnGoes p e below _ (T45.setTop (mkF m 286 #[.val (.int p0), .val (.long q1), .second, .val (.long q3), .second, .val (.ref b5), .val (.ref b6), .val (.ref b7), .val (.int (Int32.ofNat E12.length)), .val (.ref b9), .val (.int (2 : Int32)), .unset, .unset, .unset, .unset, .unset] [(.ref b6), (.ref b5), (.ref b7), (.ref o), (.ref o)]))
    obtain ⟨_, _, ⟨T46, L46, k46, n46⟩, -, X46, ⟨Lc46, hQ46, l46, y46, z46⟩, st46⟩ := X45.specialBack hx (y := (⟨"com/example/dual_bounds/dualbounds/numerics/SparseMatrix", "<init>", "([I[I[D)V"⟩ : MethodName)) rfl hown (mvT hZ (hw _ (List.mem_of_getElem? (i := 14) rfl))) (mvT hZ (hw _ (List.mem_of_getElem? (i := 15) rfl))) (mvT hZ (hw _ (List.mem_of_getElem? (i := 16) rfl))) (by decide) (backOf (W := 1) (rmI l Z a0 hw [] o b7 b5 b6 h45 n0 Z45 A45 F45_rowStart F45_columns F45_values g_o) hZ (hw _ (List.mem_of_getElem? (i := 16) rfl)) (hw _ (List.mem_of_getElem? (i := 13) rfl)) (by decide) (by decide)) (g := (mkF m 286 #[.val (.int p0), .val (.long q1), .second, .val (.long q3), .second, .val (.ref b5), .val (.ref b6), .val (.ref b7), .val (.int (Int32.ofNat E12.length)), .val (.ref b9), .val (.int (2 : Int32)), .unset, .unset, .unset, .unset, .unset] [(.ref b6), (.ref b5), (.ref b7), (.ref o), (.ref o)])) rfl (by rw [hml]; rfl) (Steps.refl _) (a := o) (argsL := [(.ref b7), (.ref b5), (.ref b6)]) (rest := [(.ref o)]) (lenOf (d := "([I[I[D)V") (ps := [(.array .int), (.array .int), (.array .double)]) (r := none) (by decide +kernel) rfl) rfl (by show 2 * 0 + _ ≤ _; exact Nat.le_of_eq rfl) (hb hby at_286) (fun _ _ => ⟨rfl, e45, (by decide : 5 + 0 ≤ _), (by decide : 35 + 0 ≤ _)⟩)
    dsimp only [Pt.U, Pt.locs, Pt.cells, Pt.slots] at X46 l46 y46 z46 st46 hQ46
    subst y46 z46
    obtain ⟨rfl, N46q, K46q, E46q, F0_46q, F1_46q, F2_46q⟩ := hQ46
    have N46 : Fr n0 L46 := by rw [l46]; exact Fr.app N30 N46q
    refine own_tr st46 ?_
    have f46_8 := f45_4.keep K46q (fun q => ne_b7_o (List.mem_singleton.mp q))
    have f46_7 := f45_3.keep K46q (fun q => ne_b5_o (List.mem_singleton.mp q))
    have f46_6 := f45_2.keep K46q (fun q => ne_b6_o (List.mem_singleton.mp q))
    have f46_5 := f45_1.keep K46q (fun q => ne_b9_o (List.mem_singleton.mp q))
    have f46_4 := A45.keep K46q
    have Z46 := Nat.le_trans Z45 K46q.1
    have KK46 := (K45).trans K46q (fun x hx => by simp only [List.mem_cons, List.not_mem_nil, or_false] at hx; rcases hx with rfl <;> first | exact Or.inl (List.mem_of_getElem? (i := 0) rfl) | exact Or.inl (List.mem_of_getElem? (i := 1) rfl) | exact Or.inr sz_o )
    show OwnGoes p e below _ (T46.setTop (mkF m 289 #[.val (.int p0), .val (.long q1), .second, .val (.long q3), .second, .val (.ref b5), .val (.ref b6), .val (.ref b7), .val (.int (Int32.ofNat E12.length)), .val (.ref b9), .val (.int (2 : Int32)), .unset, .unset, .unset, .unset, .unset] [(.ref o)]))
    refine own_pre (fun _ kz_ => XS.astore X46.here hx rfl (hb hby at_289) rfl rfl (l' := #[.val (.int p0), .val (.long q1), .second, .val (.long q3), .second, .val (.ref b5), .val (.ref b6), .val (.ref b7), .val (.int (Int32.ofNat E12.length)), .val (.ref b9), .val (.int (2 : Int32)), .val (.ref o), .unset, .unset, .unset, .unset]) rfl kz_) ?_
    show OwnGoes p e below _ (T46.setTop (mkF m 291 #[.val (.int p0), .val (.long q1), .second, .val (.long q3), .second, .val (.ref b5), .val (.ref b6), .val (.ref b7), .val (.int (Int32.ofNat E12.length)), .val (.ref b9), .val (.int (2 : Int32)), .val (.ref o), .unset, .unset, .unset, .unset] []))
    refine own_pre (fun _ kz_ => XS.aload X46.here hx rfl (hb hby at_291) rfl rfl kz_) ?_
    show OwnGoes p e below _ (T46.setTop (mkF m 293 #[.val (.int p0), .val (.long q1), .second, .val (.long q3), .second, .val (.ref b5), .val (.ref b6), .val (.ref b7), .val (.int (Int32.ofNat E12.length)), .val (.ref b9), .val (.int (2 : Int32)), .val (.ref o), .unset, .unset, .unset, .unset] [(.ref o)]))
    refine own_pre (fun _ kz_ => XS.iload X46.here hx rfl (hb hby at_293) rfl kz_) ?_
    show OwnGoes p e below _ (T46.setTop (mkF m 295 #[.val (.int p0), .val (.long q1), .second, .val (.long q3), .second, .val (.ref b5), .val (.ref b6), .val (.ref b7), .val (.int (Int32.ofNat E12.length)), .val (.ref b9), .val (.int (2 : Int32)), .val (.ref o), .unset, .unset, .unset, .unset] [(.int (2 : Int32)), (.ref o)]))
    refine own_pre (fun _ kz_ => XS.aload X46.here hx rfl (hb hby at_295) rfl rfl kz_) ?_
    show OwnGoes p e below _ (T46.setTop (mkF m 297 #[.val (.int p0), .val (.long q1), .second, .val (.long q3), .second, .val (.ref b5), .val (.ref b6), .val (.ref b7), .val (.int (Int32.ofNat E12.length)), .val (.ref b9), .val (.int (2 : Int32)), .val (.ref o), .unset, .unset, .unset, .unset] [(.ref b9), (.int (2 : Int32)), (.ref o)]))
    obtain ⟨cq47, kq47, q47a, q47b, q47c⟩ := isOf hZ rfl E46q
    obtain ⟨_, _, ⟨T47, L47, k47, n47⟩, -, X47, ⟨Lc47, hQ47, l47, y47, z47⟩, st47⟩ := X46.virtualBack hx (y := (⟨"com/example/dual_bounds/dualbounds/numerics/SparseMatrix", "rowTimes", "(I[D)D"⟩ : MethodName)) (z := (⟨"com/example/dual_bounds/dualbounds/numerics/SparseMatrix", "rowTimes", "(I[D)D"⟩ : MethodName)) hown (mvT hZ (hw _ (List.mem_of_getElem? (i := 26) rfl))) (mvT hZ (hw _ (List.mem_of_getElem? (i := 27) rfl))) (notFace_of_selects (args := #[]) (mvT hZ (hw _ (List.mem_of_getElem? (i := 29) rfl)))) (mvT hZ (hw _ (List.mem_of_getElem? (i := 29) rfl))) (mvT hZ (hw _ (List.mem_of_getElem? (i := 28) rfl))) (by decide) (backOf (W := 0) (rmR l Z a0 hw [] o b7 b5 b6 b9 (2 : Int32) [(.int (0 : Int32)), (.int (Int32.ofNat E4.length)), (.int (Int32.ofNat E8.length)), (.int (Int32.ofNat E12.length))] E12 q3 (E8.length) (E12.length) T46.heap n0 Z46 F0_46q F1_46q F2_46q f46_8 f46_7 f46_6 f46_5 ok12 l12 (by omega) (by decide) (by decide) rfl rfl (by omega)) hZ (hw _ (List.mem_of_getElem? (i := 30) rfl)) (hw _ (List.mem_of_getElem? (i := 13) rfl)) (by decide) (by decide)) q47a q47c (g := (mkF m 297 #[.val (.int p0), .val (.long q1), .second, .val (.long q3), .second, .val (.ref b5), .val (.ref b6), .val (.ref b7), .val (.int (Int32.ofNat E12.length)), .val (.ref b9), .val (.int (2 : Int32)), .val (.ref o), .unset, .unset, .unset, .unset] [(.ref b9), (.int (2 : Int32)), (.ref o)])) rfl (by rw [hml]; rfl) (Steps.refl _) (argsL := [(.int (2 : Int32)), (.ref b9)]) (rest := []) (lenOf (d := "(I[D)D") (ps := [.int, (.array .double)]) (r := some .double) (by decide +kernel) rfl) rfl (by show 2 * 0 + _ ≤ _; exact Nat.le_of_eq rfl) (hb hby at_297) (fun _ _ => ⟨rfl, rfl, (by decide : 5 + 0 ≤ _), (by decide : 35 + 0 ≤ _)⟩)
    dsimp only [Pt.U, Pt.locs, Pt.cells, Pt.slots] at X47 l47 y47 z47 st47 hQ47
    subst y47 z47
    obtain ⟨xd, rfl, N47q, e47, hxd⟩ := hQ47
    have N47 : Fr n0 L47 := by rw [l47]; exact Fr.app N46 N47q
    refine own_tr st47 ?_
    show OwnGoes p e below _ (T47.setTop (mkF m 300 #[.val (.int p0), .val (.long q1), .second, .val (.long q3), .second, .val (.ref b5), .val (.ref b6), .val (.ref b7), .val (.int (Int32.ofNat E12.length)), .val (.ref b9), .val (.int (2 : Int32)), .val (.ref o), .unset, .unset, .unset, .unset] [(.double xd)]))
    refine own_pre (fun _ kz_ => XS.dstore X47.here hx rfl (hb hby at_300) rfl (l' := #[.val (.int p0), .val (.long q1), .second, .val (.long q3), .second, .val (.ref b5), .val (.ref b6), .val (.ref b7), .val (.int (Int32.ofNat E12.length)), .val (.ref b9), .val (.int (2 : Int32)), .val (.ref o), .val (.double xd), .second, .unset, .unset]) rfl kz_) ?_
    show OwnGoes p e below _ (T47.setTop (mkF m 302 #[.val (.int p0), .val (.long q1), .second, .val (.long q3), .second, .val (.ref b5), .val (.ref b6), .val (.ref b7), .val (.int (Int32.ofNat E12.length)), .val (.ref b9), .val (.int (2 : Int32)), .val (.ref o), .val (.double xd), .second, .unset, .unset] []))
    refine own_pre (fun _ kz_ => XS.iloadN X47.here hx rfl (hb hby at_302) rfl kz_) ?_
    show OwnGoes p e below _ (T47.setTop (mkF m 303 #[.val (.int p0), .val (.long q1), .second, .val (.long q3), .second, .val (.ref b5), .val (.ref b6), .val (.ref b7), .val (.int (Int32.ofNat E12.length)), .val (.ref b9), .val (.int (2 : Int32)), .val (.ref o), .val (.double xd), .second, .unset, .unset] [(.int p0)]))
    refine own_pre (fun _ kz_ => XS.lloadN X47.here hx rfl (hb hby at_303) rfl kz_) ?_
    show OwnGoes p e below _ (T47.setTop (mkF m 304 #[.val (.int p0), .val (.long q1), .second, .val (.long q3), .second, .val (.ref b5), .val (.ref b6), .val (.ref b7), .val (.int (Int32.ofNat E12.length)), .val (.ref b9), .val (.int (2 : Int32)), .val (.ref o), .val (.double xd), .second, .unset, .unset] [(.long q1), (.int p0)]))
    refine own_pre (fun _ kz_ => XS.lloadN X47.here hx rfl (hb hby at_304) rfl kz_) ?_
    show OwnGoes p e below _ (T47.setTop (mkF m 305 #[.val (.int p0), .val (.long q1), .second, .val (.long q3), .second, .val (.ref b5), .val (.ref b6), .val (.ref b7), .val (.int (Int32.ofNat E12.length)), .val (.ref b9), .val (.int (2 : Int32)), .val (.ref o), .val (.double xd), .second, .unset, .unset] [(.long q3), (.long q1), (.int p0)]))
    refine own_pre (fun _ kz_ => XS.iload X47.here hx rfl (hb hby at_305) rfl kz_) ?_
    show OwnGoes p e below _ (T47.setTop (mkF m 307 #[.val (.int p0), .val (.long q1), .second, .val (.long q3), .second, .val (.ref b5), .val (.ref b6), .val (.ref b7), .val (.int (Int32.ofNat E12.length)), .val (.ref b9), .val (.int (2 : Int32)), .val (.ref o), .val (.double xd), .second, .unset, .unset] [(.int (2 : Int32)), (.long q3), (.long q1), (.int p0)]))
    refine own_pre (fun _ kz_ => XS.iconst X47.here hx rfl (hb hby at_307) kz_) ?_
    show OwnGoes p e below _ (T47.setTop (mkF m 308 #[.val (.int p0), .val (.long q1), .second, .val (.long q3), .second, .val (.ref b5), .val (.ref b6), .val (.ref b7), .val (.int (Int32.ofNat E12.length)), .val (.ref b9), .val (.int (2 : Int32)), .val (.ref o), .val (.double xd), .second, .unset, .unset] [(.int (0 : Int32)), (.int (2 : Int32)), (.long q3), (.long q1), (.int p0)]))
    obtain ⟨_, _, ⟨T48, L48, k48, n48⟩, -, X48, ⟨Lc48, hQ48, l48, y48, z48⟩, st48⟩ := Jvm.LawKit.callS X47 hx (y := (⟨"com/example/dual_bounds/dualbounds/numerics/SparseMatrixRowTimesPinLaw", "term", "(IJJII)J"⟩ : MethodName)) hown (mvT hZ (hw _ (List.mem_of_getElem? (i := 31) rfl))) (mvT hZ (hw _ (List.mem_of_getElem? (i := 32) rfl))) (mvT hZ (hw _ (List.mem_of_getElem? (i := 4) rfl))) (mvT hZ (hw _ (List.mem_of_getElem? (i := 33) rfl))) (by decide) (backOf (W := 0) (rmT l Z a0 hw [] p0 q1 q3 (2 : Int32) (0 : Int32) T46.heap n0 Z46) hZ (hw _ (List.mem_of_getElem? (i := 33) rfl)) (hw _ (List.mem_of_getElem? (i := 4) rfl)) (by decide) (by decide)) (g := (mkF m 308 #[.val (.int p0), .val (.long q1), .second, .val (.long q3), .second, .val (.ref b5), .val (.ref b6), .val (.ref b7), .val (.int (Int32.ofNat E12.length)), .val (.ref b9), .val (.int (2 : Int32)), .val (.ref o), .val (.double xd), .second, .unset, .unset] [(.int (0 : Int32)), (.int (2 : Int32)), (.long q3), (.long q1), (.int p0)])) rfl (by rw [hml]; rfl) (argsL := [(.int p0), (.long q1), (.long q3), (.int (2 : Int32)), (.int (0 : Int32))]) (rest := []) (lenOf (d := "(IJJII)J") (ps := [.int, .long, .long, .int, .int]) (r := some .long) (by decide +kernel) rfl) rfl (by show 2 * 0 + _ ≤ _; exact Nat.le_of_eq rfl) (hb hby at_308) (fun _ _ => ⟨rfl, e47, (by decide : 5 + 0 ≤ _), (by decide : 35 + 0 ≤ _)⟩)
    dsimp only [Pt.U, Pt.locs, Pt.cells, Pt.slots] at X48 l48 y48 z48 st48 hQ48
    subst y48 z48
    obtain ⟨rfl, N48q, e48⟩ := hQ48
    have N48 : Fr n0 L48 := by rw [l48]; exact Fr.app N47 N48q
    refine own_pre st48 ?_
    show OwnGoes p e below _ (T48.setTop (mkF m 311 #[.val (.int p0), .val (.long q1), .second, .val (.long q3), .second, .val (.ref b5), .val (.ref b6), .val (.ref b7), .val (.int (Int32.ofNat E12.length)), .val (.ref b9), .val (.int (2 : Int32)), .val (.ref o), .val (.double xd), .second, .unset, .unset] [(.long (own_term p0 q1 q3 (2 : Int32) (0 : Int32)))]))
    refine own_pre (fun _ kz_ => XS.iloadN X48.here hx rfl (hb hby at_311) rfl kz_) ?_
    show OwnGoes p e below _ (T48.setTop (mkF m 312 #[.val (.int p0), .val (.long q1), .second, .val (.long q3), .second, .val (.ref b5), .val (.ref b6), .val (.ref b7), .val (.int (Int32.ofNat E12.length)), .val (.ref b9), .val (.int (2 : Int32)), .val (.ref o), .val (.double xd), .second, .unset, .unset] [(.int p0), (.long (own_term p0 q1 q3 (2 : Int32) (0 : Int32)))]))
    refine own_pre (fun _ kz_ => XS.lloadN X48.here hx rfl (hb hby at_312) rfl kz_) ?_
    show OwnGoes p e below _ (T48.setTop (mkF m 313 #[.val (.int p0), .val (.long q1), .second, .val (.long q3), .second, .val (.ref b5), .val (.ref b6), .val (.ref b7), .val (.int (Int32.ofNat E12.length)), .val (.ref b9), .val (.int (2 : Int32)), .val (.ref o), .val (.double xd), .second, .unset, .unset] [(.long q1), (.int p0), (.long (own_term p0 q1 q3 (2 : Int32) (0 : Int32)))]))
    refine own_pre (fun _ kz_ => XS.lloadN X48.here hx rfl (hb hby at_313) rfl kz_) ?_
    show OwnGoes p e below _ (T48.setTop (mkF m 314 #[.val (.int p0), .val (.long q1), .second, .val (.long q3), .second, .val (.ref b5), .val (.ref b6), .val (.ref b7), .val (.int (Int32.ofNat E12.length)), .val (.ref b9), .val (.int (2 : Int32)), .val (.ref o), .val (.double xd), .second, .unset, .unset] [(.long q3), (.long q1), (.int p0), (.long (own_term p0 q1 q3 (2 : Int32) (0 : Int32)))]))
    refine own_pre (fun _ kz_ => XS.iload X48.here hx rfl (hb hby at_314) rfl kz_) ?_
    show OwnGoes p e below _ (T48.setTop (mkF m 316 #[.val (.int p0), .val (.long q1), .second, .val (.long q3), .second, .val (.ref b5), .val (.ref b6), .val (.ref b7), .val (.int (Int32.ofNat E12.length)), .val (.ref b9), .val (.int (2 : Int32)), .val (.ref o), .val (.double xd), .second, .unset, .unset] [(.int (2 : Int32)), (.long q3), (.long q1), (.int p0), (.long (own_term p0 q1 q3 (2 : Int32) (0 : Int32)))]))
    refine own_pre (fun _ kz_ => XS.iconst X48.here hx rfl (hb hby at_316) kz_) ?_
    show OwnGoes p e below _ (T48.setTop (mkF m 317 #[.val (.int p0), .val (.long q1), .second, .val (.long q3), .second, .val (.ref b5), .val (.ref b6), .val (.ref b7), .val (.int (Int32.ofNat E12.length)), .val (.ref b9), .val (.int (2 : Int32)), .val (.ref o), .val (.double xd), .second, .unset, .unset] [(.int (1 : Int32)), (.int (2 : Int32)), (.long q3), (.long q1), (.int p0), (.long (own_term p0 q1 q3 (2 : Int32) (0 : Int32)))]))
    obtain ⟨_, _, ⟨T49, L49, k49, n49⟩, -, X49, ⟨Lc49, hQ49, l49, y49, z49⟩, st49⟩ := Jvm.LawKit.callS X48 hx (y := (⟨"com/example/dual_bounds/dualbounds/numerics/SparseMatrixRowTimesPinLaw", "term", "(IJJII)J"⟩ : MethodName)) hown (mvT hZ (hw _ (List.mem_of_getElem? (i := 31) rfl))) (mvT hZ (hw _ (List.mem_of_getElem? (i := 32) rfl))) (mvT hZ (hw _ (List.mem_of_getElem? (i := 4) rfl))) (mvT hZ (hw _ (List.mem_of_getElem? (i := 33) rfl))) (by decide) (backOf (W := 2) (rmT l Z a0 hw [] p0 q1 q3 (2 : Int32) (1 : Int32) T46.heap n0 Z46) hZ (hw _ (List.mem_of_getElem? (i := 33) rfl)) (hw _ (List.mem_of_getElem? (i := 4) rfl)) (by decide) (by decide)) (g := (mkF m 317 #[.val (.int p0), .val (.long q1), .second, .val (.long q3), .second, .val (.ref b5), .val (.ref b6), .val (.ref b7), .val (.int (Int32.ofNat E12.length)), .val (.ref b9), .val (.int (2 : Int32)), .val (.ref o), .val (.double xd), .second, .unset, .unset] [(.int (1 : Int32)), (.int (2 : Int32)), (.long q3), (.long q1), (.int p0), (.long (own_term p0 q1 q3 (2 : Int32) (0 : Int32)))])) rfl (by rw [hml]; rfl) (argsL := [(.int p0), (.long q1), (.long q3), (.int (2 : Int32)), (.int (1 : Int32))]) (rest := [(.long (own_term p0 q1 q3 (2 : Int32) (0 : Int32)))]) (lenOf (d := "(IJJII)J") (ps := [.int, .long, .long, .int, .int]) (r := some .long) (by decide +kernel) rfl) rfl (by show 2 * 0 + _ ≤ _; exact Nat.le_of_eq rfl) (hb hby at_317) (fun _ _ => ⟨rfl, e48, (by decide : 5 + 0 ≤ _), (by decide : 35 + 0 ≤ _)⟩)
    dsimp only [Pt.U, Pt.locs, Pt.cells, Pt.slots] at X49 l49 y49 z49 st49 hQ49
    subst y49 z49
    obtain ⟨rfl, N49q, e49⟩ := hQ49
    have N49 : Fr n0 L49 := by rw [l49]; exact Fr.app N48 N49q
    refine own_pre st49 ?_
    show OwnGoes p e below _ (T49.setTop (mkF m 320 #[.val (.int p0), .val (.long q1), .second, .val (.long q3), .second, .val (.ref b5), .val (.ref b6), .val (.ref b7), .val (.int (Int32.ofNat E12.length)), .val (.ref b9), .val (.int (2 : Int32)), .val (.ref o), .val (.double xd), .second, .unset, .unset] [(.long (own_term p0 q1 q3 (2 : Int32) (1 : Int32))), (.long (own_term p0 q1 q3 (2 : Int32) (0 : Int32)))]))
    refine own_pre (fun _ kz_ => XS.ladd X49.here hx rfl (hb hby at_320) rfl kz_) ?_
    show OwnGoes p e below _ (T49.setTop (mkF m 321 #[.val (.int p0), .val (.long q1), .second, .val (.long q3), .second, .val (.ref b5), .val (.ref b6), .val (.ref b7), .val (.int (Int32.ofNat E12.length)), .val (.ref b9), .val (.int (2 : Int32)), .val (.ref o), .val (.double xd), .second, .unset, .unset] [(.long ((own_term p0 q1 q3 (2 : Int32) (0 : Int32)) + (own_term p0 q1 q3 (2 : Int32) (1 : Int32))))]))
    refine own_pre (fun _ kz_ => XS.iloadN X49.here hx rfl (hb hby at_321) rfl kz_) ?_
    show OwnGoes p e below _ (T49.setTop (mkF m 322 #[.val (.int p0), .val (.long q1), .second, .val (.long q3), .second, .val (.ref b5), .val (.ref b6), .val (.ref b7), .val (.int (Int32.ofNat E12.length)), .val (.ref b9), .val (.int (2 : Int32)), .val (.ref o), .val (.double xd), .second, .unset, .unset] [(.int p0), (.long ((own_term p0 q1 q3 (2 : Int32) (0 : Int32)) + (own_term p0 q1 q3 (2 : Int32) (1 : Int32))))]))
    refine own_pre (fun _ kz_ => XS.lloadN X49.here hx rfl (hb hby at_322) rfl kz_) ?_
    show OwnGoes p e below _ (T49.setTop (mkF m 323 #[.val (.int p0), .val (.long q1), .second, .val (.long q3), .second, .val (.ref b5), .val (.ref b6), .val (.ref b7), .val (.int (Int32.ofNat E12.length)), .val (.ref b9), .val (.int (2 : Int32)), .val (.ref o), .val (.double xd), .second, .unset, .unset] [(.long q1), (.int p0), (.long ((own_term p0 q1 q3 (2 : Int32) (0 : Int32)) + (own_term p0 q1 q3 (2 : Int32) (1 : Int32))))]))
    refine own_pre (fun _ kz_ => XS.lloadN X49.here hx rfl (hb hby at_323) rfl kz_) ?_
    show OwnGoes p e below _ (T49.setTop (mkF m 324 #[.val (.int p0), .val (.long q1), .second, .val (.long q3), .second, .val (.ref b5), .val (.ref b6), .val (.ref b7), .val (.int (Int32.ofNat E12.length)), .val (.ref b9), .val (.int (2 : Int32)), .val (.ref o), .val (.double xd), .second, .unset, .unset] [(.long q3), (.long q1), (.int p0), (.long ((own_term p0 q1 q3 (2 : Int32) (0 : Int32)) + (own_term p0 q1 q3 (2 : Int32) (1 : Int32))))]))
    refine own_pre (fun _ kz_ => XS.iload X49.here hx rfl (hb hby at_324) rfl kz_) ?_
    show OwnGoes p e below _ (T49.setTop (mkF m 326 #[.val (.int p0), .val (.long q1), .second, .val (.long q3), .second, .val (.ref b5), .val (.ref b6), .val (.ref b7), .val (.int (Int32.ofNat E12.length)), .val (.ref b9), .val (.int (2 : Int32)), .val (.ref o), .val (.double xd), .second, .unset, .unset] [(.int (2 : Int32)), (.long q3), (.long q1), (.int p0), (.long ((own_term p0 q1 q3 (2 : Int32) (0 : Int32)) + (own_term p0 q1 q3 (2 : Int32) (1 : Int32))))]))
    refine own_pre (fun _ kz_ => XS.iconst X49.here hx rfl (hb hby at_326) kz_) ?_
    show OwnGoes p e below _ (T49.setTop (mkF m 327 #[.val (.int p0), .val (.long q1), .second, .val (.long q3), .second, .val (.ref b5), .val (.ref b6), .val (.ref b7), .val (.int (Int32.ofNat E12.length)), .val (.ref b9), .val (.int (2 : Int32)), .val (.ref o), .val (.double xd), .second, .unset, .unset] [(.int (2 : Int32)), (.int (2 : Int32)), (.long q3), (.long q1), (.int p0), (.long ((own_term p0 q1 q3 (2 : Int32) (0 : Int32)) + (own_term p0 q1 q3 (2 : Int32) (1 : Int32))))]))
    obtain ⟨_, _, ⟨T50, L50, k50, n50⟩, -, X50, ⟨Lc50, hQ50, l50, y50, z50⟩, st50⟩ := Jvm.LawKit.callS X49 hx (y := (⟨"com/example/dual_bounds/dualbounds/numerics/SparseMatrixRowTimesPinLaw", "term", "(IJJII)J"⟩ : MethodName)) hown (mvT hZ (hw _ (List.mem_of_getElem? (i := 31) rfl))) (mvT hZ (hw _ (List.mem_of_getElem? (i := 32) rfl))) (mvT hZ (hw _ (List.mem_of_getElem? (i := 4) rfl))) (mvT hZ (hw _ (List.mem_of_getElem? (i := 33) rfl))) (by decide) (backOf (W := 2) (rmT l Z a0 hw [] p0 q1 q3 (2 : Int32) (2 : Int32) T46.heap n0 Z46) hZ (hw _ (List.mem_of_getElem? (i := 33) rfl)) (hw _ (List.mem_of_getElem? (i := 4) rfl)) (by decide) (by decide)) (g := (mkF m 327 #[.val (.int p0), .val (.long q1), .second, .val (.long q3), .second, .val (.ref b5), .val (.ref b6), .val (.ref b7), .val (.int (Int32.ofNat E12.length)), .val (.ref b9), .val (.int (2 : Int32)), .val (.ref o), .val (.double xd), .second, .unset, .unset] [(.int (2 : Int32)), (.int (2 : Int32)), (.long q3), (.long q1), (.int p0), (.long ((own_term p0 q1 q3 (2 : Int32) (0 : Int32)) + (own_term p0 q1 q3 (2 : Int32) (1 : Int32))))])) rfl (by rw [hml]; rfl) (argsL := [(.int p0), (.long q1), (.long q3), (.int (2 : Int32)), (.int (2 : Int32))]) (rest := [(.long ((own_term p0 q1 q3 (2 : Int32) (0 : Int32)) + (own_term p0 q1 q3 (2 : Int32) (1 : Int32))))]) (lenOf (d := "(IJJII)J") (ps := [.int, .long, .long, .int, .int]) (r := some .long) (by decide +kernel) rfl) rfl (by show 2 * 0 + _ ≤ _; exact Nat.le_of_eq rfl) (hb hby at_327) (fun _ _ => ⟨rfl, e49, (by decide : 5 + 0 ≤ _), (by decide : 35 + 0 ≤ _)⟩)
    dsimp only [Pt.U, Pt.locs, Pt.cells, Pt.slots] at X50 l50 y50 z50 st50 hQ50
    subst y50 z50
    obtain ⟨rfl, N50q, e50⟩ := hQ50
    have N50 : Fr n0 L50 := by rw [l50]; exact Fr.app N49 N50q
    refine own_pre st50 ?_
    show OwnGoes p e below _ (T50.setTop (mkF m 330 #[.val (.int p0), .val (.long q1), .second, .val (.long q3), .second, .val (.ref b5), .val (.ref b6), .val (.ref b7), .val (.int (Int32.ofNat E12.length)), .val (.ref b9), .val (.int (2 : Int32)), .val (.ref o), .val (.double xd), .second, .unset, .unset] [(.long (own_term p0 q1 q3 (2 : Int32) (2 : Int32))), (.long ((own_term p0 q1 q3 (2 : Int32) (0 : Int32)) + (own_term p0 q1 q3 (2 : Int32) (1 : Int32))))]))
    refine own_pre (fun _ kz_ => XS.ladd X50.here hx rfl (hb hby at_330) rfl kz_) ?_
    show OwnGoes p e below _ (T50.setTop (mkF m 331 #[.val (.int p0), .val (.long q1), .second, .val (.long q3), .second, .val (.ref b5), .val (.ref b6), .val (.ref b7), .val (.int (Int32.ofNat E12.length)), .val (.ref b9), .val (.int (2 : Int32)), .val (.ref o), .val (.double xd), .second, .unset, .unset] [(.long (((own_term p0 q1 q3 (2 : Int32) (0 : Int32)) + (own_term p0 q1 q3 (2 : Int32) (1 : Int32))) + (own_term p0 q1 q3 (2 : Int32) (2 : Int32))))]))
    refine own_pre (fun _ kz_ => XS.iloadN X50.here hx rfl (hb hby at_331) rfl kz_) ?_
    show OwnGoes p e below _ (T50.setTop (mkF m 332 #[.val (.int p0), .val (.long q1), .second, .val (.long q3), .second, .val (.ref b5), .val (.ref b6), .val (.ref b7), .val (.int (Int32.ofNat E12.length)), .val (.ref b9), .val (.int (2 : Int32)), .val (.ref o), .val (.double xd), .second, .unset, .unset] [(.int p0), (.long (((own_term p0 q1 q3 (2 : Int32) (0 : Int32)) + (own_term p0 q1 q3 (2 : Int32) (1 : Int32))) + (own_term p0 q1 q3 (2 : Int32) (2 : Int32))))]))
    refine own_pre (fun _ kz_ => XS.lloadN X50.here hx rfl (hb hby at_332) rfl kz_) ?_
    show OwnGoes p e below _ (T50.setTop (mkF m 333 #[.val (.int p0), .val (.long q1), .second, .val (.long q3), .second, .val (.ref b5), .val (.ref b6), .val (.ref b7), .val (.int (Int32.ofNat E12.length)), .val (.ref b9), .val (.int (2 : Int32)), .val (.ref o), .val (.double xd), .second, .unset, .unset] [(.long q1), (.int p0), (.long (((own_term p0 q1 q3 (2 : Int32) (0 : Int32)) + (own_term p0 q1 q3 (2 : Int32) (1 : Int32))) + (own_term p0 q1 q3 (2 : Int32) (2 : Int32))))]))
    refine own_pre (fun _ kz_ => XS.lloadN X50.here hx rfl (hb hby at_333) rfl kz_) ?_
    show OwnGoes p e below _ (T50.setTop (mkF m 334 #[.val (.int p0), .val (.long q1), .second, .val (.long q3), .second, .val (.ref b5), .val (.ref b6), .val (.ref b7), .val (.int (Int32.ofNat E12.length)), .val (.ref b9), .val (.int (2 : Int32)), .val (.ref o), .val (.double xd), .second, .unset, .unset] [(.long q3), (.long q1), (.int p0), (.long (((own_term p0 q1 q3 (2 : Int32) (0 : Int32)) + (own_term p0 q1 q3 (2 : Int32) (1 : Int32))) + (own_term p0 q1 q3 (2 : Int32) (2 : Int32))))]))
    refine own_pre (fun _ kz_ => XS.iload X50.here hx rfl (hb hby at_334) rfl kz_) ?_
    show OwnGoes p e below _ (T50.setTop (mkF m 336 #[.val (.int p0), .val (.long q1), .second, .val (.long q3), .second, .val (.ref b5), .val (.ref b6), .val (.ref b7), .val (.int (Int32.ofNat E12.length)), .val (.ref b9), .val (.int (2 : Int32)), .val (.ref o), .val (.double xd), .second, .unset, .unset] [(.int (2 : Int32)), (.long q3), (.long q1), (.int p0), (.long (((own_term p0 q1 q3 (2 : Int32) (0 : Int32)) + (own_term p0 q1 q3 (2 : Int32) (1 : Int32))) + (own_term p0 q1 q3 (2 : Int32) (2 : Int32))))]))
    refine own_pre (fun _ kz_ => XS.iconst X50.here hx rfl (hb hby at_336) kz_) ?_
    show OwnGoes p e below _ (T50.setTop (mkF m 337 #[.val (.int p0), .val (.long q1), .second, .val (.long q3), .second, .val (.ref b5), .val (.ref b6), .val (.ref b7), .val (.int (Int32.ofNat E12.length)), .val (.ref b9), .val (.int (2 : Int32)), .val (.ref o), .val (.double xd), .second, .unset, .unset] [(.int (3 : Int32)), (.int (2 : Int32)), (.long q3), (.long q1), (.int p0), (.long (((own_term p0 q1 q3 (2 : Int32) (0 : Int32)) + (own_term p0 q1 q3 (2 : Int32) (1 : Int32))) + (own_term p0 q1 q3 (2 : Int32) (2 : Int32))))]))
    obtain ⟨_, _, ⟨T51, L51, k51, n51⟩, -, X51, ⟨Lc51, hQ51, l51, y51, z51⟩, st51⟩ := Jvm.LawKit.callS X50 hx (y := (⟨"com/example/dual_bounds/dualbounds/numerics/SparseMatrixRowTimesPinLaw", "term", "(IJJII)J"⟩ : MethodName)) hown (mvT hZ (hw _ (List.mem_of_getElem? (i := 31) rfl))) (mvT hZ (hw _ (List.mem_of_getElem? (i := 32) rfl))) (mvT hZ (hw _ (List.mem_of_getElem? (i := 4) rfl))) (mvT hZ (hw _ (List.mem_of_getElem? (i := 33) rfl))) (by decide) (backOf (W := 2) (rmT l Z a0 hw [] p0 q1 q3 (2 : Int32) (3 : Int32) T46.heap n0 Z46) hZ (hw _ (List.mem_of_getElem? (i := 33) rfl)) (hw _ (List.mem_of_getElem? (i := 4) rfl)) (by decide) (by decide)) (g := (mkF m 337 #[.val (.int p0), .val (.long q1), .second, .val (.long q3), .second, .val (.ref b5), .val (.ref b6), .val (.ref b7), .val (.int (Int32.ofNat E12.length)), .val (.ref b9), .val (.int (2 : Int32)), .val (.ref o), .val (.double xd), .second, .unset, .unset] [(.int (3 : Int32)), (.int (2 : Int32)), (.long q3), (.long q1), (.int p0), (.long (((own_term p0 q1 q3 (2 : Int32) (0 : Int32)) + (own_term p0 q1 q3 (2 : Int32) (1 : Int32))) + (own_term p0 q1 q3 (2 : Int32) (2 : Int32))))])) rfl (by rw [hml]; rfl) (argsL := [(.int p0), (.long q1), (.long q3), (.int (2 : Int32)), (.int (3 : Int32))]) (rest := [(.long (((own_term p0 q1 q3 (2 : Int32) (0 : Int32)) + (own_term p0 q1 q3 (2 : Int32) (1 : Int32))) + (own_term p0 q1 q3 (2 : Int32) (2 : Int32))))]) (lenOf (d := "(IJJII)J") (ps := [.int, .long, .long, .int, .int]) (r := some .long) (by decide +kernel) rfl) rfl (by show 2 * 0 + _ ≤ _; exact Nat.le_of_eq rfl) (hb hby at_337) (fun _ _ => ⟨rfl, e50, (by decide : 5 + 0 ≤ _), (by decide : 35 + 0 ≤ _)⟩)
    dsimp only [Pt.U, Pt.locs, Pt.cells, Pt.slots] at X51 l51 y51 z51 st51 hQ51
    subst y51 z51
    obtain ⟨rfl, N51q, e51⟩ := hQ51
    have N51 : Fr n0 L51 := by rw [l51]; exact Fr.app N50 N51q
    refine own_pre st51 ?_
    show OwnGoes p e below _ (T51.setTop (mkF m 340 #[.val (.int p0), .val (.long q1), .second, .val (.long q3), .second, .val (.ref b5), .val (.ref b6), .val (.ref b7), .val (.int (Int32.ofNat E12.length)), .val (.ref b9), .val (.int (2 : Int32)), .val (.ref o), .val (.double xd), .second, .unset, .unset] [(.long (own_term p0 q1 q3 (2 : Int32) (3 : Int32))), (.long (((own_term p0 q1 q3 (2 : Int32) (0 : Int32)) + (own_term p0 q1 q3 (2 : Int32) (1 : Int32))) + (own_term p0 q1 q3 (2 : Int32) (2 : Int32))))]))
    refine own_pre (fun _ kz_ => XS.ladd X51.here hx rfl (hb hby at_340) rfl kz_) ?_
    show OwnGoes p e below _ (T51.setTop (mkF m 341 #[.val (.int p0), .val (.long q1), .second, .val (.long q3), .second, .val (.ref b5), .val (.ref b6), .val (.ref b7), .val (.int (Int32.ofNat E12.length)), .val (.ref b9), .val (.int (2 : Int32)), .val (.ref o), .val (.double xd), .second, .unset, .unset] [(.long ((((own_term p0 q1 q3 (2 : Int32) (0 : Int32)) + (own_term p0 q1 q3 (2 : Int32) (1 : Int32))) + (own_term p0 q1 q3 (2 : Int32) (2 : Int32))) + (own_term p0 q1 q3 (2 : Int32) (3 : Int32))))]))
    refine own_pre (fun _ kz_ => XS.lstore X51.here hx rfl (hb hby at_341) rfl (l' := #[.val (.int p0), .val (.long q1), .second, .val (.long q3), .second, .val (.ref b5), .val (.ref b6), .val (.ref b7), .val (.int (Int32.ofNat E12.length)), .val (.ref b9), .val (.int (2 : Int32)), .val (.ref o), .val (.double xd), .second, .val (.long ((((own_term p0 q1 q3 (2 : Int32) (0 : Int32)) + (own_term p0 q1 q3 (2 : Int32) (1 : Int32))) + (own_term p0 q1 q3 (2 : Int32) (2 : Int32))) + (own_term p0 q1 q3 (2 : Int32) (3 : Int32)))), .second]) rfl kz_) ?_
    show OwnGoes p e below _ (T51.setTop (mkF m 343 #[.val (.int p0), .val (.long q1), .second, .val (.long q3), .second, .val (.ref b5), .val (.ref b6), .val (.ref b7), .val (.int (Int32.ofNat E12.length)), .val (.ref b9), .val (.int (2 : Int32)), .val (.ref o), .val (.double xd), .second, .val (.long ((((own_term p0 q1 q3 (2 : Int32) (0 : Int32)) + (own_term p0 q1 q3 (2 : Int32) (1 : Int32))) + (own_term p0 q1 q3 (2 : Int32) (2 : Int32))) + (own_term p0 q1 q3 (2 : Int32) (3 : Int32)))), .second] []))
    refine own_pre (fun _ kz_ => XS.dload X51.here hx rfl (hb hby at_343) rfl kz_) ?_
    show OwnGoes p e below _ (T51.setTop (mkF m 345 #[.val (.int p0), .val (.long q1), .second, .val (.long q3), .second, .val (.ref b5), .val (.ref b6), .val (.ref b7), .val (.int (Int32.ofNat E12.length)), .val (.ref b9), .val (.int (2 : Int32)), .val (.ref o), .val (.double xd), .second, .val (.long ((((own_term p0 q1 q3 (2 : Int32) (0 : Int32)) + (own_term p0 q1 q3 (2 : Int32) (1 : Int32))) + (own_term p0 q1 q3 (2 : Int32) (2 : Int32))) + (own_term p0 q1 q3 (2 : Int32) (3 : Int32)))), .second] [(.double xd)]))
    refine own_pre (fun _ kz_ => XS.lload X51.here hx rfl (hb hby at_345) rfl kz_) ?_
    show OwnGoes p e below _ (T51.setTop (mkF m 347 #[.val (.int p0), .val (.long q1), .second, .val (.long q3), .second, .val (.ref b5), .val (.ref b6), .val (.ref b7), .val (.int (Int32.ofNat E12.length)), .val (.ref b9), .val (.int (2 : Int32)), .val (.ref o), .val (.double xd), .second, .val (.long ((((own_term p0 q1 q3 (2 : Int32) (0 : Int32)) + (own_term p0 q1 q3 (2 : Int32) (1 : Int32))) + (own_term p0 q1 q3 (2 : Int32) (2 : Int32))) + (own_term p0 q1 q3 (2 : Int32) (3 : Int32)))), .second] [(.long ((((own_term p0 q1 q3 (2 : Int32) (0 : Int32)) + (own_term p0 q1 q3 (2 : Int32) (1 : Int32))) + (own_term p0 q1 q3 (2 : Int32) (2 : Int32))) + (own_term p0 q1 q3 (2 : Int32) (3 : Int32)))), (.double xd)]))
    refine own_pre (fun _ kz_ => XS.l2dS X51.here hx rfl (hb hby at_347) rfl rfl kz_) ?_
    show OwnGoes p e below _ (T51.setTop (mkF m 348 #[.val (.int p0), .val (.long q1), .second, .val (.long q3), .second, .val (.ref b5), .val (.ref b6), .val (.ref b7), .val (.int (Int32.ofNat E12.length)), .val (.ref b9), .val (.int (2 : Int32)), .val (.ref o), .val (.double xd), .second, .val (.long ((((own_term p0 q1 q3 (2 : Int32) (0 : Int32)) + (own_term p0 q1 q3 (2 : Int32) (1 : Int32))) + (own_term p0 q1 q3 (2 : Int32) (2 : Int32))) + (own_term p0 q1 q3 (2 : Int32) (3 : Int32)))), .second] [(.double (Jvm.FP.l2d ((((own_term p0 q1 q3 (2 : Int32) (0 : Int32)) + (own_term p0 q1 q3 (2 : Int32) (1 : Int32))) + (own_term p0 q1 q3 (2 : Int32) (2 : Int32))) + (own_term p0 q1 q3 (2 : Int32) (3 : Int32))))), (.double xd)]))
    refine own_pre (fun _ kz_ => XS.dcmpS X51.here hx rfl (hb hby at_348) rfl (v := (0 : Int32)) (own_fin hxd (by rw [List.take_length, r12, List.drop_left' rfl])) kz_) ?_
    show OwnGoes p e below _ (T51.setTop (mkF m 349 #[.val (.int p0), .val (.long q1), .second, .val (.long q3), .second, .val (.ref b5), .val (.ref b6), .val (.ref b7), .val (.int (Int32.ofNat E12.length)), .val (.ref b9), .val (.int (2 : Int32)), .val (.ref o), .val (.double xd), .second, .val (.long ((((own_term p0 q1 q3 (2 : Int32) (0 : Int32)) + (own_term p0 q1 q3 (2 : Int32) (1 : Int32))) + (own_term p0 q1 q3 (2 : Int32) (2 : Int32))) + (own_term p0 q1 q3 (2 : Int32) (3 : Int32)))), .second] [(.int (0 : Int32))]))
    refine own_pre (fun _ kz_ => XS.ifNo X51.here hx rfl (hb hby at_349) rfl ((if0 _ _).trans (teq (by decide : (0 : Int32) = (0 : Int32))).2) kz_) ?_
    show OwnGoes p e below _ (T51.setTop (mkF m 352 #[.val (.int p0), .val (.long q1), .second, .val (.long q3), .second, .val (.ref b5), .val (.ref b6), .val (.ref b7), .val (.int (Int32.ofNat E12.length)), .val (.ref b9), .val (.int (2 : Int32)), .val (.ref o), .val (.double xd), .second, .val (.long ((((own_term p0 q1 q3 (2 : Int32) (0 : Int32)) + (own_term p0 q1 q3 (2 : Int32) (1 : Int32))) + (own_term p0 q1 q3 (2 : Int32) (2 : Int32))) + (own_term p0 q1 q3 (2 : Int32) (3 : Int32)))), .second] []))
    refine own_pre (fun _ kz_ => XS.iconst X51.here hx rfl (hb hby at_352) kz_) ?_
    show OwnGoes p e below _ (T51.setTop (mkF m 353 #[.val (.int p0), .val (.long q1), .second, .val (.long q3), .second, .val (.ref b5), .val (.ref b6), .val (.ref b7), .val (.int (Int32.ofNat E12.length)), .val (.ref b9), .val (.int (2 : Int32)), .val (.ref o), .val (.double xd), .second, .val (.long ((((own_term p0 q1 q3 (2 : Int32) (0 : Int32)) + (own_term p0 q1 q3 (2 : Int32) (1 : Int32))) + (own_term p0 q1 q3 (2 : Int32) (2 : Int32))) + (own_term p0 q1 q3 (2 : Int32) (3 : Int32)))), .second] [(.int (1 : Int32))]))
    refine own_pre (fun _ kz_ => XS.goto X51.here hx rfl (pc0 := 353) (pc' := 357) rfl (hb hby at_353) (by decide) (by decide) kz_) ?_
    show OwnGoes p e below _ (T51.setTop (mkF m 357 #[.val (.int p0), .val (.long q1), .second, .val (.long q3), .second, .val (.ref b5), .val (.ref b6), .val (.ref b7), .val (.int (Int32.ofNat E12.length)), .val (.ref b9), .val (.int (2 : Int32)), .val (.ref o), .val (.double xd), .second, .val (.long ((((own_term p0 q1 q3 (2 : Int32) (0 : Int32)) + (own_term p0 q1 q3 (2 : Int32) (1 : Int32))) + (own_term p0 q1 q3 (2 : Int32) (2 : Int32))) + (own_term p0 q1 q3 (2 : Int32) (3 : Int32)))), .second] [(.int (1 : Int32))]))
    exact own_ret X51 hx Bd.returns (rfl) (Or.inl ⟨rfl, by simp, _, rfl⟩) Bd.notSynchronized (hb hby at_357) ⟨rfl, N51⟩ (by decide) (by decide)
set_option maxRecDepth 65536 in
set_option maxHeartbeats 40000000 in
theorem comes_1 {Post : Tables → Env → Array Value → State → Outcome → State → Prop} (hpost : ∀ tb e args s v u, (limb_1_1.after args s (.returned v) u = true ∧ limb_1_2.after args s (.returned v) u = true ∧ True) → FrameEnd s (.returned v) u (Jvm.fieldLocs frame_1_writes args s ++ Jvm.arrayLocs frame_1_arrays args s ++ Jvm.staticLocs frame_1_statics s) 24 192 → Post tb e args s (.returned v) u) :
    ArmFor flags0 classFile x code maxLocals ret World_1 tables_1 room_1 Calls_1 rest_1 Pre_1 Post := by
  intro l hfl _ _ p e ha hc hk s m args below hf hA hF happ hP
  obtain ⟨hcalls, hrest, hpre⟩ := hP
  obtain ⟨-, -, -, hnamed, -, -, -, hat⟩ := (Spec.applies_iff hf).mp happ
  obtain ⟨hg, hn⟩ := and_e (Cond.before_iff.mp (show (Jvm.Cond.and given_1 narrow_1).before args s = true from hpre))
  obtain ⟨hcount, hgs⟩ := and_e hg
  obtain ⟨ha0, hgs0⟩ := and_e hgs
  obtain ⟨ha1, hgs1⟩ := and_e hgs0
  have ha2 := hgs1
  obtain ⟨w0, w1, w2, rfl⟩ : ∃ w0 w1 w2 : Value, args = #[w0, w1, w2] := by
    have hs : args.size = 3 := by simpa [Cond.value, given_1] using hcount
    obtain ⟨L⟩ := args
    match L, hs with
    | [w0, w1, w2], _ => exact ⟨w0, w1, w2, rfl⟩
  have hw := fun d (hd : d ∈ tables_1) => atoms_spec (ws := Jvm.Cond.code x code maxLocals ret :: tables_1) hat d (List.mem_cons_of_mem _ hd)
  have hfit : Fit s := fun {y c} hc i hi => by
    obtain ⟨ha, rfl⟩ := Array.getElem?_eq_some_iff.mp hc
    have q := List.all_eq_true.mp ((Array.all_eq_true_iff_forall_mem.mp hF) _ (Array.getElem_mem ha)) i (List.mem_range.mpr hi)
    simpa [Array.getElem?_eq_getElem hi] using q
  obtain ⟨i0, ei0⟩ := is_v ha0
  obtain rfl : w0 = (.int i0) := Option.some.inj ei0
  obtain ⟨i1, ei1⟩ := isL_v ha1
  obtain rfl : w1 = (.long i1) := Option.some.inj ei1
  obtain ⟨i2, ei2⟩ := isL_v ha2
  obtain rfl : w2 = (.long i2) := Option.some.inj ei2
  obtain ⟨n, o, h1, h2, h3, _, L, rfl, ⟨rfl, N⟩, hq⟩ := rm0 l s _ hw tables_1 i0 i1 i2 s.heap s.heap.size (Nat.le_refl _) p e ha hc hk s m _ below hf ((Spec.applies_iff_loose hf).mp happ).1 ⟨rfl, State.Warmed39.refl s, rfl⟩ trivial
  refine ⟨n, _, h1, h2, h3, hpost _ _ _ _ _ _ ⟨Cond.after_iff.mpr rfl, Cond.after_iff.mpr (eq_i res_at (Term.int_eval (1)) rfl), trivial⟩ ⟨hq.1, hq.2.1, (hq.2.2.sift fun y hy => Or.inr (N y hy)).mono (by decide) (by decide)⟩⟩
theorem main_1_1 : Claimed_1_1 := comes_1 fun _ _ _ _ _ _ h hF => ⟨h.1, hF⟩
theorem main_1_2 : Claimed_1_2 := comes_1 fun _ _ _ _ _ _ h hF => ⟨h.2.1, hF⟩
end Jvm.Pilot.@@N@@
namespace Jvm.Pilot.@@N@@
open Jvm Jvm.ClassFile Sem Op Lib Jvm.Free Jvm.Stand Jvm.Pilot.@@N@@.Jvm.D
/-! MADE BY PROGRAM (witnessworld.py) out of the Statement's table words and the real class files: 11 classes; the members and pool entries that the words name. The judged class is class 1, her method 1. -/
namespace start1
open Jvm.ClassFile
def u (s : String) : CpInfo := .utf8 (stringToUtf16 s)
/-- a pool by its gaps: so many unusable entries, then the entry; so many at the end -/
def gap : Nat → List CpInfo → List CpInfo
  | 0, r => r
  | n + 1, r => .unusable :: gap n r
def poolList (es : List (Nat × CpInfo)) (last : Nat) : List CpInfo := es.foldr (fun e r => gap e.1 (e.2 :: r)) (gap last [])
def pool (es : List (Nat × CpInfo)) (last : Nat) : Array CpInfo := ⟨poolList es last⟩
def fileOf (pool : Array CpInfo) (this : Nat) (attrs : Array Attribute := #[]) (ms : Array MethodInfo := #[]) (fl : Nat := 33) (sup : Nat := 0) (ifs : Array Nat := #[]) (fds : Array FieldInfo := #[]) : ClassFile where
  minorVersion := 0
  majorVersion := 65
  constantPool := pool
  accessFlags := fl
  thisClass := this
  superClass := sup
  interfaces := ifs
  fields := fds
  methods := ms
  attributes := attrs
def plain (name : String) (sup : Option ClassId) : Class where
  name := name
  kind := .ordinary
  loader := none
  accessFlags := 33
  super := sup
  interfaces := #[]
  cf := none
  fields := #[]
  methods := #[]
  instanceTypes := #[]
  staticTypes := #[]
  resolved := #[]
  callSites := []
  init := .initialized
  statics := none
  mirror := none

def pool0 : Array CpInfo := pool [(5, u "<init>"), (0, u "()V"), (1, .class_ 10), (1, u "java/lang/Object")] 113

def k0c0 : Code := { maxStack := 0, maxLocals := 1, code := object_method_1_code, exceptionTable := #[], attributes := #[] }
def k0m0 : Method := { name := "<init>", desc := "()V", sig := { parameters := [], returnType := none }, accessFlags := 1, code := some k0c0 }
/-- java/lang/Object -/
def k0 : Class := { plain "java/lang/Object" none with
  accessFlags := 33
  interfaces := #[]
  cf := some (fileOf pool0 8 #[] #[{ accessFlags := 1, nameIndex := 5, descriptorIndex := 6, attributes := #[] }] 33 0 #[] #[])
  fields := #[]
  methods := #[k0m0]
  instanceTypes := #[]
  staticTypes := #[]
  resolved := Array.replicate 124 none
  statics := none }

def pool1 : Array CpInfo := pool [(2, .class_ 4), (1, u "java/lang/Object"), (0, u "<init>"), (0, u "()V"), (0, .methodref 8 9), (0, .class_ 10), (0, .nameAndType 11 12), (0, u "com/example/dual_bounds/dualbounds/numerics/SparseMatrixRowTimesPinLaw"), (0, u "put"), (0, u "([I[DIIJII)I"), (0, .methodref 8 14), (0, .nameAndType 15 16), (0, u "x"), (0, u "(JI)I"), (0, .class_ 18), (0, u "com/example/dual_bounds/dualbounds/numerics/SparseMatrix"), (0, .methodref 17 20), (0, .nameAndType 5 21), (0, u "([I[I[D)V"), (0, .methodref 17 23), (0, .nameAndType 24 25), (0, u "rowTimes"), (0, u "(I[D)D"), (0, .methodref 8 27), (0, .nameAndType 28 29), (0, u "term"), (0, u "(IJJII)J"), (0, .methodref 8 31), (0, .nameAndType 32 16), (0, u "w"), (0, .long 31), (1, .long 65535), (1, .integer 32768), (2, u "law"), (0, u "(IJJ)Z")] 7

def k1m0 : Method := { name := "<init>", desc := "()V", sig := { parameters := [], returnType := none }, accessFlags := 1, code := none }
def k1c1 : Code := { maxStack := 9, maxLocals := 16, code := code, exceptionTable := #[], attributes := #[] }
def k1m1 : Method := { name := "law", desc := "(IJJ)Z", sig := { parameters := [.int, .long, .long], returnType := some .boolean }, accessFlags := 9, code := some k1c1 }
def k1c2 : Code := { maxStack := 5, maxLocals := 9, code := method_3_code, exceptionTable := #[], attributes := #[] }
def k1m2 : Method := { name := "put", desc := "([I[DIIJII)I", sig := { parameters := [(.array .int), (.array .double), .int, .int, .long, .int, .int], returnType := some .int }, accessFlags := 10, code := some k1c2 }
def k1c3 : Code := { maxStack := 4, maxLocals := 3, code := method_4_code, exceptionTable := #[], attributes := #[] }
def k1m3 : Method := { name := "w", desc := "(JI)I", sig := { parameters := [.long, .int], returnType := some .int }, accessFlags := 10, code := some k1c3 }
def k1c4 : Code := { maxStack := 4, maxLocals := 3, code := method_5_code, exceptionTable := #[], attributes := #[] }
def k1m4 : Method := { name := "x", desc := "(JI)I", sig := { parameters := [.long, .int], returnType := some .int }, accessFlags := 10, code := some k1c4 }
def k1c5 : Code := { maxStack := 5, maxLocals := 8, code := method_6_code, exceptionTable := #[], attributes := #[] }
def k1m5 : Method := { name := "term", desc := "(IJJII)J", sig := { parameters := [.int, .long, .long, .int, .int], returnType := some .long }, accessFlags := 10, code := some k1c5 }
/-- com/example/dual_bounds/dualbounds/numerics/SparseMatrixRowTimesPinLaw -/
def k1 : Class := { plain "com/example/dual_bounds/dualbounds/numerics/SparseMatrixRowTimesPinLaw" (some 0) with
  accessFlags := 49
  interfaces := #[]
  cf := some (fileOf pool1 8 #[] #[{ accessFlags := 1, nameIndex := 5, descriptorIndex := 6, attributes := #[] }, { accessFlags := 9, nameIndex := 40, descriptorIndex := 41, attributes := #[] }, { accessFlags := 10, nameIndex := 11, descriptorIndex := 12, attributes := #[] }, { accessFlags := 10, nameIndex := 32, descriptorIndex := 16, attributes := #[] }, { accessFlags := 10, nameIndex := 15, descriptorIndex := 16, attributes := #[] }, { accessFlags := 10, nameIndex := 28, descriptorIndex := 29, attributes := #[] }] 49 2 #[] #[])
  fields := #[]
  methods := #[k1m0, k1m1, k1m2, k1m3, k1m4, k1m5]
  instanceTypes := #[]
  staticTypes := #[]
  resolved := Array.replicate 49 none
  statics := none }

def pool2 : Array CpInfo := pool [(1, .methodref 2 3), (0, .class_ 4), (0, .nameAndType 5 6), (0, u "java/lang/Object"), (0, u "<init>"), (0, u "()V"), (0, .fieldref 8 9), (0, .class_ 10), (0, .nameAndType 11 12), (0, u "com/example/dual_bounds/dualbounds/numerics/SparseMatrix"), (0, u "rowStart"), (0, u "[I"), (0, .fieldref 8 14), (0, .nameAndType 15 12), (0, u "columns"), (0, .fieldref 8 17), (0, .nameAndType 18 19), (0, u "values"), (0, u "[D"), (15, u "([I[I[D)V"), (40, u "rowTimes"), (0, u "(I[D)D"), (16, .class_ 95), (0, u "com/example/dual_bounds/dualbounds/numerics/SparseMatrix$Builder")] 20

def k2c0 : Code := { maxStack := 2, maxLocals := 4, code := prog_68_method_1_code, exceptionTable := #[], attributes := #[] }
def k2m0 : Method := { name := "<init>", desc := "([I[I[D)V", sig := { parameters := [(.array .int), (.array .int), (.array .double)], returnType := none }, accessFlags := 0, code := some k2c0 }
def k2c1 : Code := { maxStack := 7, maxLocals := 6, code := prog_68_method_8_code, exceptionTable := #[], attributes := #[] }
def k2m1 : Method := { name := "rowTimes", desc := "(I[D)D", sig := { parameters := [.int, (.array .double)], returnType := some .double }, accessFlags := 1, code := some k2c1 }
/-- com/example/dual_bounds/dualbounds/numerics/SparseMatrix -/
def k2 : Class := { plain "com/example/dual_bounds/dualbounds/numerics/SparseMatrix" (some 0) with
  accessFlags := 49
  interfaces := #[]
  cf := some (fileOf pool2 8 #[.nestMembers #[94]] #[{ accessFlags := 0, nameIndex := 5, descriptorIndex := 35, attributes := #[] }, { accessFlags := 1, nameIndex := 76, descriptorIndex := 77, attributes := #[] }] 49 2 #[] #[{ accessFlags := 18, nameIndex := 11, descriptorIndex := 12, attributes := #[] }, { accessFlags := 18, nameIndex := 15, descriptorIndex := 12, attributes := #[] }, { accessFlags := 18, nameIndex := 18, descriptorIndex := 19, attributes := #[] }])
  fields := #[{ name := "rowStart", type := (.array .int), accessFlags := 18, slot := 0, constantValue := 0 }, { name := "columns", type := (.array .int), accessFlags := 18, slot := 1, constantValue := 0 }, { name := "values", type := (.array .double), accessFlags := 18, slot := 2, constantValue := 0 }]
  methods := #[k2m0, k2m1]
  instanceTypes := #[(.array .int), (.array .int), (.array .double)]
  staticTypes := #[]
  resolved := Array.replicate 116 none
  statics := none }

def pool3 : Array CpInfo := pool [(1, u "java/lang/Cloneable"), (0, .class_ 1), (0, u "java/lang/Object"), (0, .class_ 3)] 3

/-- java/lang/Cloneable -/
def k3 : Class := { plain "java/lang/Cloneable" (some 0) with
  accessFlags := 1537
  interfaces := #[]
  cf := some (fileOf pool3 2 #[] #[] 1537 4 #[] #[])
  fields := #[]
  methods := #[]
  instanceTypes := #[]
  staticTypes := #[]
  resolved := Array.replicate 8 none
  statics := none }

def pool4 : Array CpInfo := pool [(1, u "java/io/Serializable"), (0, .class_ 1), (0, u "java/lang/Object"), (0, .class_ 3)] 3

/-- java/io/Serializable -/
def k4 : Class := { plain "java/io/Serializable" (some 0) with
  accessFlags := 1537
  interfaces := #[]
  cf := some (fileOf pool4 2 #[] #[] 1537 4 #[] #[])
  fields := #[]
  methods := #[]
  instanceTypes := #[]
  staticTypes := #[]
  resolved := Array.replicate 8 none
  statics := none }

/-- the primitive byte -/
def k5 : Class := { plain "byte" none with kind := .primitive 'B', accessFlags := 0x411 }
/-- [B -/
def k6 : Class := { plain "[B" (some 0) with kind := .array 5 .byte, interfaces := #[3, 4], accessFlags := 1041 }

/-- the primitive double -/
def k7 : Class := { plain "double" none with kind := .primitive 'D', accessFlags := 0x411 }
/-- [D -/
def k8 : Class := { plain "[D" (some 0) with kind := .array 7 .double, interfaces := #[3, 4], accessFlags := 1041 }

/-- the primitive int -/
def k9 : Class := { plain "int" none with kind := .primitive 'I', accessFlags := 0x411 }
/-- [I -/
def k10 : Class := { plain "[I" (some 0) with kind := .array 9 .int, interfaces := #[3, 4], accessFlags := 1041 }

def heap : Heap := #[]
def classes : Array Class := #[k0, k1, k2, k3, k4, k5, k6, k7, k8, k9, k10]
def interned : List (Array UInt16 × Addr) := []
def slotsUsed : Nat := 0
def theMethod : MethodId := ⟨1, 1⟩
def args0 : Array Value := #[.int 5, .long 6, .long 7]
def aboutOver (below : List Frame) : State where
  vm := { classes := classes, interned := interned.toArray }
  heap := heap
  slotsUsed := slotsUsed
  threads := #[{ frames := .invoking theMethod args0 :: below }]
def below0 : List Frame := [.native { method := ⟨0, 0⟩, args := #[] }]
def about1 : State := aboutOver below0
def p0 : Program := .bare "" "" ""
def e0 : Env := launch0.env 0 0 0
theorem w_frames : about1.frames = Frame.invoking theMethod args0 :: below0 := rfl
set_option maxRecDepth 65536 in
theorem w_args : argsFit about1.vm theMethod args0 = true := by decide +kernel
set_option maxRecDepth 65536 in
theorem w_heap : heapFits about1 = true := by decide +kernel
set_option maxRecDepth 65536 in
theorem w_runnable : about1.curStatus? = some .runnable := by decide +kernel
set_option maxRecDepth 65536 in
theorem w_alone : about1.alone = true := by decide +kernel
set_option maxRecDepth 65536 in
theorem w_named : about1.methodNamed? x = some theMethod := by decide +kernel
set_option maxRecDepth 65536 in
theorem w_hears : about1.hears theMethod below0 = true := by decide +kernel
set_option maxRecDepth 65536 in
theorem w_ripe : about1.ripe theMethod args0 below0 = true := by decide +kernel
theorem w_running : about1.status = .running := rfl
set_option maxRecDepth 65536 in
theorem w_room : about1.hasRoom e0.platform room_1 = true :=
  launch0.hasRoom_least _ room_1 (by decide +kernel) (by decide +kernel) (by decide +kernel) (by decide +kernel) (by decide +kernel) (by decide +kernel)
theorem allAtoms_all (ts : List Jvm.Cond) (a : Array Jvm.Value) (st : Jvm.State) : (allAtoms ts).before a st = ts.all (fun c => c.before a st) := by
  induction ts with
  | nil => rfl
  | cons c t ih =>
    show (Jvm.Cond.and c (allAtoms t)).before a st = _
    rw [Jvm.Cond.before_and, ih, List.all_cons]
def words1 : List Jvm.Cond := Jvm.Cond.code x code maxLocals ret :: tables_1
/-- a 'code' word, met by the world's own term for the bytes: nothing is compared byte by byte -/
theorem code_word {y : MethodName} {bytes : ByteArray} {mx : Nat} {rt : Option FieldType} {a : Array Value} {s : State} {m : MethodId} {meth : Method} {c : Code} (h1 : s.methodNamed? y = some m) (h2 : s.vm.method? m = some meth) (h3 : meth.code = some c) (h4 : c.code = bytes)
    (h5 : (c.maxLocals == mx && c.exceptionTable.isEmpty && decide (c.maxStack ≤ mostOperands) && decide (meth.sig.returnType = rt) && !meth.locks && decide (parseMethodDescriptor y.desc = some meth.sig)) = true) : (Jvm.Cond.code y bytes mx rt).before a s = true := by
  simp only [Bool.and_eq_true, beq_iff_eq, Bool.not_eq_true', decide_eq_true_eq] at h5
  obtain ⟨⟨⟨⟨⟨g1, g2⟩, g3⟩, g4⟩, g5⟩, g6⟩ := h5
  simp [Cond.before, Cond.holds, Cond.value, h1, h2, h3, h4, g1, g2, g3, g4, g5, g6]
def isCode : Jvm.Cond → Bool
  | .code _ _ _ _ => true
  | _ => false
theorem all_split {L : List Jvm.Cond} {P : Jvm.Cond → Bool} (h1 : L.all (fun c => isCode c || P c) = true) (h2 : ∀ c ∈ L.filter isCode, P c = true) : L.all P = true := by
  refine List.all_eq_true.mpr fun c hc => ?_
  have h := List.all_eq_true.mp h1 c hc
  rcases Bool.eq_false_or_eq_true (isCode c) with hi | hi
  · exact h2 c (List.mem_filter.mpr ⟨hc, hi⟩)
  · simpa [hi] using h
set_option maxRecDepth 65536 in
theorem w_c0 : (Jvm.Cond.code x code maxLocals ret).before args0 about1 = true := code_word (m := ⟨1, 1⟩) (meth := k1m1) (c := k1c1) (by decide +kernel) rfl rfl rfl (by decide +kernel)
set_option maxRecDepth 65536 in
theorem w_c1 : (Jvm.Cond.code ({ cls := "com/example/dual_bounds/dualbounds/numerics/SparseMatrixRowTimesPinLaw", name := "put", desc := "([I[DIIJII)I" } : Jvm.MethodName) method_3_code (9 : Nat) (Option.some Jvm.ClassFile.FieldType.int)).before args0 about1 = true := code_word (m := ⟨1, 2⟩) (meth := k1m2) (c := k1c2) (by decide +kernel) rfl rfl rfl (by decide +kernel)
set_option maxRecDepth 65536 in
theorem w_c2 : (Jvm.Cond.code ({ cls := "com/example/dual_bounds/dualbounds/numerics/SparseMatrixRowTimesPinLaw", name := "x", desc := "(JI)I" } : Jvm.MethodName) method_5_code (3 : Nat) (Option.some Jvm.ClassFile.FieldType.int)).before args0 about1 = true := code_word (m := ⟨1, 4⟩) (meth := k1m4) (c := k1c4) (by decide +kernel) rfl rfl rfl (by decide +kernel)
set_option maxRecDepth 65536 in
theorem w_c3 : (Jvm.Cond.code ({ cls := "com/example/dual_bounds/dualbounds/numerics/SparseMatrix", name := "<init>", desc := "([I[I[D)V" } : Jvm.MethodName) prog_68_method_1_code (4 : Nat) (Option.none : Option Jvm.ClassFile.FieldType)).before args0 about1 = true := code_word (m := ⟨2, 0⟩) (meth := k2m0) (c := k2c0) (by decide +kernel) rfl rfl rfl (by decide +kernel)
set_option maxRecDepth 65536 in
theorem w_c4 : (Jvm.Cond.code ({ cls := "java/lang/Object", name := "<init>", desc := "()V" } : Jvm.MethodName) object_method_1_code (1 : Nat) (Option.none : Option Jvm.ClassFile.FieldType)).before args0 about1 = true := code_word (m := ⟨0, 0⟩) (meth := k0m0) (c := k0c0) (by decide +kernel) rfl rfl rfl (by decide +kernel)
set_option maxRecDepth 65536 in
theorem w_c5 : (Jvm.Cond.code ({ cls := "com/example/dual_bounds/dualbounds/numerics/SparseMatrix", name := "rowTimes", desc := "(I[D)D" } : Jvm.MethodName) prog_68_method_8_code (6 : Nat) (Option.some Jvm.ClassFile.FieldType.double)).before args0 about1 = true := code_word (m := ⟨2, 1⟩) (meth := k2m1) (c := k2c1) (by decide +kernel) rfl rfl rfl (by decide +kernel)
set_option maxRecDepth 65536 in
theorem w_c6 : (Jvm.Cond.code ({ cls := "com/example/dual_bounds/dualbounds/numerics/SparseMatrixRowTimesPinLaw", name := "term", desc := "(IJJII)J" } : Jvm.MethodName) method_6_code (8 : Nat) (Option.some Jvm.ClassFile.FieldType.long)).before args0 about1 = true := code_word (m := ⟨1, 5⟩) (meth := k1m5) (c := k1c5) (by decide +kernel) rfl rfl rfl (by decide +kernel)
set_option maxRecDepth 65536 in
theorem w_c7 : (Jvm.Cond.code ({ cls := "com/example/dual_bounds/dualbounds/numerics/SparseMatrixRowTimesPinLaw", name := "w", desc := "(JI)I" } : Jvm.MethodName) method_4_code (3 : Nat) (Option.some Jvm.ClassFile.FieldType.int)).before args0 about1 = true := code_word (m := ⟨1, 3⟩) (meth := k1m3) (c := k1c3) (by decide +kernel) rfl rfl rfl (by decide +kernel)
def codes1 : List Jvm.Cond := [Jvm.Cond.code x code maxLocals ret, Jvm.Cond.code ({ cls := "com/example/dual_bounds/dualbounds/numerics/SparseMatrixRowTimesPinLaw", name := "put", desc := "([I[DIIJII)I" } : Jvm.MethodName) method_3_code (9 : Nat) (Option.some Jvm.ClassFile.FieldType.int), Jvm.Cond.code ({ cls := "com/example/dual_bounds/dualbounds/numerics/SparseMatrixRowTimesPinLaw", name := "x", desc := "(JI)I" } : Jvm.MethodName) method_5_code (3 : Nat) (Option.some Jvm.ClassFile.FieldType.int), Jvm.Cond.code ({ cls := "com/example/dual_bounds/dualbounds/numerics/SparseMatrix", name := "<init>", desc := "([I[I[D)V" } : Jvm.MethodName) prog_68_method_1_code (4 : Nat) (Option.none : Option Jvm.ClassFile.FieldType), Jvm.Cond.code ({ cls := "java/lang/Object", name := "<init>", desc := "()V" } : Jvm.MethodName) object_method_1_code (1 : Nat) (Option.none : Option Jvm.ClassFile.FieldType), Jvm.Cond.code ({ cls := "com/example/dual_bounds/dualbounds/numerics/SparseMatrix", name := "rowTimes", desc := "(I[D)D" } : Jvm.MethodName) prog_68_method_8_code (6 : Nat) (Option.some Jvm.ClassFile.FieldType.double), Jvm.Cond.code ({ cls := "com/example/dual_bounds/dualbounds/numerics/SparseMatrixRowTimesPinLaw", name := "term", desc := "(IJJII)J" } : Jvm.MethodName) method_6_code (8 : Nat) (Option.some Jvm.ClassFile.FieldType.long), Jvm.Cond.code ({ cls := "com/example/dual_bounds/dualbounds/numerics/SparseMatrixRowTimesPinLaw", name := "w", desc := "(JI)I" } : Jvm.MethodName) method_4_code (3 : Nat) (Option.some Jvm.ClassFile.FieldType.int)]
set_option maxRecDepth 65536 in
theorem codes_eq : words1.filter isCode = codes1 := rfl
theorem w_codes : ∀ c ∈ words1.filter isCode, c.before args0 about1 = true := by
  rw [codes_eq]
  intro c hc
  simp only [codes1, List.mem_cons, List.not_mem_nil, or_false] at hc
  rcases hc with rfl | rfl | rfl | rfl | rfl | rfl | rfl | rfl
  · exact w_c0
  · exact w_c1
  · exact w_c2
  · exact w_c3
  · exact w_c4
  · exact w_c5
  · exact w_c6
  · exact w_c7
set_option maxRecDepth 65536 in
theorem w_t1 : (words1.take 24).all (fun c => isCode c || c.before args0 about1) = true := by decide +kernel
set_option maxRecDepth 65536 in
theorem w_t2 : (words1.drop 24).all (fun c => isCode c || c.before args0 about1) = true := by decide +kernel
theorem w_tables : (allAtoms (Jvm.Cond.code x code maxLocals ret :: tables_1)).before args0 about1 = true := by
  rw [allAtoms_all]
  show words1.all (fun c => c.before args0 about1) = true
  refine all_split ?_ w_codes
  rw [← List.take_append_drop 24 words1, List.all_append, w_t1, w_t2]
  rfl
set_option maxRecDepth 65536 in
theorem w_case : (Jvm.Cond.and given_1 narrow_1).before args0 about1 = true := by decide +kernel
theorem w_applies : (headSpec (Jvm.Cond.code x code maxLocals ret :: tables_1) room_1).applies x e0.platform about1 = true :=
  (Spec.applies_iff w_frames).mpr ⟨w_running, w_runnable, w_alone, w_named, w_hears, w_ripe, w_room, w_tables⟩
theorem atStart : AtStart classFile x code maxLocals ret World_1 tables_1 room_1 Calls_1 rest_1 Pre_1 launch0 p0 e0 about1 theMethod args0 below0 :=
  ⟨lists_1, trivial, launch0.admits_env _ _ _, launch0.least_env, fairChoices_fair.cas, fairChoices_fair.clock, w_frames, w_args, w_heap, w_applies, trivial, trivial, w_case⟩
end start1
theorem witness_1 : WitnessClaimed_1 := ⟨start1.p0, start1.e0, start1.about1, start1.theMethod, start1.args0, start1.below0, start1.atStart⟩
end Jvm.Pilot.@@N@@

import JvmDerived
import JvmDerived.Pilot.@@N@@Statement
import JvmDerived.Pilot.@@N@@Code
set_option linter.unusedVariables false
set_option linter.unusedSimpArgs false
namespace Jvm.Pilot.@@N@@
open Jvm Jvm.ClassFile Sem Op Lib Jvm.Free Jvm.Stand Jvm.LawKit Jvm.RoadKit Bundle Jvm.Pilot.@@N@@.Jvm.D
/-! the walk in continuation style: 'from U the run comes to an end of which P holds' -/
def OwnGoes (p : Program) (e : Env) (below : List Frame) (P : Outcome → State → Prop) (U : State) : Prop := ∃ s₂ o, Steps p.tables e below U s₂ ∧ s₂.status = .running ∧ Ended s₂ below o ∧ P o s₂
theorem own_pre {p : Program} {e : Env} {below : List Frame} {P : Outcome → State → Prop} {U U' : State} (h : ∀ t, Steps p.tables e below U' t → Steps p.tables e below U t) (k : OwnGoes p e below P U') : OwnGoes p e below P U := by
  obtain ⟨s₂, o, h1, h2⟩ := k
  exact ⟨s₂, o, h _ h1, h2⟩
theorem own_tr {p : Program} {e : Env} {below : List Frame} {P : Outcome → State → Prop} {U U' : State} (h : Steps p.tables e below U U') (k : OwnGoes p e below P U') : OwnGoes p e below P U := own_pre (fun _ q => h.trans q) k
theorem own_ret {p : Program} {l : Launch} {e : Env} {R : Room} {s : State} {m : MethodId} {args : Array Value} {below : List Frame} {meth : Method} {c : Code} {T : State} {locs : List Loc} {cells slots : Nat}
    (X : Stand p l e R s m args below meth c T locs cells slots) (hx : p.tables.exec = Jvm.exec) {pc : Nat} {Ls : Array Slot} {w : Value} {t : FieldType} {i : Instr} {rest : List Value} (hret : meth.sig.returnType = some t) (hn : narrow t w = w)
    (hi : (i = .ireturn ∧ (t = .int ∨ t = .boolean ∨ t = .byte ∨ t = .char ∨ t = .short) ∧ ∃ z, w = .int z) ∨ (i = .lreturn ∧ t = .long ∧ ∃ z, w = .long z) ∨ (i = .dreturn ∧ t = .double ∧ ∃ z, w = .double z) ∨ (i = .freturn ∧ t = .float ∧ ∃ z, w = .float z) ∨ (i = .areturn ∧ t.isReference = true ∧ w.isRef = true))
    (hlocks : meth.locks = false) (hd : decode c.code pc = .ok (i, 1)) {Qh : Option Value → Heap → List Loc → Prop} {rc rs : Nat} (hQ : Qh (some w) T.heap locs) (hc : cells ≤ rc) (hs : slots ≤ rs) :
    OwnGoes p e below (fun o U' => ∃ v L, o = .returned v ∧ Qh v U'.heap L ∧ FrameEnd s o U' L rc rs) (T.setTop (mkF m pc Ls (w :: rest))) := by
  obtain ⟨fs, hr, hrun, hended, hW, hsame⟩ := X.leave (v := some w) (fun h => by rw [hret] at h; cases h) hlocks
  exact ⟨_, _, retOut X hx hret hn hi hd hr, hrun, hended, _, _, rfl, hQ, ⟨_, rfl⟩, hW, hsame.mono hc hs⟩
theorem own_retV {p : Program} {l : Launch} {e : Env} {R : Room} {s : State} {m : MethodId} {args : Array Value} {below : List Frame} {meth : Method} {c : Code} {T : State} {locs : List Loc} {cells slots : Nat}
    (X : Stand p l e R s m args below meth c T locs cells slots) (hx : p.tables.exec = Jvm.exec) {pc : Nat} {Ls : Array Slot} (hret : meth.sig.returnType = none) (hlocks : meth.locks = false) (hd : decode c.code pc = .ok (.return_, 1)) {Qh : Option Value → Heap → List Loc → Prop} {rc rs : Nat} (hQ : Qh none T.heap locs) (hc : cells ≤ rc) (hs : slots ≤ rs) :
    OwnGoes p e below (fun o U' => ∃ v L, o = .returned v ∧ Qh v U'.heap L ∧ FrameEnd s o U' L rc rs) (T.setTop (mkF m pc Ls [])) := by
  obtain ⟨fs, hr, hrun, hended, hW, hsame⟩ := X.leave (v := none) (fun _ => rfl) hlocks
  exact ⟨_, _, X.returnOut hx hret hd hr, hrun, hended, _, _, rfl, hQ, ⟨_, rfl⟩, hW, hsame.mono hc hs⟩
/-! an array by the list of what it holds -/
def OwnA (Z : State) (h : Heap) (b : Addr) (ty : FieldType) (vs : List Value) : Prop := ∃ c : Cell, Jvm.RoadKit.Arr Z h b c ty ∧ c.slots = vs.toArray
section OwnArrays
variable {Z : State} {h h' : Heap} {a b : Addr} {ty : FieldType} {vs ws : List Value} {v : Value} {sl : Nat} {as : List Addr}
theorem OwnA.lt (F : OwnA Z h b ty vs) : b < h.size := by obtain ⟨c, A, -⟩ := F; exact A.lt
theorem OwnA.ext (F : OwnA Z h b ty vs) (E : Ext h h') : OwnA Z h' b ty vs := by obtain ⟨c, A, r⟩ := F; exact ⟨c, A.ext E, r⟩
theorem OwnA.other (F : OwnA Z h b ty vs) (W : Wr h h' a sl v) (q : b ≠ a) : OwnA Z h' b ty vs := by obtain ⟨c, A, r⟩ := F; exact ⟨c, A.other W q, r⟩
theorem OwnA.keep (F : OwnA Z h b ty vs) (K : Keep h h' as) (q : b ∉ as) : OwnA Z h' b ty vs := by obtain ⟨c, A, r⟩ := F; exact ⟨c, ⟨K.2.1 _ _ A.1 q, A.2⟩, r⟩
theorem OwnA.same (F : OwnA Z h a ty vs) (W : Wr h h' a sl v) : OwnA Z h' a ty (vs.set sl v) := by
  obtain ⟨c, A, r⟩ := F
  refine ⟨_, A.same W, ?_⟩
  show c.slots.setIfInBounds sl v = _
  rw [r]; simp
theorem OwnA.plain (F : OwnA Z h a ty vs) : ∀ cell : Cell, h[a]? = some cell → cell.vm.isStatics = false := fun cell hc => by
  obtain ⟨c, A, r⟩ := F
  cases hc.symm.trans A.1
  exact A.plain
variable {p : Program} {l : Launch} {e : Env} {R : Room} {s : State} {m : MethodId} {args : Array Value} {below : List Frame} {meth : Method} {c : Code} {T : State} {locs : List Loc} {cells slots : Nat} {a0 : Array Value}
theorem own_hin {c : Cell} {vs : List Value} {j : Int32} (hs : c.slots = vs.toArray) (h0 : ¬ j < 0) (h1 : j.toNatClampNeg < vs.length) : ¬ (j < 0 ∨ c.slots.size ≤ j.toNatClampNeg) := by
  rw [hs]; simp only [List.size_toArray]; intro q; rcases q with q | q
  · exact h0 q
  · omega
theorem own_alen (X : Stand p l e R s m args below meth c T locs cells slots) (hx : p.tables.exec = Jvm.exec) (hZ : Z.Warmed39 s.vm) (eT : T.heap = h) (A : OwnA Z h a ty vs) {n : Int32} (hn : n = Int32.ofNat vs.length)
    {g : JFrame} (hg : g.method = m) {rest : List Value} (hs : g.stack = .ref a :: rest) (hd : decode c.code g.pc = .ok (.arraylength, 1)) :
    ∀ t, Steps p.tables e below (T.setTop { g with pc := g.pc + 1, stack := .int n :: rest }) t → Steps p.tables e below (T.setTop g) t := fun t k => by
  obtain ⟨c, A, r⟩ := A
  refine X.arraylength hx (by rw [eT]; exact A.1) (State.isArrayOf_alike hZ.alike A.2.1) hg hs hd t ?_
  have q : c.slots.size.toInt32 = n := by rw [r, hn, List.size_toArray]
  rw [q]; exact k
theorem own_iald (X : Stand p l e R s m args below meth c T locs cells slots) (hx : p.tables.exec = Jvm.exec) (hZ : Z.Warmed39 s.vm) (eT : T.heap = h) (A : OwnA Z h a .int vs) {j : Int32} {v : Value} (h0 : ¬ j < 0) (hv : vs[j.toNatClampNeg]? = some v)
    {g : JFrame} (hg : g.method = m) {rest : List Value} (hs : g.stack = .int j :: .ref a :: rest) (hd : decode c.code g.pc = .ok (.iaload, 1)) :
    ∀ t, Steps p.tables e below (T.setTop { g with pc := g.pc + 1, stack := v :: rest }) t → Steps p.tables e below (T.setTop g) t := fun t k => by
  obtain ⟨c, A, r⟩ := A
  exact X.iaload hx (by rw [eT]; exact A.1) (State.isArrayOf_alike hZ.alike A.2.1) A.2.2 (own_hin r h0 (List.getElem?_eq_some_iff.mp hv).1) (by rw [r]; simpa using hv) hg hs hd t k
theorem own_lald (X : Stand p l e R s m args below meth c T locs cells slots) (hx : p.tables.exec = Jvm.exec) (hZ : Z.Warmed39 s.vm) (eT : T.heap = h) (A : OwnA Z h a .long vs) {j : Int32} {v : Value} (h0 : ¬ j < 0) (hv : vs[j.toNatClampNeg]? = some v)
    {g : JFrame} (hg : g.method = m) {rest : List Value} (hs : g.stack = .int j :: .ref a :: rest) (hd : decode c.code g.pc = .ok (.laload, 1)) :
    ∀ t, Steps p.tables e below (T.setTop { g with pc := g.pc + 1, stack := v :: rest }) t → Steps p.tables e below (T.setTop g) t := fun t k => by
  obtain ⟨c, A, r⟩ := A
  exact X.laload hx (by rw [eT]; exact A.1) (State.isArrayOf_alike hZ.alike A.2.1) A.2.2 (own_hin r h0 (List.getElem?_eq_some_iff.mp hv).1) (by rw [r]; simpa using hv) hg hs hd t k
theorem own_ist (X : Stand p l e R s m args below meth c T locs cells slots) (hx : p.tables.exec = Jvm.exec) (hZ : Z.Warmed39 s.vm) (eT : T.heap = h) (A : OwnA Z h a .int vs) {j x : Int32} (h0 : ¬ j < 0) (h1 : j.toNatClampNeg < vs.length)
    {g : JFrame} (hg : g.method = m) {rest : List Value} (hs : g.stack = .int x :: .int j :: .ref a :: rest) (hd : decode c.code g.pc = .ok (.iastore, 1)) :
    ∃ T' h', Stand p l e R s m args below meth c T' (locs ++ [⟨a, j.toNatClampNeg⟩]) cells slots ∧ T'.heap = h' ∧ Wr h h' a j.toNatClampNeg (.int x) ∧ OwnA Z h' a .int (vs.set j.toNatClampNeg (.int x)) ∧
      ∀ t, Steps p.tables e below (T'.setTop { g with pc := g.pc + 1, stack := rest }) t → Steps p.tables e below (T.setTop g) t := by
  have F := A
  obtain ⟨c, A, r⟩ := A
  obtain ⟨T', h', X', e', W, st⟩ := stI X hx hZ eT A (own_hin r h0 h1) hg hs hd
  exact ⟨T', h', X', e', W, F.same W, st⟩
theorem own_jst (X : Stand p l e R s m args below meth c T locs cells slots) (hx : p.tables.exec = Jvm.exec) (hZ : Z.Warmed39 s.vm) (eT : T.heap = h) (A : OwnA Z h a .long vs) {j : Int32} {x : Int64} (h0 : ¬ j < 0) (h1 : j.toNatClampNeg < vs.length)
    {g : JFrame} (hg : g.method = m) {rest : List Value} (hs : g.stack = .long x :: .int j :: .ref a :: rest) (hd : decode c.code g.pc = .ok (.lastore, 1)) :
    ∃ T' h', Stand p l e R s m args below meth c T' (locs ++ [⟨a, j.toNatClampNeg⟩]) cells slots ∧ T'.heap = h' ∧ Wr h h' a j.toNatClampNeg (.long x) ∧ OwnA Z h' a .long (vs.set j.toNatClampNeg (.long x)) ∧
      ∀ t, Steps p.tables e below (T'.setTop { g with pc := g.pc + 1, stack := rest }) t → Steps p.tables e below (T.setTop g) t := by
  have F := A
  obtain ⟨c, A, r⟩ := A
  obtain ⟨T', h', X', e', W, st⟩ := stJ X hx hZ eT A (own_hin r h0 h1) hg hs hd
  exact ⟨T', h', X', e', W, F.same W, st⟩
theorem own_dald (X : Stand p l e R s m args below meth c T locs cells slots) (hx : p.tables.exec = Jvm.exec) (hZ : Z.Warmed39 s.vm) (eT : T.heap = h) (A : OwnA Z h a .double vs) {j : Int32} {v : Value} (h0 : ¬ j < 0) (hv : vs[j.toNatClampNeg]? = some v)
    {g : JFrame} (hg : g.method = m) {rest : List Value} (hs : g.stack = .int j :: .ref a :: rest) (hd : decode c.code g.pc = .ok (.daload, 1)) :
    ∀ t, Steps p.tables e below (T.setTop { g with pc := g.pc + 1, stack := v :: rest }) t → Steps p.tables e below (T.setTop g) t := fun t k => by
  obtain ⟨c, A, r⟩ := A
  exact X.daload hx (by rw [eT]; exact A.1) (State.isArrayOf_alike hZ.alike A.2.1) A.2.2 (own_hin r h0 (List.getElem?_eq_some_iff.mp hv).1) (by rw [r]; simpa using hv) hg hs hd t k
theorem own_dst (X : Stand p l e R s m args below meth c T locs cells slots) (hx : p.tables.exec = Jvm.exec) (hZ : Z.Warmed39 s.vm) (eT : T.heap = h) (A : OwnA Z h a .double vs) {j : Int32} {x : UInt64} (h0 : ¬ j < 0) (h1 : j.toNatClampNeg < vs.length)
    {g : JFrame} (hg : g.method = m) {rest : List Value} (hs : g.stack = .double x :: .int j :: .ref a :: rest) (hd : decode c.code g.pc = .ok (.dastore, 1)) :
    ∃ T' h', Stand p l e R s m args below meth c T' (locs ++ [⟨a, j.toNatClampNeg⟩]) cells slots ∧ T'.heap = h' ∧ Wr h h' a j.toNatClampNeg (.double x) ∧ OwnA Z h' a .double (vs.set j.toNatClampNeg (.double x)) ∧
      ∀ t, Steps p.tables e below (T'.setTop { g with pc := g.pc + 1, stack := rest }) t → Steps p.tables e below (T.setTop g) t := by
  have F := A
  obtain ⟨c, A, r⟩ := A
  obtain ⟨T', h', X', e', W, st⟩ := stD X hx hZ eT A (own_hin r h0 h1) hg hs hd
  exact ⟨T', h', X', e', W, F.same W, st⟩
theorem own_newa (X : Stand p l e R s m args below meth c T locs cells slots) (hx : p.tables.exec = Jvm.exec) (hZ : Z.Warmed39 s.vm) {aty : ArrayType} (w : (Jvm.Cond.arrayClass (newarray.typeOf aty)).before a0 Z = true) (eT : T.heap = h) {g : JFrame} (hg : g.method = m) (hd : decode c.code g.pc = .ok (.newarray aty, 2)) {n : Int32} {rest : List Value} (hs : g.stack = .int n :: rest)
    (hn : ¬ n < 0) {cap : Nat} (hcap : n.toNatClampNeg ≤ cap) (hb : cap * 8 ≤ 536870912) (hc : cells + 1 ≤ R.cells) (hl : slots + cap ≤ R.slots) :
    ∃ T' h', Stand p l e R s m args below meth c T' locs (cells + 1) (slots + cap) ∧ T'.heap = h' ∧ Ext h h' ∧ OwnA Z h' h.size (newarray.typeOf aty) (List.replicate n.toNatClampNeg (defaultValue (newarray.typeOf aty))) ∧
      ∀ t, Steps p.tables e below (T'.setTop { g with pc := g.pc + 2, stack := .ref h.size :: rest }) t → Steps p.tables e below (T.setTop g) t := by
  obtain ⟨T', h', cA, X', e', E, A, st⟩ := newP X hx hZ w eT hg hd hs hn hcap hb hc hl
  exact ⟨T', h', X', e', E, ⟨_, A, by simp [newA]⟩, st⟩
/-- System.arraycopy from place 0 to place 0 of another array of the same plain kind -/
theorem own_acopy (X : Stand p l e R s m args below meth c T locs cells slots) (hx : p.tables.exec = Jvm.exec) (hZ : Z.Warmed39 s.vm) {own : String} {index : Nat} (hown : s.vm.findClass own = some m.cls) (hwz : ∀ w ∈ XT.acW own index, w.before args s = true)
    (eT : T.heap = h) (A : OwnA Z h a ty vs) (B : OwnA Z h b ty ws) (hty : refKind ty = false) (href : ty.isReference = false) (hfit : ∀ x ∈ vs, fits ty x = true) (h1 : vs.length < 2 ^ 31) (h2 : ws.length < 2 ^ 31) {n : Nat} {jn : Int32} (hjn : jn = Int32.ofNat n) (hn1 : n ≤ vs.length) (hn2 : n ≤ ws.length)
    {g : JFrame} (hg : g.method = m) (hsize : g.locals.size = c.maxLocals) {rest : List Value} (hs : g.stack = .int jn :: .int 0 :: .ref b :: .int 0 :: .ref a :: rest) (hd : decode c.code g.pc = .ok (.invokestatic index, 3))
    {W : Nat} (hW : 2 * g.monitorRoom + (rest.map fun v => v.category).sum ≤ W) (hfr : 1 ≤ R.frames) (hlo : W + 40 ≤ R.locals) :
    ∃ T' h', Stand p l e R s m args below meth c T' (locs ++ copyLocs b 0 n) cells slots ∧ T'.heap = h' ∧ Keep h h' [b] ∧ OwnA Z h' b ty (vs.take n ++ ws.drop n) ∧
      ∀ t, Steps p.tables e below (T'.setTop { g with pc := g.pc + 3, stack := rest }) t → Steps p.tables e below (T.setTop g) t := by
  obtain ⟨cA, A, rA⟩ := A
  obtain ⟨cB, B, rB⟩ := B
  have hU : Z.Warmed39 T.vm := wtrans hZ X.warmed
  have A' : XT.Arr ty a cA T := ⟨by rw [eT]; exact A.1, State.isArrayOf_alike hU.alike A.2.1, A.2.2, by rw [rA]; simpa using h1⟩
  have B' : XT.Arr ty b cB T := ⟨by rw [eT]; exact B.1, State.isArrayOf_alike hU.alike B.2.1, B.2.2, by rw [rB]; simpa using h2⟩
  obtain ⟨T', B1, X', P, c1, c2, c3, c4, st⟩ := X.acopy hx hown hwz A' B' (by simp [hty]) (o := 0) (q := 0) (n := n) (jo := 0) (jq := 0) rfl rfl hjn (by rw [rA]; simpa using hn1) (by rw [rB]; simpa using hn2)
    (fun i hi => ⟨hfit _ (by
      rw [rA, Array.getD_eq_getD_getElem?]
      have hi' : 0 + i < vs.length := by omega
      simp only [List.getElem?_toArray, List.getElem?_eq_getElem hi', Option.getD_some]
      exact List.getElem_mem hi'), fun q => by rw [href] at q; cases q⟩) hg hsize hs hd hW hfr hlo
  refine ⟨T', _, X', rfl, ⟨?_, fun x cx hx hne => ?_, fun x cx hx => ?_⟩, ⟨B1, ⟨P.1, ?_, by rw [c2]; exact B.2.2⟩, ?_⟩, st⟩
  · rw [P.2.2, eT]; exact Nat.le_refl _
  · rw [P.2.1 x (fun q => hne (by rw [q]; exact List.mem_singleton.mpr rfl)), eT]; exact hx
  · by_cases q : x = b
    · subst q
      cases hx.symm.trans B.1
      exact ⟨B1, P.1, c1, c2, c3⟩
    · exact ⟨cx, by rw [P.2.1 x q, eT]; exact hx, rfl, rfl, rfl⟩
  · obtain ⟨q1, k, q2, q3⟩ := B.2.1
    exact ⟨by rw [c2]; exact q1, k, by rw [c1]; exact q2, q3⟩
  · apply Array.ext_getElem?
    intro j
    rw [c4 j]
    rw [rA, rB, Array.getD_eq_getD_getElem?]
    simp only [List.getElem?_toArray]
    by_cases q : j < n
    · have q2 : j < vs.length := by omega
      rw [if_pos ⟨Nat.zero_le _, by omega⟩, List.getElem?_append_left (by rw [List.length_take]; omega), List.getElem?_take_of_lt q]
      simp [List.getElem?_eq_getElem q2]
    · rw [if_neg (by omega), List.getElem?_append_right (by rw [List.length_take]; omega), List.getElem?_drop, List.length_take]
      congr 1
      omega
theorem own_frcopy {n0 : Nat} {locs : List Loc} (N : Fr n0 locs) {b : Addr} (hb : n0 ≤ b) (k : Nat) : Fr n0 (locs ++ copyLocs b 0 k) := Fr.app N (fun y hy => by
  simp only [copyLocs, List.mem_map] at hy
  obtain ⟨i, -, rfl⟩ := hy
  exact hb)
end OwnArrays


def own_in (q : Int64) : Prop := (0 : Int64) < q ∧ ¬ (2147483647 : Int64) < q
instance own_ind (q : Int64) : Decidable (own_in q) := by unfold own_in; exact inferInstance
def own_e (q : Int64) (k : Int32) : Int64 := (q <<< ((32 : Int32) &&& 0x3f).toInt64) ||| (k.toInt64 &&& (4294967295 : Int64))
def own_key (q : Int64) : Int64 := q <<< ((32 : Int32) &&& 0x3f).toInt64
def own_hi (x : Int64) : Int64 := (x.toUInt64 >>> ((32 : Int32) &&& 0x3f).toInt64.toUInt64).toInt64
def own_bs (x k : Int64) : Int32 := if x < k then (-2 : Int32) else if k < x then (-1 : Int32) else (0 : Int32)
def own_r (x q : Int64) : Int32 := if own_in q then (if x < own_key q then (-2147483648 : Int32) else if own_hi x = q then x.toInt32 else (-2147483648 : Int32)) else (-2147483648 : Int32)
def own_exp (q p : Int64) (c : Int32) : Int32 := if own_in q then (if q = p then c else (-2147483648 : Int32)) else (-2147483648 : Int32)
theorem own_ev {p : Int64} (h : own_in p) (c : Int32) : (own_e p c).toInt = p.toInt * 4294967296 + c.toInt % 4294967296 := by
  obtain ⟨h1, h2⟩ := h
  rw [Int64.lt_iff_toInt_lt] at h1 h2
  have e0 : (0 : Int64).toInt = 0 := rfl
  have e1 : (2147483647 : Int64).toInt = 2147483647 := rfl
  have s1 := c_lshl p 32 32 (by decide)
  have s2 := rng64 (p <<< ((32 : Int32) &&& 0x3f).toInt64)
  have s3 : (p <<< ((32 : Int32) &&& 0x3f).toInt64).toInt = p.toInt * 4294967296 := by
    have : ((2 ^ 32 : Nat) : Int) = 4294967296 := by decide
    rw [this] at s1
    omega
  have m1 := c_maskL c.toInt64 4294967295 32 (by decide) (by decide)
  rw [Int32.toInt_toInt64] at m1
  have m2 : ((2 ^ 32 : Nat) : Int) = 4294967296 := by decide
  rw [m2] at m1
  have o1 := c_orL (p <<< ((32 : Int32) &&& 0x3f).toInt64) (c.toInt64 &&& (4294967295 : Int64)) 32 (by decide) 4294967296 (by decide) (by rw [s3]; omega) (by omega) (by omega)
  have r1 := rng64 (own_e p c)
  unfold own_e at r1 ⊢
  rw [s3, m1] at o1
  omega
theorem own_keyv {q : Int64} (h : own_in q) : (own_key q).toInt = q.toInt * 4294967296 := by
  obtain ⟨h1, h2⟩ := h
  rw [Int64.lt_iff_toInt_lt] at h1 h2
  have e0 : (0 : Int64).toInt = 0 := rfl
  have e1 : (2147483647 : Int64).toInt = 2147483647 := rfl
  have s1 := c_lshl q 32 32 (by decide)
  have s2 := rng64 (own_key q)
  have : ((2 ^ 32 : Nat) : Int) = 4294967296 := by decide
  rw [this] at s1
  unfold own_key at s2 ⊢
  omega
theorem own_hiv {p : Int64} (h : own_in p) (c : Int32) : own_hi (own_e p c) = p := by
  have h0 := own_ev h c
  obtain ⟨h1, h2⟩ := h
  rw [Int64.lt_iff_toInt_lt] at h1 h2
  have e0 : (0 : Int64).toInt = 0 := rfl
  have e1 : (2147483647 : Int64).toInt = 2147483647 := rfl
  apply Int64.toInt_inj.mp
  unfold own_hi
  rw [c_lushr (own_e p c) 32 32 (by decide) (by decide), h0]
  have : ((2 ^ 32 : Nat) : Int) = 4294967296 := by decide
  rw [this]
  omega
theorem own_lov {p : Int64} (h : own_in p) (c : Int32) : (own_e p c).toInt32 = c := by
  have h0 := own_ev h c
  have h1 := c_l2i (own_e p c)
  have h2 := rng32 c
  have h3 := rng32 (own_e p c).toInt32
  apply Int32.toInt_inj.mp
  omega
theorem own_main {p : Int64} (h : own_in p) (c : Int32) (q : Int64) : own_r (own_e p c) q = own_exp q p c := by
  unfold own_r own_exp
  by_cases hq : own_in q
  · rw [if_pos hq, if_pos hq, own_hiv h, own_lov h]
    by_cases e : q = p
    · subst e
      rw [if_pos rfl, if_neg]
      rw [Int64.lt_iff_toInt_lt, own_ev h, own_keyv h]
      omega
    · rw [if_neg e]
      have e' : ¬ p = q := fun z => e z.symm
      rw [if_neg e']
      split <;> rfl
  · rw [if_neg hq, if_neg hq]
theorem own_rout {q : Int64} (h : ¬ own_in q) (x : Int64) : own_r x q = (-2147483648 : Int32) := by unfold own_r; rw [if_neg h]
theorem own_expout {p : Int64} (h : ¬ own_in p) (c : Int32) (q : Int64) : (-2147483648 : Int32) = own_exp q p c := by
  unfold own_exp
  by_cases hq : own_in q
  · rw [if_pos hq, if_neg (fun (e : q = p) => h (by rw [← e]; exact hq))]
  · rw [if_neg hq]
def OwnRC (Z : State) (n0 : Nat) (h : Heap) (ob : Addr) (c srt : Int32) (x0 x1 : Int64) : Prop :=
  ∃ (b : Addr) (tl : List Value), Exa Z h ob "com/example/holdfast/holdfast/net/ReferencedClasses" ∧ Fld Z h ob "com/example/holdfast/holdfast/net/ReferencedClasses" "named" "[J" (.ref b) ∧ Fld Z h ob "com/example/holdfast/holdfast/net/ReferencedClasses" "count" "I" (.int c) ∧ Fld Z h ob "com/example/holdfast/holdfast/net/ReferencedClasses" "sorted" "Z" (.int srt) ∧ OwnA Z h b .long (.long x0 :: .long x1 :: tl) ∧ tl.length = 62 ∧ n0 ≤ ob ∧ n0 ≤ b ∧ ob ≠ b
theorem OwnRC.exa {Z : State} {n0 : Nat} {h : Heap} {ob : Addr} {c srt : Int32} {x0 x1 : Int64} (F : OwnRC Z n0 h ob c srt x0 x1) : Exa Z h ob "com/example/holdfast/holdfast/net/ReferencedClasses" := by obtain ⟨b, tl, E, -⟩ := F; exact E
theorem OwnRC.sz {Z : State} {n0 : Nat} {h : Heap} {ob : Addr} {c srt : Int32} {x0 x1 : Int64} (F : OwnRC Z n0 h ob c srt x0 x1) : n0 ≤ h.size := by obtain ⟨b, tl, E, -, -, -, -, -, g, -⟩ := F; exact Nat.le_trans g (Nat.le_of_lt E.lt)


theorem own_bsc (x k : Int64) : ∃ r_, own_bs x k = r_ ∧ ((r_ = (-2 : Int32) ∧ x < k) ∨ (r_ = (-1 : Int32) ∧ ¬ x < k) ∨ (r_ = (0 : Int32) ∧ ¬ x < k)) := by
  refine ⟨_, rfl, ?_⟩
  unfold own_bs
  by_cases h1 : x < k
  · rw [if_pos h1]; exact Or.inl ⟨rfl, h1⟩
  · rw [if_neg h1]
    by_cases h2 : k < x
    · rw [if_pos h2]; exact Or.inr (Or.inl ⟨rfl, h1⟩)
    · rw [if_neg h2]; exact Or.inr (Or.inr ⟨rfl, h1⟩)

theorem d1_0 : decode method_3_code 0 = .ok (.iload_n 2, 1) := by decide +kernel
theorem d1_1 : decode method_3_code 1 = .ok (.iconst 3, 1) := by decide +kernel
theorem d1_2 : decode method_3_code 2 = .ok (.iand, 1) := by decide +kernel
theorem d1_3 : decode method_3_code 3 = .ok (.istore_n 3, 1) := by decide +kernel
theorem d1_4 : decode method_3_code 4 = .ok (.iload_n 3, 1) := by decide +kernel
theorem d1_5 : decode method_3_code 5 = .ok (.ifCond .ne 5, 3) := by decide +kernel
theorem d1_8 : decode method_3_code 8 = .ok (.lload_n 0, 1) := by decide +kernel
theorem d1_9 : decode method_3_code 9 = .ok (.lreturn, 1) := by decide +kernel
theorem d1_10 : decode method_3_code 10 = .ok (.iload_n 3, 1) := by decide +kernel
theorem d1_11 : decode method_3_code 11 = .ok (.iconst 1, 1) := by decide +kernel
theorem d1_12 : decode method_3_code 12 = .ok (.if_icmp .ne 9, 3) := by decide +kernel
theorem d1_15 : decode method_3_code 15 = .ok (.lload_n 0, 1) := by decide +kernel
theorem d1_16 : decode method_3_code 16 = .ok (.ldc2_w 32, 3) := by decide +kernel
theorem d1_19 : decode method_3_code 19 = .ok (.land, 1) := by decide +kernel
theorem d1_20 : decode method_3_code 20 = .ok (.lreturn, 1) := by decide +kernel
theorem d1_21 : decode method_3_code 21 = .ok (.iload_n 3, 1) := by decide +kernel
theorem d1_22 : decode method_3_code 22 = .ok (.iconst 2, 1) := by decide +kernel
theorem d1_23 : decode method_3_code 23 = .ok (.if_icmp .ne 9, 3) := by decide +kernel
theorem d1_26 : decode method_3_code 26 = .ok (.lload_n 0, 1) := by decide +kernel
theorem d1_27 : decode method_3_code 27 = .ok (.ldc2_w 34, 3) := by decide +kernel
theorem d1_30 : decode method_3_code 30 = .ok (.land, 1) := by decide +kernel
theorem d1_31 : decode method_3_code 31 = .ok (.lreturn, 1) := by decide +kernel
theorem d1_32 : decode method_3_code 32 = .ok (.lload_n 0, 1) := by decide +kernel
theorem d1_33 : decode method_3_code 33 = .ok (.ldc2_w 36, 3) := by decide +kernel
theorem d1_36 : decode method_3_code 36 = .ok (.land, 1) := by decide +kernel
theorem d1_37 : decode method_3_code 37 = .ok (.lreturn, 1) := by decide +kernel
theorem d2_0 : decode prog_71_method_1_code 0 = .ok (.aload_n 0, 1) := by decide +kernel
theorem d2_1 : decode prog_71_method_1_code 1 = .ok (.invokespecial 3, 3) := by decide +kernel
theorem d2_4 : decode prog_71_method_1_code 4 = .ok (.aload_n 0, 1) := by decide +kernel
theorem d2_5 : decode prog_71_method_1_code 5 = .ok (.bipush 64, 2) := by decide +kernel
theorem d2_7 : decode prog_71_method_1_code 7 = .ok (.newarray .long, 2) := by decide +kernel
theorem d2_9 : decode prog_71_method_1_code 9 = .ok (.putfield 9, 3) := by decide +kernel
theorem d2_12 : decode prog_71_method_1_code 12 = .ok (.aload_n 0, 1) := by decide +kernel
theorem d2_13 : decode prog_71_method_1_code 13 = .ok (.iconst 1, 1) := by decide +kernel
theorem d2_14 : decode prog_71_method_1_code 14 = .ok (.putfield 15, 3) := by decide +kernel
theorem d2_17 : decode prog_71_method_1_code 17 = .ok (.return_, 1) := by decide +kernel
theorem d4_0 : decode prog_71_method_3_code 0 = .ok (.lload_n 1, 1) := by decide +kernel
theorem d4_1 : decode prog_71_method_3_code 1 = .ok (.lconst 0, 1) := by decide +kernel
theorem d4_2 : decode prog_71_method_3_code 2 = .ok (.lcmp, 1) := by decide +kernel
theorem d4_3 : decode prog_71_method_3_code 3 = .ok (.ifCond .le 72, 3) := by decide +kernel
theorem d4_6 : decode prog_71_method_3_code 6 = .ok (.lload_n 1, 1) := by decide +kernel
theorem d4_7 : decode prog_71_method_3_code 7 = .ok (.ldc2_w 23, 3) := by decide +kernel
theorem d4_10 : decode prog_71_method_3_code 10 = .ok (.lcmp, 1) := by decide +kernel
theorem d4_11 : decode prog_71_method_3_code 11 = .ok (.ifCond .gt 64, 3) := by decide +kernel
theorem d4_14 : decode prog_71_method_3_code 14 = .ok (.aload_n 0, 1) := by decide +kernel
theorem d4_15 : decode prog_71_method_3_code 15 = .ok (.getfield 19, 3) := by decide +kernel
theorem d4_18 : decode prog_71_method_3_code 18 = .ok (.aload_n 0, 1) := by decide +kernel
theorem d4_19 : decode prog_71_method_3_code 19 = .ok (.getfield 9, 3) := by decide +kernel
theorem d4_22 : decode prog_71_method_3_code 22 = .ok (.arraylength, 1) := by decide +kernel
theorem d4_23 : decode prog_71_method_3_code 23 = .ok (.if_icmp .ne 20, 3) := by decide +kernel
theorem d4_26 : decode prog_71_method_3_code 26 = .ok (.aload_n 0, 1) := by decide +kernel
theorem d4_27 : decode prog_71_method_3_code 27 = .ok (.aload_n 0, 1) := by decide +kernel
theorem d4_28 : decode prog_71_method_3_code 28 = .ok (.getfield 9, 3) := by decide +kernel
theorem d4_31 : decode prog_71_method_3_code 31 = .ok (.iconst 2, 1) := by decide +kernel
theorem d4_32 : decode prog_71_method_3_code 32 = .ok (.aload_n 0, 1) := by decide +kernel
theorem d4_33 : decode prog_71_method_3_code 33 = .ok (.getfield 19, 3) := by decide +kernel
theorem d4_36 : decode prog_71_method_3_code 36 = .ok (.imul, 1) := by decide +kernel
theorem d4_37 : decode prog_71_method_3_code 37 = .ok (.invokestatic 25, 3) := by decide +kernel
theorem d4_40 : decode prog_71_method_3_code 40 = .ok (.putfield 9, 3) := by decide +kernel
theorem d4_43 : decode prog_71_method_3_code 43 = .ok (.aload_n 0, 1) := by decide +kernel
theorem d4_44 : decode prog_71_method_3_code 44 = .ok (.getfield 9, 3) := by decide +kernel
theorem d4_47 : decode prog_71_method_3_code 47 = .ok (.aload_n 0, 1) := by decide +kernel
theorem d4_48 : decode prog_71_method_3_code 48 = .ok (.dup, 1) := by decide +kernel
theorem d4_49 : decode prog_71_method_3_code 49 = .ok (.getfield 19, 3) := by decide +kernel
theorem d4_52 : decode prog_71_method_3_code 52 = .ok (.dup_x1, 1) := by decide +kernel
theorem d4_53 : decode prog_71_method_3_code 53 = .ok (.iconst 1, 1) := by decide +kernel
theorem d4_54 : decode prog_71_method_3_code 54 = .ok (.iadd, 1) := by decide +kernel
theorem d4_55 : decode prog_71_method_3_code 55 = .ok (.putfield 19, 3) := by decide +kernel
theorem d4_58 : decode prog_71_method_3_code 58 = .ok (.lload_n 1, 1) := by decide +kernel
theorem d4_59 : decode prog_71_method_3_code 59 = .ok (.bipush 32, 2) := by decide +kernel
theorem d4_61 : decode prog_71_method_3_code 61 = .ok (.lshl, 1) := by decide +kernel
theorem d4_62 : decode prog_71_method_3_code 62 = .ok (.iload_n 3, 1) := by decide +kernel
theorem d4_63 : decode prog_71_method_3_code 63 = .ok (.i2l, 1) := by decide +kernel
theorem d4_64 : decode prog_71_method_3_code 64 = .ok (.ldc2_w 31, 3) := by decide +kernel
theorem d4_67 : decode prog_71_method_3_code 67 = .ok (.land, 1) := by decide +kernel
theorem d4_68 : decode prog_71_method_3_code 68 = .ok (.lor, 1) := by decide +kernel
theorem d4_69 : decode prog_71_method_3_code 69 = .ok (.lastore, 1) := by decide +kernel
theorem d4_70 : decode prog_71_method_3_code 70 = .ok (.aload_n 0, 1) := by decide +kernel
theorem d4_71 : decode prog_71_method_3_code 71 = .ok (.iconst 0, 1) := by decide +kernel
theorem d4_72 : decode prog_71_method_3_code 72 = .ok (.putfield 15, 3) := by decide +kernel
theorem d4_75 : decode prog_71_method_3_code 75 = .ok (.return_, 1) := by decide +kernel
theorem d5_0 : decode prog_71_method_4_code 0 = .ok (.ldc 33, 2) := by decide +kernel
theorem d5_2 : decode prog_71_method_4_code 2 = .ok (.istore_n 3, 1) := by decide +kernel
theorem d5_3 : decode prog_71_method_4_code 3 = .ok (.lload_n 1, 1) := by decide +kernel
theorem d5_4 : decode prog_71_method_4_code 4 = .ok (.lconst 0, 1) := by decide +kernel
theorem d5_5 : decode prog_71_method_4_code 5 = .ok (.lcmp, 1) := by decide +kernel
theorem d5_6 : decode prog_71_method_4_code 6 = .ok (.ifCond .le 103, 3) := by decide +kernel
theorem d5_9 : decode prog_71_method_4_code 9 = .ok (.lload_n 1, 1) := by decide +kernel
theorem d5_10 : decode prog_71_method_4_code 10 = .ok (.ldc2_w 23, 3) := by decide +kernel
theorem d5_13 : decode prog_71_method_4_code 13 = .ok (.lcmp, 1) := by decide +kernel
theorem d5_14 : decode prog_71_method_4_code 14 = .ok (.ifCond .gt 95, 3) := by decide +kernel
theorem d5_17 : decode prog_71_method_4_code 17 = .ok (.aload_n 0, 1) := by decide +kernel
theorem d5_18 : decode prog_71_method_4_code 18 = .ok (.getfield 15, 3) := by decide +kernel
theorem d5_21 : decode prog_71_method_4_code 21 = .ok (.ifCond .ne 20, 3) := by decide +kernel
theorem d5_24 : decode prog_71_method_4_code 24 = .ok (.aload_n 0, 1) := by decide +kernel
theorem d5_25 : decode prog_71_method_4_code 25 = .ok (.getfield 9, 3) := by decide +kernel
theorem d5_28 : decode prog_71_method_4_code 28 = .ok (.iconst 0, 1) := by decide +kernel
theorem d5_29 : decode prog_71_method_4_code 29 = .ok (.aload_n 0, 1) := by decide +kernel
theorem d5_30 : decode prog_71_method_4_code 30 = .ok (.getfield 19, 3) := by decide +kernel
theorem d5_33 : decode prog_71_method_4_code 33 = .ok (.invokestatic 34, 3) := by decide +kernel
theorem d5_36 : decode prog_71_method_4_code 36 = .ok (.aload_n 0, 1) := by decide +kernel
theorem d5_37 : decode prog_71_method_4_code 37 = .ok (.iconst 1, 1) := by decide +kernel
theorem d5_38 : decode prog_71_method_4_code 38 = .ok (.putfield 15, 3) := by decide +kernel
theorem d5_41 : decode prog_71_method_4_code 41 = .ok (.aload_n 0, 1) := by decide +kernel
theorem d5_42 : decode prog_71_method_4_code 42 = .ok (.getfield 9, 3) := by decide +kernel
theorem d5_45 : decode prog_71_method_4_code 45 = .ok (.iconst 0, 1) := by decide +kernel
theorem d5_46 : decode prog_71_method_4_code 46 = .ok (.aload_n 0, 1) := by decide +kernel
theorem d5_47 : decode prog_71_method_4_code 47 = .ok (.getfield 19, 3) := by decide +kernel
theorem d5_50 : decode prog_71_method_4_code 50 = .ok (.lload_n 1, 1) := by decide +kernel
theorem d5_51 : decode prog_71_method_4_code 51 = .ok (.bipush 32, 2) := by decide +kernel
theorem d5_53 : decode prog_71_method_4_code 53 = .ok (.lshl, 1) := by decide +kernel
theorem d5_54 : decode prog_71_method_4_code 54 = .ok (.invokestatic 38, 3) := by decide +kernel
theorem d5_57 : decode prog_71_method_4_code 57 = .ok (.istore 4, 2) := by decide +kernel
theorem d5_59 : decode prog_71_method_4_code 59 = .ok (.iload 4, 2) := by decide +kernel
theorem d5_61 : decode prog_71_method_4_code 61 = .ok (.ifCond .lt 8, 3) := by decide +kernel
theorem d5_64 : decode prog_71_method_4_code 64 = .ok (.iload 4, 2) := by decide +kernel
theorem d5_66 : decode prog_71_method_4_code 66 = .ok (.goto 8, 3) := by decide +kernel
theorem d5_69 : decode prog_71_method_4_code 69 = .ok (.iload 4, 2) := by decide +kernel
theorem d5_71 : decode prog_71_method_4_code 71 = .ok (.ineg, 1) := by decide +kernel
theorem d5_72 : decode prog_71_method_4_code 72 = .ok (.iconst 1, 1) := by decide +kernel
theorem d5_73 : decode prog_71_method_4_code 73 = .ok (.isub, 1) := by decide +kernel
theorem d5_74 : decode prog_71_method_4_code 74 = .ok (.istore 4, 2) := by decide +kernel
theorem d5_76 : decode prog_71_method_4_code 76 = .ok (.iload 4, 2) := by decide +kernel
theorem d5_78 : decode prog_71_method_4_code 78 = .ok (.aload_n 0, 1) := by decide +kernel
theorem d5_79 : decode prog_71_method_4_code 79 = .ok (.getfield 19, 3) := by decide +kernel
theorem d5_82 : decode prog_71_method_4_code 82 = .ok (.if_icmp .ge 27, 3) := by decide +kernel
theorem d5_85 : decode prog_71_method_4_code 85 = .ok (.aload_n 0, 1) := by decide +kernel
theorem d5_86 : decode prog_71_method_4_code 86 = .ok (.getfield 9, 3) := by decide +kernel
theorem d5_89 : decode prog_71_method_4_code 89 = .ok (.iload 4, 2) := by decide +kernel
theorem d5_91 : decode prog_71_method_4_code 91 = .ok (.laload, 1) := by decide +kernel
theorem d5_92 : decode prog_71_method_4_code 92 = .ok (.bipush 32, 2) := by decide +kernel
theorem d5_94 : decode prog_71_method_4_code 94 = .ok (.lushr, 1) := by decide +kernel
theorem d5_95 : decode prog_71_method_4_code 95 = .ok (.lload_n 1, 1) := by decide +kernel
theorem d5_96 : decode prog_71_method_4_code 96 = .ok (.lcmp, 1) := by decide +kernel
theorem d5_97 : decode prog_71_method_4_code 97 = .ok (.ifCond .ne 12, 3) := by decide +kernel
theorem d5_100 : decode prog_71_method_4_code 100 = .ok (.aload_n 0, 1) := by decide +kernel
theorem d5_101 : decode prog_71_method_4_code 101 = .ok (.getfield 9, 3) := by decide +kernel
theorem d5_104 : decode prog_71_method_4_code 104 = .ok (.iload 4, 2) := by decide +kernel
theorem d5_106 : decode prog_71_method_4_code 106 = .ok (.laload, 1) := by decide +kernel
theorem d5_107 : decode prog_71_method_4_code 107 = .ok (.l2i, 1) := by decide +kernel
theorem d5_108 : decode prog_71_method_4_code 108 = .ok (.istore_n 3, 1) := by decide +kernel
theorem d5_109 : decode prog_71_method_4_code 109 = .ok (.iload_n 3, 1) := by decide +kernel
theorem d5_110 : decode prog_71_method_4_code 110 = .ok (.ireturn, 1) := by decide +kernel
theorem d6_0 : decode jdk_65_method_5_code 0 = .ok (.aload_n 0, 1) := by decide +kernel
theorem d6_1 : decode jdk_65_method_5_code 1 = .ok (.arraylength, 1) := by decide +kernel
theorem d6_2 : decode jdk_65_method_5_code 2 = .ok (.iload_n 1, 1) := by decide +kernel
theorem d6_3 : decode jdk_65_method_5_code 3 = .ok (.iload_n 2, 1) := by decide +kernel
theorem d6_4 : decode jdk_65_method_5_code 4 = .ok (.invokestatic 13, 3) := by decide +kernel
theorem d6_7 : decode jdk_65_method_5_code 7 = .ok (.aload_n 0, 1) := by decide +kernel
theorem d6_8 : decode jdk_65_method_5_code 8 = .ok (.iconst 0, 1) := by decide +kernel
theorem d6_9 : decode jdk_65_method_5_code 9 = .ok (.iload_n 1, 1) := by decide +kernel
theorem d6_10 : decode jdk_65_method_5_code 10 = .ok (.iload_n 2, 1) := by decide +kernel
theorem d6_11 : decode jdk_65_method_5_code 11 = .ok (.invokestatic 19, 3) := by decide +kernel
theorem d6_14 : decode jdk_65_method_5_code 14 = .ok (.return_, 1) := by decide +kernel
theorem d7_0 : decode jdk_65_method_30_code 0 = .ok (.iload_n 1, 1) := by decide +kernel
theorem d7_1 : decode jdk_65_method_30_code 1 = .ok (.iload_n 2, 1) := by decide +kernel
theorem d7_2 : decode jdk_65_method_30_code 2 = .ok (.if_icmp .le 44, 3) := by decide +kernel
theorem d7_5 : decode jdk_65_method_30_code 5 = .ok (.new 43, 3) := by decide +kernel
theorem d7_8 : decode jdk_65_method_30_code 8 = .ok (.dup, 1) := by decide +kernel
theorem d7_9 : decode jdk_65_method_30_code 9 = .ok (.new 45, 3) := by decide +kernel
theorem d7_12 : decode jdk_65_method_30_code 12 = .ok (.dup, 1) := by decide +kernel
theorem d7_13 : decode jdk_65_method_30_code 13 = .ok (.invokespecial 47, 3) := by decide +kernel
theorem d7_16 : decode jdk_65_method_30_code 16 = .ok (.ldc 48, 2) := by decide +kernel
theorem d7_18 : decode jdk_65_method_30_code 18 = .ok (.invokevirtual 50, 3) := by decide +kernel
theorem d7_21 : decode jdk_65_method_30_code 21 = .ok (.iload_n 1, 1) := by decide +kernel
theorem d7_22 : decode jdk_65_method_30_code 22 = .ok (.invokevirtual 54, 3) := by decide +kernel
theorem d7_25 : decode jdk_65_method_30_code 25 = .ok (.ldc 57, 2) := by decide +kernel
theorem d7_27 : decode jdk_65_method_30_code 27 = .ok (.invokevirtual 50, 3) := by decide +kernel
theorem d7_30 : decode jdk_65_method_30_code 30 = .ok (.iload_n 2, 1) := by decide +kernel
theorem d7_31 : decode jdk_65_method_30_code 31 = .ok (.invokevirtual 54, 3) := by decide +kernel
theorem d7_34 : decode jdk_65_method_30_code 34 = .ok (.ldc 59, 2) := by decide +kernel
theorem d7_36 : decode jdk_65_method_30_code 36 = .ok (.invokevirtual 50, 3) := by decide +kernel
theorem d7_39 : decode jdk_65_method_30_code 39 = .ok (.invokevirtual 61, 3) := by decide +kernel
theorem d7_42 : decode jdk_65_method_30_code 42 = .ok (.invokespecial 65, 3) := by decide +kernel
theorem d7_45 : decode jdk_65_method_30_code 45 = .ok (.athrow, 1) := by decide +kernel
theorem d7_46 : decode jdk_65_method_30_code 46 = .ok (.iload_n 1, 1) := by decide +kernel
theorem d7_47 : decode jdk_65_method_30_code 47 = .ok (.ifCond .ge 12, 3) := by decide +kernel
theorem d7_50 : decode jdk_65_method_30_code 50 = .ok (.new 68, 3) := by decide +kernel
theorem d7_53 : decode jdk_65_method_30_code 53 = .ok (.dup, 1) := by decide +kernel
theorem d7_54 : decode jdk_65_method_30_code 54 = .ok (.iload_n 1, 1) := by decide +kernel
theorem d7_55 : decode jdk_65_method_30_code 55 = .ok (.invokespecial 70, 3) := by decide +kernel
theorem d7_58 : decode jdk_65_method_30_code 58 = .ok (.athrow, 1) := by decide +kernel
theorem d7_59 : decode jdk_65_method_30_code 59 = .ok (.iload_n 2, 1) := by decide +kernel
theorem d7_60 : decode jdk_65_method_30_code 60 = .ok (.iload_n 0, 1) := by decide +kernel
theorem d7_61 : decode jdk_65_method_30_code 61 = .ok (.if_icmp .le 12, 3) := by decide +kernel
theorem d7_64 : decode jdk_65_method_30_code 64 = .ok (.new 68, 3) := by decide +kernel
theorem d7_67 : decode jdk_65_method_30_code 67 = .ok (.dup, 1) := by decide +kernel
theorem d7_68 : decode jdk_65_method_30_code 68 = .ok (.iload_n 2, 1) := by decide +kernel
theorem d7_69 : decode jdk_65_method_30_code 69 = .ok (.invokespecial 70, 3) := by decide +kernel
theorem d7_72 : decode jdk_65_method_30_code 72 = .ok (.athrow, 1) := by decide +kernel
theorem d7_73 : decode jdk_65_method_30_code 73 = .ok (.return_, 1) := by decide +kernel
theorem d8_0 : decode jdk_2529_method_12_code 0 = .ok (.iload_n 3, 1) := by decide +kernel
theorem d8_1 : decode jdk_2529_method_12_code 1 = .ok (.iload_n 2, 1) := by decide +kernel
theorem d8_2 : decode jdk_2529_method_12_code 2 = .ok (.isub, 1) := by decide +kernel
theorem d8_3 : decode jdk_2529_method_12_code 3 = .ok (.istore 4, 2) := by decide +kernel
theorem d8_5 : decode jdk_2529_method_12_code 5 = .ok (.iload_n 1, 1) := by decide +kernel
theorem d8_6 : decode jdk_2529_method_12_code 6 = .ok (.iconst 1, 1) := by decide +kernel
theorem d8_7 : decode jdk_2529_method_12_code 7 = .ok (.if_icmp .le 61, 3) := by decide +kernel
theorem d8_10 : decode jdk_2529_method_12_code 10 = .ok (.iload 4, 2) := by decide +kernel
theorem d8_12 : decode jdk_2529_method_12_code 12 = .ok (.sipush 4096, 3) := by decide +kernel
theorem d8_15 : decode jdk_2529_method_12_code 15 = .ok (.if_icmp .le 53, 3) := by decide +kernel
theorem d8_18 : decode jdk_2529_method_12_code 18 = .ok (.iload_n 1, 1) := by decide +kernel
theorem d8_19 : decode jdk_2529_method_12_code 19 = .ok (.iload 4, 2) := by decide +kernel
theorem d8_21 : decode jdk_2529_method_12_code 21 = .ok (.bipush 12, 2) := by decide +kernel
theorem d8_23 : decode jdk_2529_method_12_code 23 = .ok (.ishr, 1) := by decide +kernel
theorem d8_24 : decode jdk_2529_method_12_code 24 = .ok (.invokestatic 13, 3) := by decide +kernel
theorem d8_27 : decode jdk_2529_method_12_code 27 = .ok (.istore 5, 2) := by decide +kernel
theorem d8_29 : decode jdk_2529_method_12_code 29 = .ok (.iload 5, 2) := by decide +kernel
theorem d8_31 : decode jdk_2529_method_12_code 31 = .ok (.ifCond .ne 7, 3) := by decide +kernel
theorem d8_34 : decode jdk_2529_method_12_code 34 = .ok (.aconst_null, 1) := by decide +kernel
theorem d8_35 : decode jdk_2529_method_12_code 35 = .ok (.goto 7, 3) := by decide +kernel
theorem d8_38 : decode jdk_2529_method_12_code 38 = .ok (.iload 4, 2) := by decide +kernel
theorem d8_40 : decode jdk_2529_method_12_code 40 = .ok (.newarray .long, 2) := by decide +kernel
theorem d8_42 : decode jdk_2529_method_12_code 42 = .ok (.astore 6, 2) := by decide +kernel
theorem d8_44 : decode jdk_2529_method_12_code 44 = .ok (.new 17, 3) := by decide +kernel
theorem d8_47 : decode jdk_2529_method_12_code 47 = .ok (.dup, 1) := by decide +kernel
theorem d8_48 : decode jdk_2529_method_12_code 48 = .ok (.aconst_null, 1) := by decide +kernel
theorem d8_49 : decode jdk_2529_method_12_code 49 = .ok (.aload_n 0, 1) := by decide +kernel
theorem d8_50 : decode jdk_2529_method_12_code 50 = .ok (.aload 6, 2) := by decide +kernel
theorem d8_52 : decode jdk_2529_method_12_code 52 = .ok (.iload_n 2, 1) := by decide +kernel
theorem d8_53 : decode jdk_2529_method_12_code 53 = .ok (.iload 4, 2) := by decide +kernel
theorem d8_55 : decode jdk_2529_method_12_code 55 = .ok (.iload_n 2, 1) := by decide +kernel
theorem d8_56 : decode jdk_2529_method_12_code 56 = .ok (.iload 5, 2) := by decide +kernel
theorem d8_58 : decode jdk_2529_method_12_code 58 = .ok (.invokespecial 19, 3) := by decide +kernel
theorem d8_61 : decode jdk_2529_method_12_code 61 = .ok (.invokevirtual 22, 3) := by decide +kernel
theorem d8_64 : decode jdk_2529_method_12_code 64 = .ok (.pop, 1) := by decide +kernel
theorem d8_65 : decode jdk_2529_method_12_code 65 = .ok (.goto 11, 3) := by decide +kernel
theorem d8_68 : decode jdk_2529_method_12_code 68 = .ok (.aconst_null, 1) := by decide +kernel
theorem d8_69 : decode jdk_2529_method_12_code 69 = .ok (.aload_n 0, 1) := by decide +kernel
theorem d8_70 : decode jdk_2529_method_12_code 70 = .ok (.iconst 0, 1) := by decide +kernel
theorem d8_71 : decode jdk_2529_method_12_code 71 = .ok (.iload_n 2, 1) := by decide +kernel
theorem d8_72 : decode jdk_2529_method_12_code 72 = .ok (.iload_n 3, 1) := by decide +kernel
theorem d8_73 : decode jdk_2529_method_12_code 73 = .ok (.invokestatic 99, 3) := by decide +kernel
theorem d8_76 : decode jdk_2529_method_12_code 76 = .ok (.return_, 1) := by decide +kernel
theorem d9_0 : decode jdk_2529_method_13_code 0 = .ok (.iload 4, 2) := by decide +kernel
theorem d9_2 : decode jdk_2529_method_13_code 2 = .ok (.iconst 1, 1) := by decide +kernel
theorem d9_3 : decode jdk_2529_method_13_code 3 = .ok (.isub, 1) := by decide +kernel
theorem d9_4 : decode jdk_2529_method_13_code 4 = .ok (.istore 5, 2) := by decide +kernel
theorem d9_6 : decode jdk_2529_method_13_code 6 = .ok (.iload 4, 2) := by decide +kernel
theorem d9_8 : decode jdk_2529_method_13_code 8 = .ok (.iload_n 3, 1) := by decide +kernel
theorem d9_9 : decode jdk_2529_method_13_code 9 = .ok (.isub, 1) := by decide +kernel
theorem d9_10 : decode jdk_2529_method_13_code 10 = .ok (.istore 6, 2) := by decide +kernel
theorem d9_12 : decode jdk_2529_method_13_code 12 = .ok (.iload 6, 2) := by decide +kernel
theorem d9_14 : decode jdk_2529_method_13_code 14 = .ok (.bipush 65, 2) := by decide +kernel
theorem d9_16 : decode jdk_2529_method_13_code 16 = .ok (.iload_n 2, 1) := by decide +kernel
theorem d9_17 : decode jdk_2529_method_13_code 17 = .ok (.iadd, 1) := by decide +kernel
theorem d9_18 : decode jdk_2529_method_13_code 18 = .ok (.if_icmp .ge 28, 3) := by decide +kernel
theorem d9_21 : decode jdk_2529_method_13_code 21 = .ok (.iload_n 2, 1) := by decide +kernel
theorem d9_22 : decode jdk_2529_method_13_code 22 = .ok (.iconst 1, 1) := by decide +kernel
theorem d9_23 : decode jdk_2529_method_13_code 23 = .ok (.iand, 1) := by decide +kernel
theorem d9_24 : decode jdk_2529_method_13_code 24 = .ok (.ifCond .le 22, 3) := by decide +kernel
theorem d9_27 : decode jdk_2529_method_13_code 27 = .ok (.aload_n 1, 1) := by decide +kernel
theorem d9_28 : decode jdk_2529_method_13_code 28 = .ok (.iload_n 3, 1) := by decide +kernel
theorem d9_29 : decode jdk_2529_method_13_code 29 = .ok (.iload 4, 2) := by decide +kernel
theorem d9_31 : decode jdk_2529_method_13_code 31 = .ok (.iconst 3, 1) := by decide +kernel
theorem d9_32 : decode jdk_2529_method_13_code 32 = .ok (.iload 6, 2) := by decide +kernel
theorem d9_34 : decode jdk_2529_method_13_code 34 = .ok (.iconst 5, 1) := by decide +kernel
theorem d9_35 : decode jdk_2529_method_13_code 35 = .ok (.ishr, 1) := by decide +kernel
theorem d9_36 : decode jdk_2529_method_13_code 36 = .ok (.iconst 3, 1) := by decide +kernel
theorem d9_37 : decode jdk_2529_method_13_code 37 = .ok (.ishl, 1) := by decide +kernel
theorem d9_38 : decode jdk_2529_method_13_code 38 = .ok (.imul, 1) := by decide +kernel
theorem d9_39 : decode jdk_2529_method_13_code 39 = .ok (.isub, 1) := by decide +kernel
theorem d9_40 : decode jdk_2529_method_13_code 40 = .ok (.iload 4, 2) := by decide +kernel
theorem d9_42 : decode jdk_2529_method_13_code 42 = .ok (.invokestatic 102, 3) := by decide +kernel
theorem d9_45 : decode jdk_2529_method_13_code 45 = .ok (.return_, 1) := by decide +kernel
theorem d9_46 : decode jdk_2529_method_13_code 46 = .ok (.iload 6, 2) := by decide +kernel
theorem d9_48 : decode jdk_2529_method_13_code 48 = .ok (.bipush 44, 2) := by decide +kernel
theorem d9_50 : decode jdk_2529_method_13_code 50 = .ok (.if_icmp .ge 11, 3) := by decide +kernel
theorem d9_53 : decode jdk_2529_method_13_code 53 = .ok (.aload_n 1, 1) := by decide +kernel
theorem d9_54 : decode jdk_2529_method_13_code 54 = .ok (.iload_n 3, 1) := by decide +kernel
theorem d9_55 : decode jdk_2529_method_13_code 55 = .ok (.iload 4, 2) := by decide +kernel
theorem d9_57 : decode jdk_2529_method_13_code 57 = .ok (.invokestatic 105, 3) := by decide +kernel
theorem d9_60 : decode jdk_2529_method_13_code 60 = .ok (.return_, 1) := by decide +kernel
theorem d9_61 : decode jdk_2529_method_13_code 61 = .ok (.iload_n 2, 1) := by decide +kernel
theorem d9_62 : decode jdk_2529_method_13_code 62 = .ok (.ifCond .eq 17, 3) := by decide +kernel
theorem d9_65 : decode jdk_2529_method_13_code 65 = .ok (.iload 6, 2) := by decide +kernel
theorem d9_67 : decode jdk_2529_method_13_code 67 = .ok (.sipush 4096, 3) := by decide +kernel
theorem d9_70 : decode jdk_2529_method_13_code 70 = .ok (.if_icmp .le 21, 3) := by decide +kernel
theorem d9_73 : decode jdk_2529_method_13_code 73 = .ok (.iload_n 2, 1) := by decide +kernel
theorem d9_74 : decode jdk_2529_method_13_code 74 = .ok (.iconst 1, 1) := by decide +kernel
theorem d9_75 : decode jdk_2529_method_13_code 75 = .ok (.iand, 1) := by decide +kernel
theorem d9_76 : decode jdk_2529_method_13_code 76 = .ok (.ifCond .le 15, 3) := by decide +kernel
theorem d9_79 : decode jdk_2529_method_13_code 79 = .ok (.aload_n 0, 1) := by decide +kernel
theorem d9_80 : decode jdk_2529_method_13_code 80 = .ok (.aload_n 1, 1) := by decide +kernel
theorem d9_81 : decode jdk_2529_method_13_code 81 = .ok (.iload_n 3, 1) := by decide +kernel
theorem d9_82 : decode jdk_2529_method_13_code 82 = .ok (.iload 6, 2) := by decide +kernel
theorem d9_84 : decode jdk_2529_method_13_code 84 = .ok (.invokestatic 108, 3) := by decide +kernel
theorem d9_87 : decode jdk_2529_method_13_code 87 = .ok (.ifCond .eq 4, 3) := by decide +kernel
theorem d9_90 : decode jdk_2529_method_13_code 90 = .ok (.return_, 1) := by decide +kernel
theorem d9_91 : decode jdk_2529_method_13_code 91 = .ok (.iinc 2 6, 3) := by decide +kernel
theorem d9_94 : decode jdk_2529_method_13_code 94 = .ok (.iload_n 2, 1) := by decide +kernel
theorem d9_95 : decode jdk_2529_method_13_code 95 = .ok (.sipush 384, 3) := by decide +kernel
theorem d9_98 : decode jdk_2529_method_13_code 98 = .ok (.if_icmp .le 11, 3) := by decide +kernel
theorem d9_101 : decode jdk_2529_method_13_code 101 = .ok (.aload_n 1, 1) := by decide +kernel
theorem d9_102 : decode jdk_2529_method_13_code 102 = .ok (.iload_n 3, 1) := by decide +kernel
theorem d9_103 : decode jdk_2529_method_13_code 103 = .ok (.iload 4, 2) := by decide +kernel
theorem d9_105 : decode jdk_2529_method_13_code 105 = .ok (.invokestatic 111, 3) := by decide +kernel
theorem d9_108 : decode jdk_2529_method_13_code 108 = .ok (.return_, 1) := by decide +kernel
theorem d9_109 : decode jdk_2529_method_13_code 109 = .ok (.iload 6, 2) := by decide +kernel
theorem d9_111 : decode jdk_2529_method_13_code 111 = .ok (.iconst 3, 1) := by decide +kernel
theorem d9_112 : decode jdk_2529_method_13_code 112 = .ok (.ishr, 1) := by decide +kernel
theorem d9_113 : decode jdk_2529_method_13_code 113 = .ok (.iconst 3, 1) := by decide +kernel
theorem d9_114 : decode jdk_2529_method_13_code 114 = .ok (.imul, 1) := by decide +kernel
theorem d9_115 : decode jdk_2529_method_13_code 115 = .ok (.iconst 3, 1) := by decide +kernel
theorem d9_116 : decode jdk_2529_method_13_code 116 = .ok (.iadd, 1) := by decide +kernel
theorem d9_117 : decode jdk_2529_method_13_code 117 = .ok (.istore 7, 2) := by decide +kernel
theorem d9_119 : decode jdk_2529_method_13_code 119 = .ok (.iload_n 3, 1) := by decide +kernel
theorem d9_120 : decode jdk_2529_method_13_code 120 = .ok (.iload 7, 2) := by decide +kernel
theorem d9_122 : decode jdk_2529_method_13_code 122 = .ok (.iadd, 1) := by decide +kernel
theorem d9_123 : decode jdk_2529_method_13_code 123 = .ok (.istore 8, 2) := by decide +kernel
theorem d9_125 : decode jdk_2529_method_13_code 125 = .ok (.iload 5, 2) := by decide +kernel
theorem d9_127 : decode jdk_2529_method_13_code 127 = .ok (.iload 7, 2) := by decide +kernel
theorem d9_129 : decode jdk_2529_method_13_code 129 = .ok (.isub, 1) := by decide +kernel
theorem d9_130 : decode jdk_2529_method_13_code 130 = .ok (.istore 9, 2) := by decide +kernel
theorem d9_132 : decode jdk_2529_method_13_code 132 = .ok (.iload 8, 2) := by decide +kernel
theorem d9_134 : decode jdk_2529_method_13_code 134 = .ok (.iload 9, 2) := by decide +kernel
theorem d9_136 : decode jdk_2529_method_13_code 136 = .ok (.iadd, 1) := by decide +kernel
theorem d9_137 : decode jdk_2529_method_13_code 137 = .ok (.iconst 1, 1) := by decide +kernel
theorem d9_138 : decode jdk_2529_method_13_code 138 = .ok (.iushr, 1) := by decide +kernel
theorem d9_139 : decode jdk_2529_method_13_code 139 = .ok (.istore 10, 2) := by decide +kernel
theorem d9_141 : decode jdk_2529_method_13_code 141 = .ok (.iload 8, 2) := by decide +kernel
theorem d9_143 : decode jdk_2529_method_13_code 143 = .ok (.iload 10, 2) := by decide +kernel
theorem d9_145 : decode jdk_2529_method_13_code 145 = .ok (.iadd, 1) := by decide +kernel
theorem d9_146 : decode jdk_2529_method_13_code 146 = .ok (.iconst 1, 1) := by decide +kernel
theorem d9_147 : decode jdk_2529_method_13_code 147 = .ok (.iushr, 1) := by decide +kernel
theorem d9_148 : decode jdk_2529_method_13_code 148 = .ok (.istore 11, 2) := by decide +kernel
theorem d9_150 : decode jdk_2529_method_13_code 150 = .ok (.iload 10, 2) := by decide +kernel
theorem d9_152 : decode jdk_2529_method_13_code 152 = .ok (.iload 9, 2) := by decide +kernel
theorem d9_154 : decode jdk_2529_method_13_code 154 = .ok (.iadd, 1) := by decide +kernel
theorem d9_155 : decode jdk_2529_method_13_code 155 = .ok (.iconst 1, 1) := by decide +kernel
theorem d9_156 : decode jdk_2529_method_13_code 156 = .ok (.iushr, 1) := by decide +kernel
theorem d9_157 : decode jdk_2529_method_13_code 157 = .ok (.istore 12, 2) := by decide +kernel
theorem d9_159 : decode jdk_2529_method_13_code 159 = .ok (.aload_n 1, 1) := by decide +kernel
theorem d9_160 : decode jdk_2529_method_13_code 160 = .ok (.iload 10, 2) := by decide +kernel
theorem d9_162 : decode jdk_2529_method_13_code 162 = .ok (.laload, 1) := by decide +kernel
theorem d9_163 : decode jdk_2529_method_13_code 163 = .ok (.lstore 13, 2) := by decide +kernel
theorem d9_165 : decode jdk_2529_method_13_code 165 = .ok (.aload_n 1, 1) := by decide +kernel
theorem d9_166 : decode jdk_2529_method_13_code 166 = .ok (.iload 9, 2) := by decide +kernel
theorem d9_168 : decode jdk_2529_method_13_code 168 = .ok (.laload, 1) := by decide +kernel
theorem d9_169 : decode jdk_2529_method_13_code 169 = .ok (.aload_n 1, 1) := by decide +kernel
theorem d9_170 : decode jdk_2529_method_13_code 170 = .ok (.iload 11, 2) := by decide +kernel
theorem d9_172 : decode jdk_2529_method_13_code 172 = .ok (.laload, 1) := by decide +kernel
theorem d9_173 : decode jdk_2529_method_13_code 173 = .ok (.lcmp, 1) := by decide +kernel
theorem d9_174 : decode jdk_2529_method_13_code 174 = .ok (.ifCond .ge 23, 3) := by decide +kernel
theorem d9_177 : decode jdk_2529_method_13_code 177 = .ok (.aload_n 1, 1) := by decide +kernel
theorem d9_178 : decode jdk_2529_method_13_code 178 = .ok (.iload 9, 2) := by decide +kernel
theorem d9_180 : decode jdk_2529_method_13_code 180 = .ok (.laload, 1) := by decide +kernel
theorem d9_181 : decode jdk_2529_method_13_code 181 = .ok (.lstore 15, 2) := by decide +kernel
theorem d9_183 : decode jdk_2529_method_13_code 183 = .ok (.aload_n 1, 1) := by decide +kernel
theorem d9_184 : decode jdk_2529_method_13_code 184 = .ok (.iload 9, 2) := by decide +kernel
theorem d9_186 : decode jdk_2529_method_13_code 186 = .ok (.aload_n 1, 1) := by decide +kernel
theorem d9_187 : decode jdk_2529_method_13_code 187 = .ok (.iload 11, 2) := by decide +kernel
theorem d9_189 : decode jdk_2529_method_13_code 189 = .ok (.laload, 1) := by decide +kernel
theorem d9_190 : decode jdk_2529_method_13_code 190 = .ok (.lastore, 1) := by decide +kernel
theorem d9_191 : decode jdk_2529_method_13_code 191 = .ok (.aload_n 1, 1) := by decide +kernel
theorem d9_192 : decode jdk_2529_method_13_code 192 = .ok (.iload 11, 2) := by decide +kernel
theorem d9_194 : decode jdk_2529_method_13_code 194 = .ok (.lload 15, 2) := by decide +kernel
theorem d9_196 : decode jdk_2529_method_13_code 196 = .ok (.lastore, 1) := by decide +kernel
theorem d9_197 : decode jdk_2529_method_13_code 197 = .ok (.aload_n 1, 1) := by decide +kernel
theorem d9_198 : decode jdk_2529_method_13_code 198 = .ok (.iload 12, 2) := by decide +kernel
theorem d9_200 : decode jdk_2529_method_13_code 200 = .ok (.laload, 1) := by decide +kernel
theorem d9_201 : decode jdk_2529_method_13_code 201 = .ok (.aload_n 1, 1) := by decide +kernel
theorem d9_202 : decode jdk_2529_method_13_code 202 = .ok (.iload 8, 2) := by decide +kernel
theorem d9_204 : decode jdk_2529_method_13_code 204 = .ok (.laload, 1) := by decide +kernel
theorem d9_205 : decode jdk_2529_method_13_code 205 = .ok (.lcmp, 1) := by decide +kernel
theorem d9_206 : decode jdk_2529_method_13_code 206 = .ok (.ifCond .ge 23, 3) := by decide +kernel
theorem d9_209 : decode jdk_2529_method_13_code 209 = .ok (.aload_n 1, 1) := by decide +kernel
theorem d9_210 : decode jdk_2529_method_13_code 210 = .ok (.iload 12, 2) := by decide +kernel
theorem d9_212 : decode jdk_2529_method_13_code 212 = .ok (.laload, 1) := by decide +kernel
theorem d9_213 : decode jdk_2529_method_13_code 213 = .ok (.lstore 15, 2) := by decide +kernel
theorem d9_215 : decode jdk_2529_method_13_code 215 = .ok (.aload_n 1, 1) := by decide +kernel
theorem d9_216 : decode jdk_2529_method_13_code 216 = .ok (.iload 12, 2) := by decide +kernel
theorem d9_218 : decode jdk_2529_method_13_code 218 = .ok (.aload_n 1, 1) := by decide +kernel
theorem d9_219 : decode jdk_2529_method_13_code 219 = .ok (.iload 8, 2) := by decide +kernel
theorem d9_221 : decode jdk_2529_method_13_code 221 = .ok (.laload, 1) := by decide +kernel
theorem d9_222 : decode jdk_2529_method_13_code 222 = .ok (.lastore, 1) := by decide +kernel
theorem d9_223 : decode jdk_2529_method_13_code 223 = .ok (.aload_n 1, 1) := by decide +kernel
theorem d9_224 : decode jdk_2529_method_13_code 224 = .ok (.iload 8, 2) := by decide +kernel
theorem d9_226 : decode jdk_2529_method_13_code 226 = .ok (.lload 15, 2) := by decide +kernel
theorem d9_228 : decode jdk_2529_method_13_code 228 = .ok (.lastore, 1) := by decide +kernel
theorem d9_229 : decode jdk_2529_method_13_code 229 = .ok (.aload_n 1, 1) := by decide +kernel
theorem d9_230 : decode jdk_2529_method_13_code 230 = .ok (.iload 9, 2) := by decide +kernel
theorem d9_232 : decode jdk_2529_method_13_code 232 = .ok (.laload, 1) := by decide +kernel
theorem d9_233 : decode jdk_2529_method_13_code 233 = .ok (.aload_n 1, 1) := by decide +kernel
theorem d9_234 : decode jdk_2529_method_13_code 234 = .ok (.iload 12, 2) := by decide +kernel
theorem d9_236 : decode jdk_2529_method_13_code 236 = .ok (.laload, 1) := by decide +kernel
theorem d9_237 : decode jdk_2529_method_13_code 237 = .ok (.lcmp, 1) := by decide +kernel
theorem d9_238 : decode jdk_2529_method_13_code 238 = .ok (.ifCond .ge 23, 3) := by decide +kernel
theorem d9_241 : decode jdk_2529_method_13_code 241 = .ok (.aload_n 1, 1) := by decide +kernel
theorem d9_242 : decode jdk_2529_method_13_code 242 = .ok (.iload 9, 2) := by decide +kernel
theorem d9_244 : decode jdk_2529_method_13_code 244 = .ok (.laload, 1) := by decide +kernel
theorem d9_245 : decode jdk_2529_method_13_code 245 = .ok (.lstore 15, 2) := by decide +kernel
theorem d9_247 : decode jdk_2529_method_13_code 247 = .ok (.aload_n 1, 1) := by decide +kernel
theorem d9_248 : decode jdk_2529_method_13_code 248 = .ok (.iload 9, 2) := by decide +kernel
theorem d9_250 : decode jdk_2529_method_13_code 250 = .ok (.aload_n 1, 1) := by decide +kernel
theorem d9_251 : decode jdk_2529_method_13_code 251 = .ok (.iload 12, 2) := by decide +kernel
theorem d9_253 : decode jdk_2529_method_13_code 253 = .ok (.laload, 1) := by decide +kernel
theorem d9_254 : decode jdk_2529_method_13_code 254 = .ok (.lastore, 1) := by decide +kernel
theorem d9_255 : decode jdk_2529_method_13_code 255 = .ok (.aload_n 1, 1) := by decide +kernel
theorem d9_256 : decode jdk_2529_method_13_code 256 = .ok (.iload 12, 2) := by decide +kernel
theorem d9_258 : decode jdk_2529_method_13_code 258 = .ok (.lload 15, 2) := by decide +kernel
theorem d9_260 : decode jdk_2529_method_13_code 260 = .ok (.lastore, 1) := by decide +kernel
theorem d9_261 : decode jdk_2529_method_13_code 261 = .ok (.aload_n 1, 1) := by decide +kernel
theorem d9_262 : decode jdk_2529_method_13_code 262 = .ok (.iload 11, 2) := by decide +kernel
theorem d9_264 : decode jdk_2529_method_13_code 264 = .ok (.laload, 1) := by decide +kernel
theorem d9_265 : decode jdk_2529_method_13_code 265 = .ok (.aload_n 1, 1) := by decide +kernel
theorem d9_266 : decode jdk_2529_method_13_code 266 = .ok (.iload 8, 2) := by decide +kernel
theorem d9_268 : decode jdk_2529_method_13_code 268 = .ok (.laload, 1) := by decide +kernel
theorem d9_269 : decode jdk_2529_method_13_code 269 = .ok (.lcmp, 1) := by decide +kernel
theorem d9_270 : decode jdk_2529_method_13_code 270 = .ok (.ifCond .ge 23, 3) := by decide +kernel
theorem d9_273 : decode jdk_2529_method_13_code 273 = .ok (.aload_n 1, 1) := by decide +kernel
theorem d9_274 : decode jdk_2529_method_13_code 274 = .ok (.iload 11, 2) := by decide +kernel
theorem d9_276 : decode jdk_2529_method_13_code 276 = .ok (.laload, 1) := by decide +kernel
theorem d9_277 : decode jdk_2529_method_13_code 277 = .ok (.lstore 15, 2) := by decide +kernel
theorem d9_279 : decode jdk_2529_method_13_code 279 = .ok (.aload_n 1, 1) := by decide +kernel
theorem d9_280 : decode jdk_2529_method_13_code 280 = .ok (.iload 11, 2) := by decide +kernel
theorem d9_282 : decode jdk_2529_method_13_code 282 = .ok (.aload_n 1, 1) := by decide +kernel
theorem d9_283 : decode jdk_2529_method_13_code 283 = .ok (.iload 8, 2) := by decide +kernel
theorem d9_285 : decode jdk_2529_method_13_code 285 = .ok (.laload, 1) := by decide +kernel
theorem d9_286 : decode jdk_2529_method_13_code 286 = .ok (.lastore, 1) := by decide +kernel
theorem d9_287 : decode jdk_2529_method_13_code 287 = .ok (.aload_n 1, 1) := by decide +kernel
theorem d9_288 : decode jdk_2529_method_13_code 288 = .ok (.iload 8, 2) := by decide +kernel
theorem d9_290 : decode jdk_2529_method_13_code 290 = .ok (.lload 15, 2) := by decide +kernel
theorem d9_292 : decode jdk_2529_method_13_code 292 = .ok (.lastore, 1) := by decide +kernel
theorem d9_293 : decode jdk_2529_method_13_code 293 = .ok (.aload_n 1, 1) := by decide +kernel
theorem d9_294 : decode jdk_2529_method_13_code 294 = .ok (.iload 12, 2) := by decide +kernel
theorem d9_296 : decode jdk_2529_method_13_code 296 = .ok (.laload, 1) := by decide +kernel
theorem d9_297 : decode jdk_2529_method_13_code 297 = .ok (.aload_n 1, 1) := by decide +kernel
theorem d9_298 : decode jdk_2529_method_13_code 298 = .ok (.iload 11, 2) := by decide +kernel
theorem d9_300 : decode jdk_2529_method_13_code 300 = .ok (.laload, 1) := by decide +kernel
theorem d9_301 : decode jdk_2529_method_13_code 301 = .ok (.lcmp, 1) := by decide +kernel
theorem d9_302 : decode jdk_2529_method_13_code 302 = .ok (.ifCond .ge 23, 3) := by decide +kernel
theorem d9_305 : decode jdk_2529_method_13_code 305 = .ok (.aload_n 1, 1) := by decide +kernel
theorem d9_306 : decode jdk_2529_method_13_code 306 = .ok (.iload 12, 2) := by decide +kernel
theorem d9_308 : decode jdk_2529_method_13_code 308 = .ok (.laload, 1) := by decide +kernel
theorem d9_309 : decode jdk_2529_method_13_code 309 = .ok (.lstore 15, 2) := by decide +kernel
theorem d9_311 : decode jdk_2529_method_13_code 311 = .ok (.aload_n 1, 1) := by decide +kernel
theorem d9_312 : decode jdk_2529_method_13_code 312 = .ok (.iload 12, 2) := by decide +kernel
theorem d9_314 : decode jdk_2529_method_13_code 314 = .ok (.aload_n 1, 1) := by decide +kernel
theorem d9_315 : decode jdk_2529_method_13_code 315 = .ok (.iload 11, 2) := by decide +kernel
theorem d9_317 : decode jdk_2529_method_13_code 317 = .ok (.laload, 1) := by decide +kernel
theorem d9_318 : decode jdk_2529_method_13_code 318 = .ok (.lastore, 1) := by decide +kernel
theorem d9_319 : decode jdk_2529_method_13_code 319 = .ok (.aload_n 1, 1) := by decide +kernel
theorem d9_320 : decode jdk_2529_method_13_code 320 = .ok (.iload 11, 2) := by decide +kernel
theorem d9_322 : decode jdk_2529_method_13_code 322 = .ok (.lload 15, 2) := by decide +kernel
theorem d9_324 : decode jdk_2529_method_13_code 324 = .ok (.lastore, 1) := by decide +kernel
theorem d9_325 : decode jdk_2529_method_13_code 325 = .ok (.lload 13, 2) := by decide +kernel
theorem d9_327 : decode jdk_2529_method_13_code 327 = .ok (.aload_n 1, 1) := by decide +kernel
theorem d9_328 : decode jdk_2529_method_13_code 328 = .ok (.iload 11, 2) := by decide +kernel
theorem d9_330 : decode jdk_2529_method_13_code 330 = .ok (.laload, 1) := by decide +kernel
theorem d9_331 : decode jdk_2529_method_13_code 331 = .ok (.lcmp, 1) := by decide +kernel
theorem d9_332 : decode jdk_2529_method_13_code 332 = .ok (.ifCond .ge 55, 3) := by decide +kernel
theorem d9_335 : decode jdk_2529_method_13_code 335 = .ok (.lload 13, 2) := by decide +kernel
theorem d9_337 : decode jdk_2529_method_13_code 337 = .ok (.aload_n 1, 1) := by decide +kernel
theorem d9_338 : decode jdk_2529_method_13_code 338 = .ok (.iload 8, 2) := by decide +kernel
theorem d9_340 : decode jdk_2529_method_13_code 340 = .ok (.laload, 1) := by decide +kernel
theorem d9_341 : decode jdk_2529_method_13_code 341 = .ok (.lcmp, 1) := by decide +kernel
theorem d9_342 : decode jdk_2529_method_13_code 342 = .ok (.ifCond .ge 28, 3) := by decide +kernel
theorem d9_345 : decode jdk_2529_method_13_code 345 = .ok (.aload_n 1, 1) := by decide +kernel
theorem d9_346 : decode jdk_2529_method_13_code 346 = .ok (.iload 10, 2) := by decide +kernel
theorem d9_348 : decode jdk_2529_method_13_code 348 = .ok (.aload_n 1, 1) := by decide +kernel
theorem d9_349 : decode jdk_2529_method_13_code 349 = .ok (.iload 11, 2) := by decide +kernel
theorem d9_351 : decode jdk_2529_method_13_code 351 = .ok (.laload, 1) := by decide +kernel
theorem d9_352 : decode jdk_2529_method_13_code 352 = .ok (.lastore, 1) := by decide +kernel
theorem d9_353 : decode jdk_2529_method_13_code 353 = .ok (.aload_n 1, 1) := by decide +kernel
theorem d9_354 : decode jdk_2529_method_13_code 354 = .ok (.iload 11, 2) := by decide +kernel
theorem d9_356 : decode jdk_2529_method_13_code 356 = .ok (.aload_n 1, 1) := by decide +kernel
theorem d9_357 : decode jdk_2529_method_13_code 357 = .ok (.iload 8, 2) := by decide +kernel
theorem d9_359 : decode jdk_2529_method_13_code 359 = .ok (.laload, 1) := by decide +kernel
theorem d9_360 : decode jdk_2529_method_13_code 360 = .ok (.lastore, 1) := by decide +kernel
theorem d9_361 : decode jdk_2529_method_13_code 361 = .ok (.aload_n 1, 1) := by decide +kernel
theorem d9_362 : decode jdk_2529_method_13_code 362 = .ok (.iload 8, 2) := by decide +kernel
theorem d9_364 : decode jdk_2529_method_13_code 364 = .ok (.lload 13, 2) := by decide +kernel
theorem d9_366 : decode jdk_2529_method_13_code 366 = .ok (.lastore, 1) := by decide +kernel
theorem d9_367 : decode jdk_2529_method_13_code 367 = .ok (.goto 79, 3) := by decide +kernel
theorem d9_370 : decode jdk_2529_method_13_code 370 = .ok (.aload_n 1, 1) := by decide +kernel
theorem d9_371 : decode jdk_2529_method_13_code 371 = .ok (.iload 10, 2) := by decide +kernel
theorem d9_373 : decode jdk_2529_method_13_code 373 = .ok (.aload_n 1, 1) := by decide +kernel
theorem d9_374 : decode jdk_2529_method_13_code 374 = .ok (.iload 11, 2) := by decide +kernel
theorem d9_376 : decode jdk_2529_method_13_code 376 = .ok (.laload, 1) := by decide +kernel
theorem d9_377 : decode jdk_2529_method_13_code 377 = .ok (.lastore, 1) := by decide +kernel
theorem d9_378 : decode jdk_2529_method_13_code 378 = .ok (.aload_n 1, 1) := by decide +kernel
theorem d9_379 : decode jdk_2529_method_13_code 379 = .ok (.iload 11, 2) := by decide +kernel
theorem d9_381 : decode jdk_2529_method_13_code 381 = .ok (.lload 13, 2) := by decide +kernel
theorem d9_383 : decode jdk_2529_method_13_code 383 = .ok (.lastore, 1) := by decide +kernel
theorem d9_384 : decode jdk_2529_method_13_code 384 = .ok (.goto 62, 3) := by decide +kernel
theorem d9_387 : decode jdk_2529_method_13_code 387 = .ok (.lload 13, 2) := by decide +kernel
theorem d9_389 : decode jdk_2529_method_13_code 389 = .ok (.aload_n 1, 1) := by decide +kernel
theorem d9_390 : decode jdk_2529_method_13_code 390 = .ok (.iload 12, 2) := by decide +kernel
theorem d9_392 : decode jdk_2529_method_13_code 392 = .ok (.laload, 1) := by decide +kernel
theorem d9_393 : decode jdk_2529_method_13_code 393 = .ok (.lcmp, 1) := by decide +kernel
theorem d9_394 : decode jdk_2529_method_13_code 394 = .ok (.ifCond .le 52, 3) := by decide +kernel
theorem d9_397 : decode jdk_2529_method_13_code 397 = .ok (.lload 13, 2) := by decide +kernel
theorem d9_399 : decode jdk_2529_method_13_code 399 = .ok (.aload_n 1, 1) := by decide +kernel
theorem d9_400 : decode jdk_2529_method_13_code 400 = .ok (.iload 9, 2) := by decide +kernel
theorem d9_402 : decode jdk_2529_method_13_code 402 = .ok (.laload, 1) := by decide +kernel
theorem d9_403 : decode jdk_2529_method_13_code 403 = .ok (.lcmp, 1) := by decide +kernel
theorem d9_404 : decode jdk_2529_method_13_code 404 = .ok (.ifCond .le 28, 3) := by decide +kernel
theorem d9_407 : decode jdk_2529_method_13_code 407 = .ok (.aload_n 1, 1) := by decide +kernel
theorem d9_408 : decode jdk_2529_method_13_code 408 = .ok (.iload 10, 2) := by decide +kernel
theorem d9_410 : decode jdk_2529_method_13_code 410 = .ok (.aload_n 1, 1) := by decide +kernel
theorem d9_411 : decode jdk_2529_method_13_code 411 = .ok (.iload 12, 2) := by decide +kernel
theorem d9_413 : decode jdk_2529_method_13_code 413 = .ok (.laload, 1) := by decide +kernel
theorem d9_414 : decode jdk_2529_method_13_code 414 = .ok (.lastore, 1) := by decide +kernel
theorem d9_415 : decode jdk_2529_method_13_code 415 = .ok (.aload_n 1, 1) := by decide +kernel
theorem d9_416 : decode jdk_2529_method_13_code 416 = .ok (.iload 12, 2) := by decide +kernel
theorem d9_418 : decode jdk_2529_method_13_code 418 = .ok (.aload_n 1, 1) := by decide +kernel
theorem d9_419 : decode jdk_2529_method_13_code 419 = .ok (.iload 9, 2) := by decide +kernel
theorem d9_421 : decode jdk_2529_method_13_code 421 = .ok (.laload, 1) := by decide +kernel
theorem d9_422 : decode jdk_2529_method_13_code 422 = .ok (.lastore, 1) := by decide +kernel
theorem d9_423 : decode jdk_2529_method_13_code 423 = .ok (.aload_n 1, 1) := by decide +kernel
theorem d9_424 : decode jdk_2529_method_13_code 424 = .ok (.iload 9, 2) := by decide +kernel
theorem d9_426 : decode jdk_2529_method_13_code 426 = .ok (.lload 13, 2) := by decide +kernel
theorem d9_428 : decode jdk_2529_method_13_code 428 = .ok (.lastore, 1) := by decide +kernel
theorem d9_429 : decode jdk_2529_method_13_code 429 = .ok (.goto 17, 3) := by decide +kernel
theorem d9_432 : decode jdk_2529_method_13_code 432 = .ok (.aload_n 1, 1) := by decide +kernel
theorem d9_433 : decode jdk_2529_method_13_code 433 = .ok (.iload 10, 2) := by decide +kernel
theorem d9_435 : decode jdk_2529_method_13_code 435 = .ok (.aload_n 1, 1) := by decide +kernel
theorem d9_436 : decode jdk_2529_method_13_code 436 = .ok (.iload 12, 2) := by decide +kernel
theorem d9_438 : decode jdk_2529_method_13_code 438 = .ok (.laload, 1) := by decide +kernel
theorem d9_439 : decode jdk_2529_method_13_code 439 = .ok (.lastore, 1) := by decide +kernel
theorem d9_440 : decode jdk_2529_method_13_code 440 = .ok (.aload_n 1, 1) := by decide +kernel
theorem d9_441 : decode jdk_2529_method_13_code 441 = .ok (.iload 12, 2) := by decide +kernel
theorem d9_443 : decode jdk_2529_method_13_code 443 = .ok (.lload 13, 2) := by decide +kernel
theorem d9_445 : decode jdk_2529_method_13_code 445 = .ok (.lastore, 1) := by decide +kernel
theorem d9_446 : decode jdk_2529_method_13_code 446 = .ok (.iload_n 3, 1) := by decide +kernel
theorem d9_447 : decode jdk_2529_method_13_code 447 = .ok (.istore 15, 2) := by decide +kernel
theorem d9_449 : decode jdk_2529_method_13_code 449 = .ok (.iload 5, 2) := by decide +kernel
theorem d9_451 : decode jdk_2529_method_13_code 451 = .ok (.istore 16, 2) := by decide +kernel
theorem d9_453 : decode jdk_2529_method_13_code 453 = .ok (.aload_n 1, 1) := by decide +kernel
theorem d9_454 : decode jdk_2529_method_13_code 454 = .ok (.iload 8, 2) := by decide +kernel
theorem d9_456 : decode jdk_2529_method_13_code 456 = .ok (.laload, 1) := by decide +kernel
theorem d9_457 : decode jdk_2529_method_13_code 457 = .ok (.aload_n 1, 1) := by decide +kernel
theorem d9_458 : decode jdk_2529_method_13_code 458 = .ok (.iload 11, 2) := by decide +kernel
theorem d9_460 : decode jdk_2529_method_13_code 460 = .ok (.laload, 1) := by decide +kernel
theorem d9_461 : decode jdk_2529_method_13_code 461 = .ok (.lcmp, 1) := by decide +kernel
theorem d9_462 : decode jdk_2529_method_13_code 462 = .ok (.ifCond .ge 333, 3) := by decide +kernel
theorem d9_465 : decode jdk_2529_method_13_code 465 = .ok (.aload_n 1, 1) := by decide +kernel
theorem d9_466 : decode jdk_2529_method_13_code 466 = .ok (.iload 11, 2) := by decide +kernel
theorem d9_468 : decode jdk_2529_method_13_code 468 = .ok (.laload, 1) := by decide +kernel
theorem d9_469 : decode jdk_2529_method_13_code 469 = .ok (.aload_n 1, 1) := by decide +kernel
theorem d9_470 : decode jdk_2529_method_13_code 470 = .ok (.iload 10, 2) := by decide +kernel
theorem d9_472 : decode jdk_2529_method_13_code 472 = .ok (.laload, 1) := by decide +kernel
theorem d9_473 : decode jdk_2529_method_13_code 473 = .ok (.lcmp, 1) := by decide +kernel
theorem d9_474 : decode jdk_2529_method_13_code 474 = .ok (.ifCond .ge 321, 3) := by decide +kernel
theorem d9_477 : decode jdk_2529_method_13_code 477 = .ok (.aload_n 1, 1) := by decide +kernel
theorem d9_478 : decode jdk_2529_method_13_code 478 = .ok (.iload 10, 2) := by decide +kernel
theorem d9_480 : decode jdk_2529_method_13_code 480 = .ok (.laload, 1) := by decide +kernel
theorem d9_481 : decode jdk_2529_method_13_code 481 = .ok (.aload_n 1, 1) := by decide +kernel
theorem d9_482 : decode jdk_2529_method_13_code 482 = .ok (.iload 12, 2) := by decide +kernel
theorem d9_484 : decode jdk_2529_method_13_code 484 = .ok (.laload, 1) := by decide +kernel
theorem d9_485 : decode jdk_2529_method_13_code 485 = .ok (.lcmp, 1) := by decide +kernel
theorem d9_486 : decode jdk_2529_method_13_code 486 = .ok (.ifCond .ge 309, 3) := by decide +kernel
theorem d9_489 : decode jdk_2529_method_13_code 489 = .ok (.aload_n 1, 1) := by decide +kernel
theorem d9_490 : decode jdk_2529_method_13_code 490 = .ok (.iload 12, 2) := by decide +kernel
theorem d9_492 : decode jdk_2529_method_13_code 492 = .ok (.laload, 1) := by decide +kernel
theorem d9_493 : decode jdk_2529_method_13_code 493 = .ok (.aload_n 1, 1) := by decide +kernel
theorem d9_494 : decode jdk_2529_method_13_code 494 = .ok (.iload 9, 2) := by decide +kernel
theorem d9_496 : decode jdk_2529_method_13_code 496 = .ok (.laload, 1) := by decide +kernel
theorem d9_497 : decode jdk_2529_method_13_code 497 = .ok (.lcmp, 1) := by decide +kernel
theorem d9_498 : decode jdk_2529_method_13_code 498 = .ok (.ifCond .ge 297, 3) := by decide +kernel
theorem d9_501 : decode jdk_2529_method_13_code 501 = .ok (.aload_n 1, 1) := by decide +kernel
theorem d9_502 : decode jdk_2529_method_13_code 502 = .ok (.iload 8, 2) := by decide +kernel
theorem d9_504 : decode jdk_2529_method_13_code 504 = .ok (.laload, 1) := by decide +kernel
theorem d9_505 : decode jdk_2529_method_13_code 505 = .ok (.lstore 17, 2) := by decide +kernel
theorem d9_507 : decode jdk_2529_method_13_code 507 = .ok (.aload_n 1, 1) := by decide +kernel
theorem d9_508 : decode jdk_2529_method_13_code 508 = .ok (.iload 9, 2) := by decide +kernel
theorem d9_510 : decode jdk_2529_method_13_code 510 = .ok (.laload, 1) := by decide +kernel
theorem d9_511 : decode jdk_2529_method_13_code 511 = .ok (.lstore 19, 2) := by decide +kernel
theorem d9_513 : decode jdk_2529_method_13_code 513 = .ok (.aload_n 1, 1) := by decide +kernel
theorem d9_514 : decode jdk_2529_method_13_code 514 = .ok (.iload 8, 2) := by decide +kernel
theorem d9_516 : decode jdk_2529_method_13_code 516 = .ok (.aload_n 1, 1) := by decide +kernel
theorem d9_517 : decode jdk_2529_method_13_code 517 = .ok (.iload 15, 2) := by decide +kernel
theorem d9_519 : decode jdk_2529_method_13_code 519 = .ok (.laload, 1) := by decide +kernel
theorem d9_520 : decode jdk_2529_method_13_code 520 = .ok (.lastore, 1) := by decide +kernel
theorem d9_521 : decode jdk_2529_method_13_code 521 = .ok (.aload_n 1, 1) := by decide +kernel
theorem d9_522 : decode jdk_2529_method_13_code 522 = .ok (.iload 9, 2) := by decide +kernel
theorem d9_524 : decode jdk_2529_method_13_code 524 = .ok (.aload_n 1, 1) := by decide +kernel
theorem d9_525 : decode jdk_2529_method_13_code 525 = .ok (.iload 16, 2) := by decide +kernel
theorem d9_527 : decode jdk_2529_method_13_code 527 = .ok (.laload, 1) := by decide +kernel
theorem d9_528 : decode jdk_2529_method_13_code 528 = .ok (.lastore, 1) := by decide +kernel
theorem d9_529 : decode jdk_2529_method_13_code 529 = .ok (.aload_n 1, 1) := by decide +kernel
theorem d9_530 : decode jdk_2529_method_13_code 530 = .ok (.iinc 15 1, 3) := by decide +kernel
theorem d9_533 : decode jdk_2529_method_13_code 533 = .ok (.iload 15, 2) := by decide +kernel
theorem d9_535 : decode jdk_2529_method_13_code 535 = .ok (.laload, 1) := by decide +kernel
theorem d9_536 : decode jdk_2529_method_13_code 536 = .ok (.lload 17, 2) := by decide +kernel
theorem d9_538 : decode jdk_2529_method_13_code 538 = .ok (.lcmp, 1) := by decide +kernel
theorem d9_539 : decode jdk_2529_method_13_code 539 = .ok (.ifCond .ge 6, 3) := by decide +kernel
theorem d9_542 : decode jdk_2529_method_13_code 542 = .ok (.goto (-13), 3) := by decide +kernel
theorem d9_545 : decode jdk_2529_method_13_code 545 = .ok (.aload_n 1, 1) := by decide +kernel
theorem d9_546 : decode jdk_2529_method_13_code 546 = .ok (.iinc 16 (-1), 3) := by decide +kernel
theorem d9_549 : decode jdk_2529_method_13_code 549 = .ok (.iload 16, 2) := by decide +kernel
theorem d9_551 : decode jdk_2529_method_13_code 551 = .ok (.laload, 1) := by decide +kernel
theorem d9_552 : decode jdk_2529_method_13_code 552 = .ok (.lload 19, 2) := by decide +kernel
theorem d9_554 : decode jdk_2529_method_13_code 554 = .ok (.lcmp, 1) := by decide +kernel
theorem d9_555 : decode jdk_2529_method_13_code 555 = .ok (.ifCond .le 6, 3) := by decide +kernel
theorem d9_558 : decode jdk_2529_method_13_code 558 = .ok (.goto (-13), 3) := by decide +kernel
theorem d9_561 : decode jdk_2529_method_13_code 561 = .ok (.iinc 15 (-1), 3) := by decide +kernel
theorem d9_564 : decode jdk_2529_method_13_code 564 = .ok (.iload 15, 2) := by decide +kernel
theorem d9_566 : decode jdk_2529_method_13_code 566 = .ok (.istore 21, 2) := by decide +kernel
theorem d9_568 : decode jdk_2529_method_13_code 568 = .ok (.iinc 16 1, 3) := by decide +kernel
theorem d9_571 : decode jdk_2529_method_13_code 571 = .ok (.iload 16, 2) := by decide +kernel
theorem d9_573 : decode jdk_2529_method_13_code 573 = .ok (.istore 22, 2) := by decide +kernel
theorem d9_575 : decode jdk_2529_method_13_code 575 = .ok (.iinc 22 (-1), 3) := by decide +kernel
theorem d9_578 : decode jdk_2529_method_13_code 578 = .ok (.iload 22, 2) := by decide +kernel
theorem d9_580 : decode jdk_2529_method_13_code 580 = .ok (.iload 15, 2) := by decide +kernel
theorem d9_582 : decode jdk_2529_method_13_code 582 = .ok (.if_icmp .le 114, 3) := by decide +kernel
theorem d9_585 : decode jdk_2529_method_13_code 585 = .ok (.aload_n 1, 1) := by decide +kernel
theorem d9_586 : decode jdk_2529_method_13_code 586 = .ok (.iload 22, 2) := by decide +kernel
theorem d9_588 : decode jdk_2529_method_13_code 588 = .ok (.laload, 1) := by decide +kernel
theorem d9_589 : decode jdk_2529_method_13_code 589 = .ok (.lstore 23, 2) := by decide +kernel
theorem d9_591 : decode jdk_2529_method_13_code 591 = .ok (.lload 23, 2) := by decide +kernel
theorem d9_593 : decode jdk_2529_method_13_code 593 = .ok (.lload 17, 2) := by decide +kernel
theorem d9_595 : decode jdk_2529_method_13_code 595 = .ok (.lcmp, 1) := by decide +kernel
theorem d9_596 : decode jdk_2529_method_13_code 596 = .ok (.ifCond .ge 72, 3) := by decide +kernel
theorem d9_599 : decode jdk_2529_method_13_code 599 = .ok (.iload 15, 2) := by decide +kernel
theorem d9_601 : decode jdk_2529_method_13_code 601 = .ok (.iload 22, 2) := by decide +kernel
theorem d9_603 : decode jdk_2529_method_13_code 603 = .ok (.if_icmp .ge 90, 3) := by decide +kernel
theorem d9_606 : decode jdk_2529_method_13_code 606 = .ok (.aload_n 1, 1) := by decide +kernel
theorem d9_607 : decode jdk_2529_method_13_code 607 = .ok (.iinc 15 1, 3) := by decide +kernel
theorem d9_610 : decode jdk_2529_method_13_code 610 = .ok (.iload 15, 2) := by decide +kernel
theorem d9_612 : decode jdk_2529_method_13_code 612 = .ok (.laload, 1) := by decide +kernel
theorem d9_613 : decode jdk_2529_method_13_code 613 = .ok (.lload 17, 2) := by decide +kernel
theorem d9_615 : decode jdk_2529_method_13_code 615 = .ok (.lcmp, 1) := by decide +kernel
theorem d9_616 : decode jdk_2529_method_13_code 616 = .ok (.ifCond .lt (-17), 3) := by decide +kernel
theorem d9_619 : decode jdk_2529_method_13_code 619 = .ok (.aload_n 1, 1) := by decide +kernel
theorem d9_620 : decode jdk_2529_method_13_code 620 = .ok (.iload 15, 2) := by decide +kernel
theorem d9_622 : decode jdk_2529_method_13_code 622 = .ok (.laload, 1) := by decide +kernel
theorem d9_623 : decode jdk_2529_method_13_code 623 = .ok (.lload 19, 2) := by decide +kernel
theorem d9_625 : decode jdk_2529_method_13_code 625 = .ok (.lcmp, 1) := by decide +kernel
theorem d9_626 : decode jdk_2529_method_13_code 626 = .ok (.ifCond .le 25, 3) := by decide +kernel
theorem d9_629 : decode jdk_2529_method_13_code 629 = .ok (.aload_n 1, 1) := by decide +kernel
theorem d9_630 : decode jdk_2529_method_13_code 630 = .ok (.iload 22, 2) := by decide +kernel
theorem d9_632 : decode jdk_2529_method_13_code 632 = .ok (.aload_n 1, 1) := by decide +kernel
theorem d9_633 : decode jdk_2529_method_13_code 633 = .ok (.iinc 16 (-1), 3) := by decide +kernel
theorem d9_636 : decode jdk_2529_method_13_code 636 = .ok (.iload 16, 2) := by decide +kernel
theorem d9_638 : decode jdk_2529_method_13_code 638 = .ok (.laload, 1) := by decide +kernel
theorem d9_639 : decode jdk_2529_method_13_code 639 = .ok (.lastore, 1) := by decide +kernel
theorem d9_640 : decode jdk_2529_method_13_code 640 = .ok (.aload_n 1, 1) := by decide +kernel
theorem d9_641 : decode jdk_2529_method_13_code 641 = .ok (.iload 16, 2) := by decide +kernel
theorem d9_643 : decode jdk_2529_method_13_code 643 = .ok (.aload_n 1, 1) := by decide +kernel
theorem d9_644 : decode jdk_2529_method_13_code 644 = .ok (.iload 15, 2) := by decide +kernel
theorem d9_646 : decode jdk_2529_method_13_code 646 = .ok (.laload, 1) := by decide +kernel
theorem d9_647 : decode jdk_2529_method_13_code 647 = .ok (.lastore, 1) := by decide +kernel
theorem d9_648 : decode jdk_2529_method_13_code 648 = .ok (.goto 11, 3) := by decide +kernel
theorem d9_651 : decode jdk_2529_method_13_code 651 = .ok (.aload_n 1, 1) := by decide +kernel
theorem d9_652 : decode jdk_2529_method_13_code 652 = .ok (.iload 22, 2) := by decide +kernel
theorem d9_654 : decode jdk_2529_method_13_code 654 = .ok (.aload_n 1, 1) := by decide +kernel
theorem d9_655 : decode jdk_2529_method_13_code 655 = .ok (.iload 15, 2) := by decide +kernel
theorem d9_657 : decode jdk_2529_method_13_code 657 = .ok (.laload, 1) := by decide +kernel
theorem d9_658 : decode jdk_2529_method_13_code 658 = .ok (.lastore, 1) := by decide +kernel
theorem d9_659 : decode jdk_2529_method_13_code 659 = .ok (.aload_n 1, 1) := by decide +kernel
theorem d9_660 : decode jdk_2529_method_13_code 660 = .ok (.iload 15, 2) := by decide +kernel
theorem d9_662 : decode jdk_2529_method_13_code 662 = .ok (.lload 23, 2) := by decide +kernel
theorem d9_664 : decode jdk_2529_method_13_code 664 = .ok (.lastore, 1) := by decide +kernel
theorem d9_665 : decode jdk_2529_method_13_code 665 = .ok (.goto 28, 3) := by decide +kernel
theorem d9_668 : decode jdk_2529_method_13_code 668 = .ok (.lload 23, 2) := by decide +kernel
theorem d9_670 : decode jdk_2529_method_13_code 670 = .ok (.lload 19, 2) := by decide +kernel
theorem d9_672 : decode jdk_2529_method_13_code 672 = .ok (.lcmp, 1) := by decide +kernel
theorem d9_673 : decode jdk_2529_method_13_code 673 = .ok (.ifCond .le 20, 3) := by decide +kernel
theorem d9_676 : decode jdk_2529_method_13_code 676 = .ok (.aload_n 1, 1) := by decide +kernel
theorem d9_677 : decode jdk_2529_method_13_code 677 = .ok (.iload 22, 2) := by decide +kernel
theorem d9_679 : decode jdk_2529_method_13_code 679 = .ok (.aload_n 1, 1) := by decide +kernel
theorem d9_680 : decode jdk_2529_method_13_code 680 = .ok (.iinc 16 (-1), 3) := by decide +kernel
theorem d9_683 : decode jdk_2529_method_13_code 683 = .ok (.iload 16, 2) := by decide +kernel
theorem d9_685 : decode jdk_2529_method_13_code 685 = .ok (.laload, 1) := by decide +kernel
theorem d9_686 : decode jdk_2529_method_13_code 686 = .ok (.lastore, 1) := by decide +kernel
theorem d9_687 : decode jdk_2529_method_13_code 687 = .ok (.aload_n 1, 1) := by decide +kernel
theorem d9_688 : decode jdk_2529_method_13_code 688 = .ok (.iload 16, 2) := by decide +kernel
theorem d9_690 : decode jdk_2529_method_13_code 690 = .ok (.lload 23, 2) := by decide +kernel
theorem d9_692 : decode jdk_2529_method_13_code 692 = .ok (.lastore, 1) := by decide +kernel
theorem d9_693 : decode jdk_2529_method_13_code 693 = .ok (.goto (-118), 3) := by decide +kernel
theorem d9_696 : decode jdk_2529_method_13_code 696 = .ok (.aload_n 1, 1) := by decide +kernel
theorem d9_697 : decode jdk_2529_method_13_code 697 = .ok (.iload_n 3, 1) := by decide +kernel
theorem d9_698 : decode jdk_2529_method_13_code 698 = .ok (.aload_n 1, 1) := by decide +kernel
theorem d9_699 : decode jdk_2529_method_13_code 699 = .ok (.iload 15, 2) := by decide +kernel
theorem d9_701 : decode jdk_2529_method_13_code 701 = .ok (.laload, 1) := by decide +kernel
theorem d9_702 : decode jdk_2529_method_13_code 702 = .ok (.lastore, 1) := by decide +kernel
theorem d9_703 : decode jdk_2529_method_13_code 703 = .ok (.aload_n 1, 1) := by decide +kernel
theorem d9_704 : decode jdk_2529_method_13_code 704 = .ok (.iload 15, 2) := by decide +kernel
theorem d9_706 : decode jdk_2529_method_13_code 706 = .ok (.lload 17, 2) := by decide +kernel
theorem d9_708 : decode jdk_2529_method_13_code 708 = .ok (.lastore, 1) := by decide +kernel
theorem d9_709 : decode jdk_2529_method_13_code 709 = .ok (.aload_n 1, 1) := by decide +kernel
theorem d9_710 : decode jdk_2529_method_13_code 710 = .ok (.iload 5, 2) := by decide +kernel
theorem d9_712 : decode jdk_2529_method_13_code 712 = .ok (.aload_n 1, 1) := by decide +kernel
theorem d9_713 : decode jdk_2529_method_13_code 713 = .ok (.iload 16, 2) := by decide +kernel
theorem d9_715 : decode jdk_2529_method_13_code 715 = .ok (.laload, 1) := by decide +kernel
theorem d9_716 : decode jdk_2529_method_13_code 716 = .ok (.lastore, 1) := by decide +kernel
theorem d9_717 : decode jdk_2529_method_13_code 717 = .ok (.aload_n 1, 1) := by decide +kernel
theorem d9_718 : decode jdk_2529_method_13_code 718 = .ok (.iload 16, 2) := by decide +kernel
theorem d9_720 : decode jdk_2529_method_13_code 720 = .ok (.lload 19, 2) := by decide +kernel
theorem d9_722 : decode jdk_2529_method_13_code 722 = .ok (.lastore, 1) := by decide +kernel
theorem d9_723 : decode jdk_2529_method_13_code 723 = .ok (.iload 6, 2) := by decide +kernel
theorem d9_725 : decode jdk_2529_method_13_code 725 = .ok (.sipush 4096, 3) := by decide +kernel
theorem d9_728 : decode jdk_2529_method_13_code 728 = .ok (.if_icmp .le 36, 3) := by decide +kernel
theorem d9_731 : decode jdk_2529_method_13_code 731 = .ok (.aload_n 0, 1) := by decide +kernel
theorem d9_732 : decode jdk_2529_method_13_code 732 = .ok (.ifnull 32, 3) := by decide +kernel
theorem d9_735 : decode jdk_2529_method_13_code 735 = .ok (.aload_n 0, 1) := by decide +kernel
theorem d9_736 : decode jdk_2529_method_13_code 736 = .ok (.iload_n 2, 1) := by decide +kernel
theorem d9_737 : decode jdk_2529_method_13_code 737 = .ok (.iconst 1, 1) := by decide +kernel
theorem d9_738 : decode jdk_2529_method_13_code 738 = .ok (.ior, 1) := by decide +kernel
theorem d9_739 : decode jdk_2529_method_13_code 739 = .ok (.iload 15, 2) := by decide +kernel
theorem d9_741 : decode jdk_2529_method_13_code 741 = .ok (.iconst 1, 1) := by decide +kernel
theorem d9_742 : decode jdk_2529_method_13_code 742 = .ok (.iadd, 1) := by decide +kernel
theorem d9_743 : decode jdk_2529_method_13_code 743 = .ok (.iload 16, 2) := by decide +kernel
theorem d9_745 : decode jdk_2529_method_13_code 745 = .ok (.invokevirtual 45, 3) := by decide +kernel
theorem d9_748 : decode jdk_2529_method_13_code 748 = .ok (.aload_n 0, 1) := by decide +kernel
theorem d9_749 : decode jdk_2529_method_13_code 749 = .ok (.iload_n 2, 1) := by decide +kernel
theorem d9_750 : decode jdk_2529_method_13_code 750 = .ok (.iconst 1, 1) := by decide +kernel
theorem d9_751 : decode jdk_2529_method_13_code 751 = .ok (.ior, 1) := by decide +kernel
theorem d9_752 : decode jdk_2529_method_13_code 752 = .ok (.iload 16, 2) := by decide +kernel
theorem d9_754 : decode jdk_2529_method_13_code 754 = .ok (.iconst 1, 1) := by decide +kernel
theorem d9_755 : decode jdk_2529_method_13_code 755 = .ok (.iadd, 1) := by decide +kernel
theorem d9_756 : decode jdk_2529_method_13_code 756 = .ok (.iload 4, 2) := by decide +kernel
theorem d9_758 : decode jdk_2529_method_13_code 758 = .ok (.invokevirtual 45, 3) := by decide +kernel
theorem d9_761 : decode jdk_2529_method_13_code 761 = .ok (.goto 31, 3) := by decide +kernel
theorem d9_764 : decode jdk_2529_method_13_code 764 = .ok (.aload_n 0, 1) := by decide +kernel
theorem d9_765 : decode jdk_2529_method_13_code 765 = .ok (.aload_n 1, 1) := by decide +kernel
theorem d9_766 : decode jdk_2529_method_13_code 766 = .ok (.iload_n 2, 1) := by decide +kernel
theorem d9_767 : decode jdk_2529_method_13_code 767 = .ok (.iconst 1, 1) := by decide +kernel
theorem d9_768 : decode jdk_2529_method_13_code 768 = .ok (.ior, 1) := by decide +kernel
theorem d9_769 : decode jdk_2529_method_13_code 769 = .ok (.iload 15, 2) := by decide +kernel
theorem d9_771 : decode jdk_2529_method_13_code 771 = .ok (.iconst 1, 1) := by decide +kernel
theorem d9_772 : decode jdk_2529_method_13_code 772 = .ok (.iadd, 1) := by decide +kernel
theorem d9_773 : decode jdk_2529_method_13_code 773 = .ok (.iload 16, 2) := by decide +kernel
theorem d9_775 : decode jdk_2529_method_13_code 775 = .ok (.invokestatic 99, 3) := by decide +kernel
theorem d9_778 : decode jdk_2529_method_13_code 778 = .ok (.aload_n 0, 1) := by decide +kernel
theorem d9_779 : decode jdk_2529_method_13_code 779 = .ok (.aload_n 1, 1) := by decide +kernel
theorem d9_780 : decode jdk_2529_method_13_code 780 = .ok (.iload_n 2, 1) := by decide +kernel
theorem d9_781 : decode jdk_2529_method_13_code 781 = .ok (.iconst 1, 1) := by decide +kernel
theorem d9_782 : decode jdk_2529_method_13_code 782 = .ok (.ior, 1) := by decide +kernel
theorem d9_783 : decode jdk_2529_method_13_code 783 = .ok (.iload 16, 2) := by decide +kernel
theorem d9_785 : decode jdk_2529_method_13_code 785 = .ok (.iconst 1, 1) := by decide +kernel
theorem d9_786 : decode jdk_2529_method_13_code 786 = .ok (.iadd, 1) := by decide +kernel
theorem d9_787 : decode jdk_2529_method_13_code 787 = .ok (.iload 4, 2) := by decide +kernel
theorem d9_789 : decode jdk_2529_method_13_code 789 = .ok (.invokestatic 99, 3) := by decide +kernel
theorem d9_792 : decode jdk_2529_method_13_code 792 = .ok (.goto 171, 3) := by decide +kernel
theorem d9_795 : decode jdk_2529_method_13_code 795 = .ok (.aload_n 1, 1) := by decide +kernel
theorem d9_796 : decode jdk_2529_method_13_code 796 = .ok (.iload 10, 2) := by decide +kernel
theorem d9_798 : decode jdk_2529_method_13_code 798 = .ok (.laload, 1) := by decide +kernel
theorem d9_799 : decode jdk_2529_method_13_code 799 = .ok (.lstore 17, 2) := by decide +kernel
theorem d9_801 : decode jdk_2529_method_13_code 801 = .ok (.aload_n 1, 1) := by decide +kernel
theorem d9_802 : decode jdk_2529_method_13_code 802 = .ok (.iload 10, 2) := by decide +kernel
theorem d9_804 : decode jdk_2529_method_13_code 804 = .ok (.aload_n 1, 1) := by decide +kernel
theorem d9_805 : decode jdk_2529_method_13_code 805 = .ok (.iload 15, 2) := by decide +kernel
theorem d9_807 : decode jdk_2529_method_13_code 807 = .ok (.laload, 1) := by decide +kernel
theorem d9_808 : decode jdk_2529_method_13_code 808 = .ok (.lastore, 1) := by decide +kernel
theorem d9_809 : decode jdk_2529_method_13_code 809 = .ok (.iinc 16 1, 3) := by decide +kernel
theorem d9_812 : decode jdk_2529_method_13_code 812 = .ok (.iload 16, 2) := by decide +kernel
theorem d9_814 : decode jdk_2529_method_13_code 814 = .ok (.istore 19, 2) := by decide +kernel
theorem d9_816 : decode jdk_2529_method_13_code 816 = .ok (.iinc 19 (-1), 3) := by decide +kernel
theorem d9_819 : decode jdk_2529_method_13_code 819 = .ok (.iload 19, 2) := by decide +kernel
theorem d9_821 : decode jdk_2529_method_13_code 821 = .ok (.iload 15, 2) := by decide +kernel
theorem d9_823 : decode jdk_2529_method_13_code 823 = .ok (.if_icmp .le 89, 3) := by decide +kernel
theorem d9_826 : decode jdk_2529_method_13_code 826 = .ok (.aload_n 1, 1) := by decide +kernel
theorem d9_827 : decode jdk_2529_method_13_code 827 = .ok (.iload 19, 2) := by decide +kernel
theorem d9_829 : decode jdk_2529_method_13_code 829 = .ok (.laload, 1) := by decide +kernel
theorem d9_830 : decode jdk_2529_method_13_code 830 = .ok (.lstore 20, 2) := by decide +kernel
theorem d9_832 : decode jdk_2529_method_13_code 832 = .ok (.lload 20, 2) := by decide +kernel
theorem d9_834 : decode jdk_2529_method_13_code 834 = .ok (.lload 17, 2) := by decide +kernel
theorem d9_836 : decode jdk_2529_method_13_code 836 = .ok (.lcmp, 1) := by decide +kernel
theorem d9_837 : decode jdk_2529_method_13_code 837 = .ok (.ifCond .eq 72, 3) := by decide +kernel
theorem d9_840 : decode jdk_2529_method_13_code 840 = .ok (.aload_n 1, 1) := by decide +kernel
theorem d9_841 : decode jdk_2529_method_13_code 841 = .ok (.iload 19, 2) := by decide +kernel
theorem d9_843 : decode jdk_2529_method_13_code 843 = .ok (.lload 17, 2) := by decide +kernel
theorem d9_845 : decode jdk_2529_method_13_code 845 = .ok (.lastore, 1) := by decide +kernel
theorem d9_846 : decode jdk_2529_method_13_code 846 = .ok (.lload 20, 2) := by decide +kernel
theorem d9_848 : decode jdk_2529_method_13_code 848 = .ok (.lload 17, 2) := by decide +kernel
theorem d9_850 : decode jdk_2529_method_13_code 850 = .ok (.lcmp, 1) := by decide +kernel
theorem d9_851 : decode jdk_2529_method_13_code 851 = .ok (.ifCond .ge 49, 3) := by decide +kernel
theorem d9_854 : decode jdk_2529_method_13_code 854 = .ok (.aload_n 1, 1) := by decide +kernel
theorem d9_855 : decode jdk_2529_method_13_code 855 = .ok (.iinc 15 1, 3) := by decide +kernel
theorem d9_858 : decode jdk_2529_method_13_code 858 = .ok (.iload 15, 2) := by decide +kernel
theorem d9_860 : decode jdk_2529_method_13_code 860 = .ok (.laload, 1) := by decide +kernel
theorem d9_861 : decode jdk_2529_method_13_code 861 = .ok (.lload 17, 2) := by decide +kernel
theorem d9_863 : decode jdk_2529_method_13_code 863 = .ok (.lcmp, 1) := by decide +kernel
theorem d9_864 : decode jdk_2529_method_13_code 864 = .ok (.ifCond .ge 6, 3) := by decide +kernel
theorem d9_867 : decode jdk_2529_method_13_code 867 = .ok (.goto (-13), 3) := by decide +kernel
theorem d9_870 : decode jdk_2529_method_13_code 870 = .ok (.aload_n 1, 1) := by decide +kernel
theorem d9_871 : decode jdk_2529_method_13_code 871 = .ok (.iload 15, 2) := by decide +kernel
theorem d9_873 : decode jdk_2529_method_13_code 873 = .ok (.laload, 1) := by decide +kernel
theorem d9_874 : decode jdk_2529_method_13_code 874 = .ok (.lload 17, 2) := by decide +kernel
theorem d9_876 : decode jdk_2529_method_13_code 876 = .ok (.lcmp, 1) := by decide +kernel
theorem d9_877 : decode jdk_2529_method_13_code 877 = .ok (.ifCond .le 14, 3) := by decide +kernel
theorem d9_880 : decode jdk_2529_method_13_code 880 = .ok (.aload_n 1, 1) := by decide +kernel
theorem d9_881 : decode jdk_2529_method_13_code 881 = .ok (.iinc 16 (-1), 3) := by decide +kernel
theorem d9_884 : decode jdk_2529_method_13_code 884 = .ok (.iload 16, 2) := by decide +kernel
theorem d9_886 : decode jdk_2529_method_13_code 886 = .ok (.aload_n 1, 1) := by decide +kernel
theorem d9_887 : decode jdk_2529_method_13_code 887 = .ok (.iload 15, 2) := by decide +kernel
theorem d9_889 : decode jdk_2529_method_13_code 889 = .ok (.laload, 1) := by decide +kernel
theorem d9_890 : decode jdk_2529_method_13_code 890 = .ok (.lastore, 1) := by decide +kernel
theorem d9_891 : decode jdk_2529_method_13_code 891 = .ok (.aload_n 1, 1) := by decide +kernel
theorem d9_892 : decode jdk_2529_method_13_code 892 = .ok (.iload 15, 2) := by decide +kernel
theorem d9_894 : decode jdk_2529_method_13_code 894 = .ok (.lload 20, 2) := by decide +kernel
theorem d9_896 : decode jdk_2529_method_13_code 896 = .ok (.lastore, 1) := by decide +kernel
theorem d9_897 : decode jdk_2529_method_13_code 897 = .ok (.goto 12, 3) := by decide +kernel
theorem d9_900 : decode jdk_2529_method_13_code 900 = .ok (.aload_n 1, 1) := by decide +kernel
theorem d9_901 : decode jdk_2529_method_13_code 901 = .ok (.iinc 16 (-1), 3) := by decide +kernel
theorem d9_904 : decode jdk_2529_method_13_code 904 = .ok (.iload 16, 2) := by decide +kernel
theorem d9_906 : decode jdk_2529_method_13_code 906 = .ok (.lload 20, 2) := by decide +kernel
theorem d9_908 : decode jdk_2529_method_13_code 908 = .ok (.lastore, 1) := by decide +kernel
theorem d9_909 : decode jdk_2529_method_13_code 909 = .ok (.goto (-93), 3) := by decide +kernel
theorem d9_912 : decode jdk_2529_method_13_code 912 = .ok (.aload_n 1, 1) := by decide +kernel
theorem d9_913 : decode jdk_2529_method_13_code 913 = .ok (.iload_n 3, 1) := by decide +kernel
theorem d9_914 : decode jdk_2529_method_13_code 914 = .ok (.aload_n 1, 1) := by decide +kernel
theorem d9_915 : decode jdk_2529_method_13_code 915 = .ok (.iload 15, 2) := by decide +kernel
theorem d9_917 : decode jdk_2529_method_13_code 917 = .ok (.laload, 1) := by decide +kernel
theorem d9_918 : decode jdk_2529_method_13_code 918 = .ok (.lastore, 1) := by decide +kernel
theorem d9_919 : decode jdk_2529_method_13_code 919 = .ok (.aload_n 1, 1) := by decide +kernel
theorem d9_920 : decode jdk_2529_method_13_code 920 = .ok (.iload 15, 2) := by decide +kernel
theorem d9_922 : decode jdk_2529_method_13_code 922 = .ok (.lload 17, 2) := by decide +kernel
theorem d9_924 : decode jdk_2529_method_13_code 924 = .ok (.lastore, 1) := by decide +kernel
theorem d9_925 : decode jdk_2529_method_13_code 925 = .ok (.iload 6, 2) := by decide +kernel
theorem d9_927 : decode jdk_2529_method_13_code 927 = .ok (.sipush 4096, 3) := by decide +kernel
theorem d9_930 : decode jdk_2529_method_13_code 930 = .ok (.if_icmp .le 21, 3) := by decide +kernel
theorem d9_933 : decode jdk_2529_method_13_code 933 = .ok (.aload_n 0, 1) := by decide +kernel
theorem d9_934 : decode jdk_2529_method_13_code 934 = .ok (.ifnull 17, 3) := by decide +kernel
theorem d9_937 : decode jdk_2529_method_13_code 937 = .ok (.aload_n 0, 1) := by decide +kernel
theorem d9_938 : decode jdk_2529_method_13_code 938 = .ok (.iload_n 2, 1) := by decide +kernel
theorem d9_939 : decode jdk_2529_method_13_code 939 = .ok (.iconst 1, 1) := by decide +kernel
theorem d9_940 : decode jdk_2529_method_13_code 940 = .ok (.ior, 1) := by decide +kernel
theorem d9_941 : decode jdk_2529_method_13_code 941 = .ok (.iload 16, 2) := by decide +kernel
theorem d9_943 : decode jdk_2529_method_13_code 943 = .ok (.iload 4, 2) := by decide +kernel
theorem d9_945 : decode jdk_2529_method_13_code 945 = .ok (.invokevirtual 45, 3) := by decide +kernel
theorem d9_948 : decode jdk_2529_method_13_code 948 = .ok (.goto 15, 3) := by decide +kernel
theorem d9_951 : decode jdk_2529_method_13_code 951 = .ok (.aload_n 0, 1) := by decide +kernel
theorem d9_952 : decode jdk_2529_method_13_code 952 = .ok (.aload_n 1, 1) := by decide +kernel
theorem d9_953 : decode jdk_2529_method_13_code 953 = .ok (.iload_n 2, 1) := by decide +kernel
theorem d9_954 : decode jdk_2529_method_13_code 954 = .ok (.iconst 1, 1) := by decide +kernel
theorem d9_955 : decode jdk_2529_method_13_code 955 = .ok (.ior, 1) := by decide +kernel
theorem d9_956 : decode jdk_2529_method_13_code 956 = .ok (.iload 16, 2) := by decide +kernel
theorem d9_958 : decode jdk_2529_method_13_code 958 = .ok (.iload 4, 2) := by decide +kernel
theorem d9_960 : decode jdk_2529_method_13_code 960 = .ok (.invokestatic 99, 3) := by decide +kernel
theorem d9_963 : decode jdk_2529_method_13_code 963 = .ok (.iload 15, 2) := by decide +kernel
theorem d9_965 : decode jdk_2529_method_13_code 965 = .ok (.istore 4, 2) := by decide +kernel
theorem d9_967 : decode jdk_2529_method_13_code 967 = .ok (.goto (-967), 3) := by decide +kernel
theorem d10_0 : decode jdk_2529_method_15_code 0 = .ok (.iload_n 1, 1) := by decide +kernel
theorem d10_1 : decode jdk_2529_method_15_code 1 = .ok (.istore 4, 2) := by decide +kernel
theorem d10_3 : decode jdk_2529_method_15_code 3 = .ok (.iinc 4 1, 3) := by decide +kernel
theorem d10_6 : decode jdk_2529_method_15_code 6 = .ok (.iload 4, 2) := by decide +kernel
theorem d10_8 : decode jdk_2529_method_15_code 8 = .ok (.iload_n 2, 1) := by decide +kernel
theorem d10_9 : decode jdk_2529_method_15_code 9 = .ok (.if_icmp .ge 60, 3) := by decide +kernel
theorem d10_12 : decode jdk_2529_method_15_code 12 = .ok (.aload_n 0, 1) := by decide +kernel
theorem d10_13 : decode jdk_2529_method_15_code 13 = .ok (.iload 4, 2) := by decide +kernel
theorem d10_15 : decode jdk_2529_method_15_code 15 = .ok (.dup, 1) := by decide +kernel
theorem d10_16 : decode jdk_2529_method_15_code 16 = .ok (.istore_n 3, 1) := by decide +kernel
theorem d10_17 : decode jdk_2529_method_15_code 17 = .ok (.laload, 1) := by decide +kernel
theorem d10_18 : decode jdk_2529_method_15_code 18 = .ok (.lstore 5, 2) := by decide +kernel
theorem d10_20 : decode jdk_2529_method_15_code 20 = .ok (.lload 5, 2) := by decide +kernel
theorem d10_22 : decode jdk_2529_method_15_code 22 = .ok (.aload_n 0, 1) := by decide +kernel
theorem d10_23 : decode jdk_2529_method_15_code 23 = .ok (.iload_n 3, 1) := by decide +kernel
theorem d10_24 : decode jdk_2529_method_15_code 24 = .ok (.iconst 1, 1) := by decide +kernel
theorem d10_25 : decode jdk_2529_method_15_code 25 = .ok (.isub, 1) := by decide +kernel
theorem d10_26 : decode jdk_2529_method_15_code 26 = .ok (.laload, 1) := by decide +kernel
theorem d10_27 : decode jdk_2529_method_15_code 27 = .ok (.lcmp, 1) := by decide +kernel
theorem d10_28 : decode jdk_2529_method_15_code 28 = .ok (.ifCond .ge 38, 3) := by decide +kernel
theorem d10_31 : decode jdk_2529_method_15_code 31 = .ok (.iinc 3 (-1), 3) := by decide +kernel
theorem d10_34 : decode jdk_2529_method_15_code 34 = .ok (.iload_n 3, 1) := by decide +kernel
theorem d10_35 : decode jdk_2529_method_15_code 35 = .ok (.iload_n 1, 1) := by decide +kernel
theorem d10_36 : decode jdk_2529_method_15_code 36 = .ok (.if_icmp .lt 23, 3) := by decide +kernel
theorem d10_39 : decode jdk_2529_method_15_code 39 = .ok (.lload 5, 2) := by decide +kernel
theorem d10_41 : decode jdk_2529_method_15_code 41 = .ok (.aload_n 0, 1) := by decide +kernel
theorem d10_42 : decode jdk_2529_method_15_code 42 = .ok (.iload_n 3, 1) := by decide +kernel
theorem d10_43 : decode jdk_2529_method_15_code 43 = .ok (.laload, 1) := by decide +kernel
theorem d10_44 : decode jdk_2529_method_15_code 44 = .ok (.lcmp, 1) := by decide +kernel
theorem d10_45 : decode jdk_2529_method_15_code 45 = .ok (.ifCond .ge 14, 3) := by decide +kernel
theorem d10_48 : decode jdk_2529_method_15_code 48 = .ok (.aload_n 0, 1) := by decide +kernel
theorem d10_49 : decode jdk_2529_method_15_code 49 = .ok (.iload_n 3, 1) := by decide +kernel
theorem d10_50 : decode jdk_2529_method_15_code 50 = .ok (.iconst 1, 1) := by decide +kernel
theorem d10_51 : decode jdk_2529_method_15_code 51 = .ok (.iadd, 1) := by decide +kernel
theorem d10_52 : decode jdk_2529_method_15_code 52 = .ok (.aload_n 0, 1) := by decide +kernel
theorem d10_53 : decode jdk_2529_method_15_code 53 = .ok (.iload_n 3, 1) := by decide +kernel
theorem d10_54 : decode jdk_2529_method_15_code 54 = .ok (.laload, 1) := by decide +kernel
theorem d10_55 : decode jdk_2529_method_15_code 55 = .ok (.lastore, 1) := by decide +kernel
theorem d10_56 : decode jdk_2529_method_15_code 56 = .ok (.goto (-25), 3) := by decide +kernel
theorem d10_59 : decode jdk_2529_method_15_code 59 = .ok (.aload_n 0, 1) := by decide +kernel
theorem d10_60 : decode jdk_2529_method_15_code 60 = .ok (.iload_n 3, 1) := by decide +kernel
theorem d10_61 : decode jdk_2529_method_15_code 61 = .ok (.iconst 1, 1) := by decide +kernel
theorem d10_62 : decode jdk_2529_method_15_code 62 = .ok (.iadd, 1) := by decide +kernel
theorem d10_63 : decode jdk_2529_method_15_code 63 = .ok (.lload 5, 2) := by decide +kernel
theorem d10_65 : decode jdk_2529_method_15_code 65 = .ok (.lastore, 1) := by decide +kernel
theorem d10_66 : decode jdk_2529_method_15_code 66 = .ok (.goto (-63), 3) := by decide +kernel
theorem d10_69 : decode jdk_2529_method_15_code 69 = .ok (.return_, 1) := by decide +kernel
theorem d11_0 : decode jdk_65_method_55_code 0 = .ok (.aload_n 0, 1) := by decide +kernel
theorem d11_1 : decode jdk_65_method_55_code 1 = .ok (.arraylength, 1) := by decide +kernel
theorem d11_2 : decode jdk_65_method_55_code 2 = .ok (.iload_n 1, 1) := by decide +kernel
theorem d11_3 : decode jdk_65_method_55_code 3 = .ok (.iload_n 2, 1) := by decide +kernel
theorem d11_4 : decode jdk_65_method_55_code 4 = .ok (.invokestatic 13, 3) := by decide +kernel
theorem d11_7 : decode jdk_65_method_55_code 7 = .ok (.aload_n 0, 1) := by decide +kernel
theorem d11_8 : decode jdk_65_method_55_code 8 = .ok (.iload_n 1, 1) := by decide +kernel
theorem d11_9 : decode jdk_65_method_55_code 9 = .ok (.iload_n 2, 1) := by decide +kernel
theorem d11_10 : decode jdk_65_method_55_code 10 = .ok (.lload_n 3, 1) := by decide +kernel
theorem d11_11 : decode jdk_65_method_55_code 11 = .ok (.invokestatic 205, 3) := by decide +kernel
theorem d11_14 : decode jdk_65_method_55_code 14 = .ok (.ireturn, 1) := by decide +kernel
theorem d12_0 : decode jdk_65_method_56_code 0 = .ok (.iload_n 1, 1) := by decide +kernel
theorem d12_1 : decode jdk_65_method_56_code 1 = .ok (.istore 5, 2) := by decide +kernel
theorem d12_3 : decode jdk_65_method_56_code 3 = .ok (.iload_n 2, 1) := by decide +kernel
theorem d12_4 : decode jdk_65_method_56_code 4 = .ok (.iconst 1, 1) := by decide +kernel
theorem d12_5 : decode jdk_65_method_56_code 5 = .ok (.isub, 1) := by decide +kernel
theorem d12_6 : decode jdk_65_method_56_code 6 = .ok (.istore 6, 2) := by decide +kernel
theorem d12_8 : decode jdk_65_method_56_code 8 = .ok (.iload 5, 2) := by decide +kernel
theorem d12_10 : decode jdk_65_method_56_code 10 = .ok (.iload 6, 2) := by decide +kernel
theorem d12_12 : decode jdk_65_method_56_code 12 = .ok (.if_icmp .gt 56, 3) := by decide +kernel
theorem d12_15 : decode jdk_65_method_56_code 15 = .ok (.iload 5, 2) := by decide +kernel
theorem d12_17 : decode jdk_65_method_56_code 17 = .ok (.iload 6, 2) := by decide +kernel
theorem d12_19 : decode jdk_65_method_56_code 19 = .ok (.iadd, 1) := by decide +kernel
theorem d12_20 : decode jdk_65_method_56_code 20 = .ok (.iconst 1, 1) := by decide +kernel
theorem d12_21 : decode jdk_65_method_56_code 21 = .ok (.iushr, 1) := by decide +kernel
theorem d12_22 : decode jdk_65_method_56_code 22 = .ok (.istore 7, 2) := by decide +kernel
theorem d12_24 : decode jdk_65_method_56_code 24 = .ok (.aload_n 0, 1) := by decide +kernel
theorem d12_25 : decode jdk_65_method_56_code 25 = .ok (.iload 7, 2) := by decide +kernel
theorem d12_27 : decode jdk_65_method_56_code 27 = .ok (.laload, 1) := by decide +kernel
theorem d12_28 : decode jdk_65_method_56_code 28 = .ok (.lstore 8, 2) := by decide +kernel
theorem d12_30 : decode jdk_65_method_56_code 30 = .ok (.lload 8, 2) := by decide +kernel
theorem d12_32 : decode jdk_65_method_56_code 32 = .ok (.lload_n 3, 1) := by decide +kernel
theorem d12_33 : decode jdk_65_method_56_code 33 = .ok (.lcmp, 1) := by decide +kernel
theorem d12_34 : decode jdk_65_method_56_code 34 = .ok (.ifCond .ge 12, 3) := by decide +kernel
theorem d12_37 : decode jdk_65_method_56_code 37 = .ok (.iload 7, 2) := by decide +kernel
theorem d12_39 : decode jdk_65_method_56_code 39 = .ok (.iconst 1, 1) := by decide +kernel
theorem d12_40 : decode jdk_65_method_56_code 40 = .ok (.iadd, 1) := by decide +kernel
theorem d12_41 : decode jdk_65_method_56_code 41 = .ok (.istore 5, 2) := by decide +kernel
theorem d12_43 : decode jdk_65_method_56_code 43 = .ok (.goto 22, 3) := by decide +kernel
theorem d12_46 : decode jdk_65_method_56_code 46 = .ok (.lload 8, 2) := by decide +kernel
theorem d12_48 : decode jdk_65_method_56_code 48 = .ok (.lload_n 3, 1) := by decide +kernel
theorem d12_49 : decode jdk_65_method_56_code 49 = .ok (.lcmp, 1) := by decide +kernel
theorem d12_50 : decode jdk_65_method_56_code 50 = .ok (.ifCond .le 12, 3) := by decide +kernel
theorem d12_53 : decode jdk_65_method_56_code 53 = .ok (.iload 7, 2) := by decide +kernel
theorem d12_55 : decode jdk_65_method_56_code 55 = .ok (.iconst 1, 1) := by decide +kernel
theorem d12_56 : decode jdk_65_method_56_code 56 = .ok (.isub, 1) := by decide +kernel
theorem d12_57 : decode jdk_65_method_56_code 57 = .ok (.istore 6, 2) := by decide +kernel
theorem d12_59 : decode jdk_65_method_56_code 59 = .ok (.goto 6, 3) := by decide +kernel
theorem d12_62 : decode jdk_65_method_56_code 62 = .ok (.iload 7, 2) := by decide +kernel
theorem d12_64 : decode jdk_65_method_56_code 64 = .ok (.ireturn, 1) := by decide +kernel
theorem d12_65 : decode jdk_65_method_56_code 65 = .ok (.goto (-57), 3) := by decide +kernel
theorem d12_68 : decode jdk_65_method_56_code 68 = .ok (.iload 5, 2) := by decide +kernel
theorem d12_70 : decode jdk_65_method_56_code 70 = .ok (.iconst 1, 1) := by decide +kernel
theorem d12_71 : decode jdk_65_method_56_code 71 = .ok (.iadd, 1) := by decide +kernel
theorem d12_72 : decode jdk_65_method_56_code 72 = .ok (.ineg, 1) := by decide +kernel
theorem d12_73 : decode jdk_65_method_56_code 73 = .ok (.ireturn, 1) := by decide +kernel
theorem d13_0 : decode prog_71_method_2_code 0 = .ok (.aload_n 0, 1) := by decide +kernel
theorem d13_1 : decode prog_71_method_2_code 1 = .ok (.getfield 9, 3) := by decide +kernel
theorem d13_4 : decode prog_71_method_2_code 4 = .ok (.arraylength, 1) := by decide +kernel
theorem d13_5 : decode prog_71_method_2_code 5 = .ok (.sipush 1024, 3) := by decide +kernel
theorem d13_8 : decode prog_71_method_2_code 8 = .ok (.if_icmp .le 12, 3) := by decide +kernel
theorem d13_11 : decode prog_71_method_2_code 11 = .ok (.aload_n 0, 1) := by decide +kernel
theorem d13_12 : decode prog_71_method_2_code 12 = .ok (.sipush 1024, 3) := by decide +kernel
theorem d13_15 : decode prog_71_method_2_code 15 = .ok (.newarray .long, 2) := by decide +kernel
theorem d13_17 : decode prog_71_method_2_code 17 = .ok (.putfield 9, 3) := by decide +kernel
theorem d13_20 : decode prog_71_method_2_code 20 = .ok (.aload_n 0, 1) := by decide +kernel
theorem d13_21 : decode prog_71_method_2_code 21 = .ok (.iconst 0, 1) := by decide +kernel
theorem d13_22 : decode prog_71_method_2_code 22 = .ok (.putfield 19, 3) := by decide +kernel
theorem d13_25 : decode prog_71_method_2_code 25 = .ok (.aload_n 0, 1) := by decide +kernel
theorem d13_26 : decode prog_71_method_2_code 26 = .ok (.iconst 1, 1) := by decide +kernel
theorem d13_27 : decode prog_71_method_2_code 27 = .ok (.putfield 15, 3) := by decide +kernel
theorem d13_30 : decode prog_71_method_2_code 30 = .ok (.return_, 1) := by decide +kernel
theorem d14_0 : decode method_5_code 0 = .ok (.lload_n 0, 1) := by decide +kernel
theorem d14_1 : decode method_5_code 1 = .ok (.invokestatic 38, 3) := by decide +kernel
theorem d14_4 : decode method_5_code 4 = .ok (.ifCond .eq 12, 3) := by decide +kernel
theorem d14_7 : decode method_5_code 7 = .ok (.lload_n 0, 1) := by decide +kernel
theorem d14_8 : decode method_5_code 8 = .ok (.lload_n 2, 1) := by decide +kernel
theorem d14_9 : decode method_5_code 9 = .ok (.lcmp, 1) := by decide +kernel
theorem d14_10 : decode method_5_code 10 = .ok (.ifCond .ne 6, 3) := by decide +kernel
theorem d14_13 : decode method_5_code 13 = .ok (.iload 4, 2) := by decide +kernel
theorem d14_15 : decode method_5_code 15 = .ok (.ireturn, 1) := by decide +kernel
theorem d14_16 : decode method_5_code 16 = .ok (.ldc 27, 2) := by decide +kernel
theorem d14_18 : decode method_5_code 18 = .ok (.ireturn, 1) := by decide +kernel
theorem d15_0 : decode method_4_code 0 = .ok (.lload_n 0, 1) := by decide +kernel
theorem d15_1 : decode method_4_code 1 = .ok (.lconst 0, 1) := by decide +kernel
theorem d15_2 : decode method_4_code 2 = .ok (.lcmp, 1) := by decide +kernel
theorem d15_3 : decode method_4_code 3 = .ok (.ifCond .le 15, 3) := by decide +kernel
theorem d15_6 : decode method_4_code 6 = .ok (.lload_n 0, 1) := by decide +kernel
theorem d15_7 : decode method_4_code 7 = .ok (.ldc2_w 34, 3) := by decide +kernel
theorem d15_10 : decode method_4_code 10 = .ok (.lcmp, 1) := by decide +kernel
theorem d15_11 : decode method_4_code 11 = .ok (.ifCond .gt 7, 3) := by decide +kernel
theorem d15_14 : decode method_4_code 14 = .ok (.iconst 1, 1) := by decide +kernel
theorem d15_15 : decode method_4_code 15 = .ok (.goto 4, 3) := by decide +kernel
theorem d15_18 : decode method_4_code 18 = .ok (.iconst 0, 1) := by decide +kernel
theorem d15_19 : decode method_4_code 19 = .ok (.ireturn, 1) := by decide +kernel
def QSh  (h0 : Heap) (n0 : Nat) (v : Option Value) (h : Heap) (L : List Loc) : Prop := ∃ r : Int64, v = some (.long r) ∧ Fr n0 L ∧ h = h0
set_option maxRecDepth 65536 in
set_option maxHeartbeats 40000000 in
theorem rmSh (l : Launch) (Z : State) (a0 : Array Value) (hw : ∀ d ∈ tables_1, d.before a0 Z = true) (ws : List Jvm.Cond) (q : Int64) (i : Int32) (h0 : Heap) (n0 : Nat) (Z0 : n0 ≤ h0.size) :
    MetFree l (⟨"com/example/holdfast/holdfast/net/ReferencedClassesClearPinLaw", "shape", "(JI)J"⟩ : MethodName) (head1 (Jvm.Cond.code (⟨"com/example/holdfast/holdfast/net/ReferencedClassesClearPinLaw", "shape", "(JI)J"⟩ : MethodName) method_3_code 4 (some .long) :: ws) ({ frames := 0, cells := 0, slots := 0, locals := 0 } : Room)) (fun a U => a = #[(.long q), (.int i)] ∧ Z.Warmed39 U.vm ∧ U.heap = h0) (fun _ _ _ _ _ => True) (fun _ Uw_ ow_ Ue_ => ∃ vw_ Lw_, ow_ = .returned vw_ ∧ QSh h0 n0 vw_ Ue_.heap Lw_ ∧ FrameEnd Uw_ ow_ Ue_ Lw_ ({ frames := 0, cells := 0, slots := 0, locals := 0 } : Room).cells ({ frames := 0, cells := 0, slots := 0, locals := 0 } : Room).slots) := by
  refine MetFree.of_bodySF (plainFor_of_name (by first | (simp [plainName, overriddenIn]; done) | decide +kernel)) hisR ?_
  intro p e s m args below meth c s₁ Bd hml0 hP hK
  obtain ⟨rfl, hZ, hh⟩ := hP
  have hx := Bd.exec
  have hby := Bd.bytes
  have hml : c.maxLocals = 4 := hml0
  have hown : s.vm.findClass "com/example/holdfast/holdfast/net/ReferencedClassesClearPinLaw" = some m.cls := findClass_of_methodNamed Bd.named
  have hnm := (name_of_methodNamed Bd.named Bd.method).1
  have X0 : Stand p l e ({ frames := 0, cells := 0, slots := 0, locals := 0 } : Room) s m #[(.long q), (.int i)] below meth c s₁ [] 0 0 := Stand.of_body Bd
  have e0 : s₁.heap = h0 := by rw [← hh, Bd.state]; rfl
  have N0 := Fr.nil n0
  have ef : entryFrame m #[(.long q), (.int i)] 4 = (mkF m 0 #[.val (.long q), .second, .val (.int i), .unset] []) := by first | (simp [entryFrame, mkF, argsToLocals, Value.category]; done) | rfl
  show OwnGoes p e below (fun ow_ Ue_ => ∃ vw_ Lw_, ow_ = .returned vw_ ∧ QSh h0 n0 vw_ Ue_.heap Lw_ ∧ FrameEnd s ow_ Ue_ Lw_ ({ frames := 0, cells := 0, slots := 0, locals := 0 } : Room).cells ({ frames := 0, cells := 0, slots := 0, locals := 0 } : Room).slots) (s₁.setTop (entryFrame m #[(.long q), (.int i)] 4))
  refine own_pre (fun t k => castTop ef k) ?_
  show OwnGoes p e below _ (s₁.setTop (mkF m 0 #[.val (.long q), .second, .val (.int i), .unset] []))
  refine own_pre (fun _ kz_ => XS.iloadN X0.here hx rfl (hb hby d1_0) rfl kz_) ?_
  show OwnGoes p e below _ (s₁.setTop (mkF m 1 #[.val (.long q), .second, .val (.int i), .unset] [(.int i)]))
  refine own_pre (fun _ kz_ => XS.iconst X0.here hx rfl (hb hby d1_1) kz_) ?_
  show OwnGoes p e below _ (s₁.setTop (mkF m 2 #[.val (.long q), .second, .val (.int i), .unset] [(.int (3 : Int32)), (.int i)]))
  refine own_pre (fun _ kz_ => XS.iand X0.here hx rfl (hb hby d1_2) rfl kz_) ?_
  show OwnGoes p e below _ (s₁.setTop (mkF m 3 #[.val (.long q), .second, .val (.int i), .unset] [(.int (i &&& (3 : Int32)))]))
  refine own_pre (fun _ kz_ => XS.istoreN X0.here hx rfl (hb hby d1_3) rfl (l' := #[.val (.long q), .second, .val (.int i), .val (.int (i &&& (3 : Int32)))]) rfl kz_) ?_
  show OwnGoes p e below _ (s₁.setTop (mkF m 4 #[.val (.long q), .second, .val (.int i), .val (.int (i &&& (3 : Int32)))] []))
  refine own_pre (fun _ kz_ => XS.iloadN X0.here hx rfl (hb hby d1_4) rfl kz_) ?_
  show OwnGoes p e below _ (s₁.setTop (mkF m 5 #[.val (.long q), .second, .val (.int i), .val (.int (i &&& (3 : Int32)))] [(.int (i &&& (3 : Int32)))]))
  by_cases h5 : (i &&& (3 : Int32)) = (0 : Int32)
  · refine own_pre (fun _ kz_ => XS.ifNo X0.here hx rfl (hb hby d1_5) rfl ((if0 _ _).trans (teq h5).2) kz_) ?_
    show OwnGoes p e below _ (s₁.setTop (mkF m 8 #[.val (.long q), .second, .val (.int i), .val (.int (i &&& (3 : Int32)))] []))
    refine own_pre (fun _ kz_ => XS.lloadN X0.here hx rfl (hb hby d1_8) rfl kz_) ?_
    show OwnGoes p e below _ (s₁.setTop (mkF m 9 #[.val (.long q), .second, .val (.int i), .val (.int (i &&& (3 : Int32)))] [(.long q)]))
    exact own_ret X0 hx Bd.returns (rfl) (Or.inr (Or.inl ⟨rfl, rfl, _, rfl⟩)) Bd.notSynchronized (hb hby d1_9) ⟨_, rfl, N0, e0⟩ (by decide) (by decide)
  · refine own_pre (fun _ kz_ => XS.ifYes X0.here hx rfl (pc0 := 5) (pc' := 10) rfl (hb hby d1_5) rfl ((if0 _ _).trans (feq h5).2) (by decide) (by decide) kz_) ?_
    show OwnGoes p e below _ (s₁.setTop (mkF m 10 #[.val (.long q), .second, .val (.int i), .val (.int (i &&& (3 : Int32)))] []))
    refine own_pre (fun _ kz_ => XS.iloadN X0.here hx rfl (hb hby d1_10) rfl kz_) ?_
    show OwnGoes p e below _ (s₁.setTop (mkF m 11 #[.val (.long q), .second, .val (.int i), .val (.int (i &&& (3 : Int32)))] [(.int (i &&& (3 : Int32)))]))
    refine own_pre (fun _ kz_ => XS.iconst X0.here hx rfl (hb hby d1_11) kz_) ?_
    show OwnGoes p e below _ (s₁.setTop (mkF m 12 #[.val (.long q), .second, .val (.int i), .val (.int (i &&& (3 : Int32)))] [(.int (1 : Int32)), (.int (i &&& (3 : Int32)))]))
    by_cases h12 : (i &&& (3 : Int32)) = (1 : Int32)
    · refine own_pre (fun _ kz_ => XS.icmpNo X0.here hx rfl (hb hby d1_12) rfl (teq h12).2 kz_) ?_
      show OwnGoes p e below _ (s₁.setTop (mkF m 15 #[.val (.long q), .second, .val (.int i), .val (.int (i &&& (3 : Int32)))] []))
      refine own_pre (fun _ kz_ => XS.lloadN X0.here hx rfl (hb hby d1_15) rfl kz_) ?_
      show OwnGoes p e below _ (s₁.setTop (mkF m 16 #[.val (.long q), .second, .val (.int i), .val (.int (i &&& (3 : Int32)))] [(.long q)]))
      refine own_pre (fun _ kz_ => X0.ldc2Long hx hown (mvT hZ (hw _ (List.mem_of_getElem? (i := 4) rfl))) (g := (mkF m 16 #[.val (.long q), .second, .val (.int i), .val (.int (i &&& (3 : Int32)))] [(.long q)])) rfl (hb hby d1_16) _ kz_) ?_
      show OwnGoes p e below _ (s₁.setTop (mkF m 19 #[.val (.long q), .second, .val (.int i), .val (.int (i &&& (3 : Int32)))] [(.long (7 : Int64)), (.long q)]))
      refine own_pre (fun _ kz_ => XS.land X0.here hx rfl (hb hby d1_19) rfl kz_) ?_
      show OwnGoes p e below _ (s₁.setTop (mkF m 20 #[.val (.long q), .second, .val (.int i), .val (.int (i &&& (3 : Int32)))] [(.long (q &&& (7 : Int64)))]))
      exact own_ret X0 hx Bd.returns (rfl) (Or.inr (Or.inl ⟨rfl, rfl, _, rfl⟩)) Bd.notSynchronized (hb hby d1_20) ⟨_, rfl, N0, e0⟩ (by decide) (by decide)
    · refine own_pre (fun _ kz_ => XS.icmpYes X0.here hx rfl (pc0 := 12) (pc' := 21) rfl (hb hby d1_12) rfl (feq h12).2 (by decide) (by decide) kz_) ?_
      show OwnGoes p e below _ (s₁.setTop (mkF m 21 #[.val (.long q), .second, .val (.int i), .val (.int (i &&& (3 : Int32)))] []))
      refine own_pre (fun _ kz_ => XS.iloadN X0.here hx rfl (hb hby d1_21) rfl kz_) ?_
      show OwnGoes p e below _ (s₁.setTop (mkF m 22 #[.val (.long q), .second, .val (.int i), .val (.int (i &&& (3 : Int32)))] [(.int (i &&& (3 : Int32)))]))
      refine own_pre (fun _ kz_ => XS.iconst X0.here hx rfl (hb hby d1_22) kz_) ?_
      show OwnGoes p e below _ (s₁.setTop (mkF m 23 #[.val (.long q), .second, .val (.int i), .val (.int (i &&& (3 : Int32)))] [(.int (2 : Int32)), (.int (i &&& (3 : Int32)))]))
      by_cases h23 : (i &&& (3 : Int32)) = (2 : Int32)
      · refine own_pre (fun _ kz_ => XS.icmpNo X0.here hx rfl (hb hby d1_23) rfl (teq h23).2 kz_) ?_
        show OwnGoes p e below _ (s₁.setTop (mkF m 26 #[.val (.long q), .second, .val (.int i), .val (.int (i &&& (3 : Int32)))] []))
        refine own_pre (fun _ kz_ => XS.lloadN X0.here hx rfl (hb hby d1_26) rfl kz_) ?_
        show OwnGoes p e below _ (s₁.setTop (mkF m 27 #[.val (.long q), .second, .val (.int i), .val (.int (i &&& (3 : Int32)))] [(.long q)]))
        refine own_pre (fun _ kz_ => X0.ldc2Long hx hown (mvT hZ (hw _ (List.mem_of_getElem? (i := 69) rfl))) (g := (mkF m 27 #[.val (.long q), .second, .val (.int i), .val (.int (i &&& (3 : Int32)))] [(.long q)])) rfl (hb hby d1_27) _ kz_) ?_
        show OwnGoes p e below _ (s₁.setTop (mkF m 30 #[.val (.long q), .second, .val (.int i), .val (.int (i &&& (3 : Int32)))] [(.long (2147483647 : Int64)), (.long q)]))
        refine own_pre (fun _ kz_ => XS.land X0.here hx rfl (hb hby d1_30) rfl kz_) ?_
        show OwnGoes p e below _ (s₁.setTop (mkF m 31 #[.val (.long q), .second, .val (.int i), .val (.int (i &&& (3 : Int32)))] [(.long (q &&& (2147483647 : Int64)))]))
        exact own_ret X0 hx Bd.returns (rfl) (Or.inr (Or.inl ⟨rfl, rfl, _, rfl⟩)) Bd.notSynchronized (hb hby d1_31) ⟨_, rfl, N0, e0⟩ (by decide) (by decide)
      · refine own_pre (fun _ kz_ => XS.icmpYes X0.here hx rfl (pc0 := 23) (pc' := 32) rfl (hb hby d1_23) rfl (feq h23).2 (by decide) (by decide) kz_) ?_
        show OwnGoes p e below _ (s₁.setTop (mkF m 32 #[.val (.long q), .second, .val (.int i), .val (.int (i &&& (3 : Int32)))] []))
        refine own_pre (fun _ kz_ => XS.lloadN X0.here hx rfl (hb hby d1_32) rfl kz_) ?_
        show OwnGoes p e below _ (s₁.setTop (mkF m 33 #[.val (.long q), .second, .val (.int i), .val (.int (i &&& (3 : Int32)))] [(.long q)]))
        refine own_pre (fun _ kz_ => X0.ldc2Long hx hown (mvT hZ (hw _ (List.mem_of_getElem? (i := 70) rfl))) (g := (mkF m 33 #[.val (.long q), .second, .val (.int i), .val (.int (i &&& (3 : Int32)))] [(.long q)])) rfl (hb hby d1_33) _ kz_) ?_
        show OwnGoes p e below _ (s₁.setTop (mkF m 36 #[.val (.long q), .second, .val (.int i), .val (.int (i &&& (3 : Int32)))] [(.long (4294967295 : Int64)), (.long q)]))
        refine own_pre (fun _ kz_ => XS.land X0.here hx rfl (hb hby d1_36) rfl kz_) ?_
        show OwnGoes p e below _ (s₁.setTop (mkF m 37 #[.val (.long q), .second, .val (.int i), .val (.int (i &&& (3 : Int32)))] [(.long (q &&& (4294967295 : Int64)))]))
        exact own_ret X0 hx Bd.returns (rfl) (Or.inr (Or.inl ⟨rfl, rfl, _, rfl⟩)) Bd.notSynchronized (hb hby d1_37) ⟨_, rfl, N0, e0⟩ (by decide) (by decide)
def QI (r : Int32) (h0 : Heap) (n0 : Nat) (v : Option Value) (h : Heap) (L : List Loc) : Prop := v = some (.int r) ∧ Fr n0 L ∧ h = h0
set_option maxRecDepth 65536 in
set_option maxHeartbeats 40000000 in
theorem rmIn (l : Launch) (Z : State) (a0 : Array Value) (hw : ∀ d ∈ tables_1, d.before a0 Z = true) (ws : List Jvm.Cond) (q : Int64) (r : Int32) (h0 : Heap) (n0 : Nat) (Z0 : n0 ≤ h0.size) (hr : r = if own_in q then (1 : Int32) else (0 : Int32)) :
    MetFree l (⟨"com/example/holdfast/holdfast/net/ReferencedClassesClearPinLaw", "inRange", "(J)Z"⟩ : MethodName) (head1 (Jvm.Cond.code (⟨"com/example/holdfast/holdfast/net/ReferencedClassesClearPinLaw", "inRange", "(J)Z"⟩ : MethodName) method_4_code 2 (some .boolean) :: ws) ({ frames := 0, cells := 0, slots := 0, locals := 0 } : Room)) (fun a U => a = #[(.long q)] ∧ Z.Warmed39 U.vm ∧ U.heap = h0) (fun _ _ _ _ _ => True) (fun _ Uw_ ow_ Ue_ => ∃ vw_ Lw_, ow_ = .returned vw_ ∧ QI r h0 n0 vw_ Ue_.heap Lw_ ∧ FrameEnd Uw_ ow_ Ue_ Lw_ ({ frames := 0, cells := 0, slots := 0, locals := 0 } : Room).cells ({ frames := 0, cells := 0, slots := 0, locals := 0 } : Room).slots) := by
  refine MetFree.of_bodySF (plainFor_of_name (by first | (simp [plainName, overriddenIn]; done) | decide +kernel)) hisR ?_
  intro p e s m args below meth c s₁ Bd hml0 hP hK
  obtain ⟨rfl, hZ, hh⟩ := hP
  have hx := Bd.exec
  have hby := Bd.bytes
  have hml : c.maxLocals = 2 := hml0
  have hown : s.vm.findClass "com/example/holdfast/holdfast/net/ReferencedClassesClearPinLaw" = some m.cls := findClass_of_methodNamed Bd.named
  have hnm := (name_of_methodNamed Bd.named Bd.method).1
  have X0 : Stand p l e ({ frames := 0, cells := 0, slots := 0, locals := 0 } : Room) s m #[(.long q)] below meth c s₁ [] 0 0 := Stand.of_body Bd
  have e0 : s₁.heap = h0 := by rw [← hh, Bd.state]; rfl
  have N0 := Fr.nil n0
  have ef : entryFrame m #[(.long q)] 2 = (mkF m 0 #[.val (.long q), .second] []) := by first | (simp [entryFrame, mkF, argsToLocals, Value.category]; done) | rfl
  show OwnGoes p e below (fun ow_ Ue_ => ∃ vw_ Lw_, ow_ = .returned vw_ ∧ QI r h0 n0 vw_ Ue_.heap Lw_ ∧ FrameEnd s ow_ Ue_ Lw_ ({ frames := 0, cells := 0, slots := 0, locals := 0 } : Room).cells ({ frames := 0, cells := 0, slots := 0, locals := 0 } : Room).slots) (s₁.setTop (entryFrame m #[(.long q)] 2))
  refine own_pre (fun t k => castTop ef k) ?_
  show OwnGoes p e below _ (s₁.setTop (mkF m 0 #[.val (.long q), .second] []))
  refine own_pre (fun _ kz_ => XS.lloadN X0.here hx rfl (hb hby d15_0) rfl kz_) ?_
  show OwnGoes p e below _ (s₁.setTop (mkF m 1 #[.val (.long q), .second] [(.long q)]))
  refine own_pre (fun _ kz_ => XS.lconst X0.here hx rfl (hb hby d15_1) kz_) ?_
  show OwnGoes p e below _ (s₁.setTop (mkF m 2 #[.val (.long q), .second] [(.long (0 : Int64)), (.long q)]))
  refine own_pre (fun _ kz_ => XS.lcmp X0.here hx rfl (hb hby d15_2) rfl kz_) ?_
  show OwnGoes p e below _ (s₁.setTop (mkF m 3 #[.val (.long q), .second] [(.int (lcmpW q (0 : Int64)))]))
  by_cases h3 : (0 : Int64) < q
  · refine own_pre (fun _ kz_ => XS.ifNo X0.here hx rfl (hb hby d15_3) rfl ((if0 _ _).trans (tlt ((lw_gt q (0 : Int64)).mpr h3)).2.2.2) kz_) ?_
    show OwnGoes p e below _ (s₁.setTop (mkF m 6 #[.val (.long q), .second] []))
    refine own_pre (fun _ kz_ => XS.lloadN X0.here hx rfl (hb hby d15_6) rfl kz_) ?_
    show OwnGoes p e below _ (s₁.setTop (mkF m 7 #[.val (.long q), .second] [(.long q)]))
    refine own_pre (fun _ kz_ => X0.ldc2Long hx hown (mvT hZ (hw _ (List.mem_of_getElem? (i := 69) rfl))) (g := (mkF m 7 #[.val (.long q), .second] [(.long q)])) rfl (hb hby d15_7) _ kz_) ?_
    show OwnGoes p e below _ (s₁.setTop (mkF m 10 #[.val (.long q), .second] [(.long (2147483647 : Int64)), (.long q)]))
    refine own_pre (fun _ kz_ => XS.lcmp X0.here hx rfl (hb hby d15_10) rfl kz_) ?_
    show OwnGoes p e below _ (s₁.setTop (mkF m 11 #[.val (.long q), .second] [(.int (lcmpW q (2147483647 : Int64)))]))
    by_cases h11 : (2147483647 : Int64) < q
    · refine own_pre (fun _ kz_ => XS.ifYes X0.here hx rfl (pc0 := 11) (pc' := 18) rfl (hb hby d15_11) rfl ((if0 _ _).trans (tlt ((lw_gt q (2147483647 : Int64)).mpr h11)).2.2.1) (by decide) (by decide) kz_) ?_
      show OwnGoes p e below _ (s₁.setTop (mkF m 18 #[.val (.long q), .second] []))
      refine own_pre (fun _ kz_ => XS.iconst X0.here hx rfl (hb hby d15_18) kz_) ?_
      show OwnGoes p e below _ (s₁.setTop (mkF m 19 #[.val (.long q), .second] [(.int (0 : Int32))]))
      exact own_ret X0 hx Bd.returns (rfl) (Or.inl ⟨rfl, by simp, _, rfl⟩) Bd.notSynchronized (hb hby d15_19) ⟨by rw [hr]; unfold own_in; simp [*], N0, e0⟩ (by decide) (by decide)
    · refine own_pre (fun _ kz_ => XS.ifNo X0.here hx rfl (hb hby d15_11) rfl ((if0 _ _).trans (flt (fun qz_ => h11 ((lw_gt q (2147483647 : Int64)).mp qz_))).2.2.1) kz_) ?_
      show OwnGoes p e below _ (s₁.setTop (mkF m 14 #[.val (.long q), .second] []))
      refine own_pre (fun _ kz_ => XS.iconst X0.here hx rfl (hb hby d15_14) kz_) ?_
      show OwnGoes p e below _ (s₁.setTop (mkF m 15 #[.val (.long q), .second] [(.int (1 : Int32))]))
      refine own_pre (fun _ kz_ => XS.goto X0.here hx rfl (pc0 := 15) (pc' := 19) rfl (hb hby d15_15) (by decide) (by decide) kz_) ?_
      show OwnGoes p e below _ (s₁.setTop (mkF m 19 #[.val (.long q), .second] [(.int (1 : Int32))]))
      exact own_ret X0 hx Bd.returns (rfl) (Or.inl ⟨rfl, by simp, _, rfl⟩) Bd.notSynchronized (hb hby d15_19) ⟨by rw [hr]; unfold own_in; simp [*], N0, e0⟩ (by decide) (by decide)
  · refine own_pre (fun _ kz_ => XS.ifYes X0.here hx rfl (pc0 := 3) (pc' := 18) rfl (hb hby d15_3) rfl ((if0 _ _).trans (flt (fun qz_ => h3 ((lw_gt q (0 : Int64)).mp qz_))).2.2.2) (by decide) (by decide) kz_) ?_
    show OwnGoes p e below _ (s₁.setTop (mkF m 18 #[.val (.long q), .second] []))
    refine own_pre (fun _ kz_ => XS.iconst X0.here hx rfl (hb hby d15_18) kz_) ?_
    show OwnGoes p e below _ (s₁.setTop (mkF m 19 #[.val (.long q), .second] [(.int (0 : Int32))]))
    exact own_ret X0 hx Bd.returns (rfl) (Or.inl ⟨rfl, by simp, _, rfl⟩) Bd.notSynchronized (hb hby d15_19) ⟨by rw [hr]; unfold own_in; simp [*], N0, e0⟩ (by decide) (by decide)
set_option maxRecDepth 65536 in
set_option maxHeartbeats 40000000 in
theorem rmExp (l : Launch) (Z : State) (a0 : Array Value) (hw : ∀ d ∈ tables_1, d.before a0 Z = true) (ws : List Jvm.Cond) (q p_ : Int64) (c_ r : Int32) (h0 : Heap) (n0 : Nat) (Z0 : n0 ≤ h0.size) (hr : r = own_exp q p_ c_) :
    MetFree l (⟨"com/example/holdfast/holdfast/net/ReferencedClassesClearPinLaw", "expect", "(JJI)I"⟩ : MethodName) (head1 (Jvm.Cond.code (⟨"com/example/holdfast/holdfast/net/ReferencedClassesClearPinLaw", "expect", "(JJI)I"⟩ : MethodName) method_5_code 5 (some .int) :: ws) ({ frames := 1, cells := 0, slots := 0, locals := 13 } : Room)) (fun a U => a = #[(.long q), (.long p_), (.int c_)] ∧ Z.Warmed39 U.vm ∧ U.heap = h0) (fun _ _ _ _ _ => True) (fun _ Uw_ ow_ Ue_ => ∃ vw_ Lw_, ow_ = .returned vw_ ∧ QI r h0 n0 vw_ Ue_.heap Lw_ ∧ FrameEnd Uw_ ow_ Ue_ Lw_ ({ frames := 1, cells := 0, slots := 0, locals := 13 } : Room).cells ({ frames := 1, cells := 0, slots := 0, locals := 13 } : Room).slots) := by
  refine MetFree.of_bodySF (plainFor_of_name (by first | (simp [plainName, overriddenIn]; done) | decide +kernel)) hisR ?_
  intro p e s m args below meth c s₁ Bd hml0 hP hK
  obtain ⟨rfl, hZ, hh⟩ := hP
  have hx := Bd.exec
  have hby := Bd.bytes
  have hml : c.maxLocals = 5 := hml0
  have hown : s.vm.findClass "com/example/holdfast/holdfast/net/ReferencedClassesClearPinLaw" = some m.cls := findClass_of_methodNamed Bd.named
  have hnm := (name_of_methodNamed Bd.named Bd.method).1
  have X0 : Stand p l e ({ frames := 1, cells := 0, slots := 0, locals := 13 } : Room) s m #[(.long q), (.long p_), (.int c_)] below meth c s₁ [] 0 0 := Stand.of_body Bd
  have e0 : s₁.heap = h0 := by rw [← hh, Bd.state]; rfl
  have N0 := Fr.nil n0
  have ef : entryFrame m #[(.long q), (.long p_), (.int c_)] 5 = (mkF m 0 #[.val (.long q), .second, .val (.long p_), .second, .val (.int c_)] []) := by first | (simp [entryFrame, mkF, argsToLocals, Value.category]; done) | rfl
  show OwnGoes p e below (fun ow_ Ue_ => ∃ vw_ Lw_, ow_ = .returned vw_ ∧ QI r h0 n0 vw_ Ue_.heap Lw_ ∧ FrameEnd s ow_ Ue_ Lw_ ({ frames := 1, cells := 0, slots := 0, locals := 13 } : Room).cells ({ frames := 1, cells := 0, slots := 0, locals := 13 } : Room).slots) (s₁.setTop (entryFrame m #[(.long q), (.long p_), (.int c_)] 5))
  refine own_pre (fun t k => castTop ef k) ?_
  by_cases hin : own_in q
  · show OwnGoes p e below _ (s₁.setTop (mkF m 0 #[.val (.long q), .second, .val (.long p_), .second, .val (.int c_)] []))
    refine own_pre (fun _ kz_ => XS.lloadN X0.here hx rfl (hb hby d14_0) rfl kz_) ?_
    show OwnGoes p e below _ (s₁.setTop (mkF m 1 #[.val (.long q), .second, .val (.long p_), .second, .val (.int c_)] [(.long q)]))
    obtain ⟨_, _, ⟨T1, L1, k1, n1⟩, -, X1, ⟨Lc1, hQ1, l1, y1, z1⟩, st1⟩ := Jvm.LawKit.callS X0 hx (y := (⟨"com/example/holdfast/holdfast/net/ReferencedClassesClearPinLaw", "inRange", "(J)Z"⟩ : MethodName)) hown (mvT hZ (hw _ (List.mem_of_getElem? (i := 66) rfl))) (mvT hZ (hw _ (List.mem_of_getElem? (i := 67) rfl))) (mvT hZ (hw _ (List.mem_of_getElem? (i := 2) rfl))) (mvT hZ (hw _ (List.mem_of_getElem? (i := 68) rfl))) (by decide) (backOf (W := 0) (rmIn l Z a0 hw [] q (1 : Int32) h0 n0 Z0 (if_pos hin).symm) hZ (hw _ (List.mem_of_getElem? (i := 68) rfl)) (hw _ (List.mem_of_getElem? (i := 2) rfl)) (by decide) (by decide)) (g := (mkF m 1 #[.val (.long q), .second, .val (.long p_), .second, .val (.int c_)] [(.long q)])) rfl (by rw [hml]; rfl) (argsL := [(.long q)]) (rest := []) (lenOf (d := "(J)Z") (ps := [.long]) (r := some .boolean) (by decide +kernel) rfl) rfl (by show 2 * 0 + _ ≤ _; exact Nat.le_of_eq rfl) (hb hby d14_1) (fun _ _ => ⟨rfl, e0, (by decide : 0 + 0 ≤ _), (by decide : 0 + 0 ≤ _)⟩)
    dsimp only [Pt.U, Pt.locs, Pt.cells, Pt.slots] at X1 l1 y1 z1 st1 hQ1
    subst l1 y1 z1
    obtain ⟨rfl, N1q, e1⟩ := hQ1
    have N1 := Fr.app N0 N1q
    refine own_pre st1 ?_
    show OwnGoes p e below _ (T1.setTop (mkF m 4 #[.val (.long q), .second, .val (.long p_), .second, .val (.int c_)] [(.int (1 : Int32))]))
    refine own_pre (fun _ kz_ => XS.ifNo X1.here hx rfl (hb hby d14_4) rfl ((if0 _ _).trans (feq (by decide : ¬ ((1 : Int32) = (0 : Int32)))).1) kz_) ?_
    show OwnGoes p e below _ (T1.setTop (mkF m 7 #[.val (.long q), .second, .val (.long p_), .second, .val (.int c_)] []))
    refine own_pre (fun _ kz_ => XS.lloadN X1.here hx rfl (hb hby d14_7) rfl kz_) ?_
    show OwnGoes p e below _ (T1.setTop (mkF m 8 #[.val (.long q), .second, .val (.long p_), .second, .val (.int c_)] [(.long q)]))
    refine own_pre (fun _ kz_ => XS.lloadN X1.here hx rfl (hb hby d14_8) rfl kz_) ?_
    show OwnGoes p e below _ (T1.setTop (mkF m 9 #[.val (.long q), .second, .val (.long p_), .second, .val (.int c_)] [(.long p_), (.long q)]))
    refine own_pre (fun _ kz_ => XS.lcmp X1.here hx rfl (hb hby d14_9) rfl kz_) ?_
    show OwnGoes p e below _ (T1.setTop (mkF m 10 #[.val (.long q), .second, .val (.long p_), .second, .val (.int c_)] [(.int (lcmpW q p_))]))
    by_cases h10 : q = p_
    · refine own_pre (fun _ kz_ => XS.ifNo X1.here hx rfl (hb hby d14_10) rfl ((if0 _ _).trans (teq ((lw_eq q p_).mpr h10)).2) kz_) ?_
      show OwnGoes p e below _ (T1.setTop (mkF m 13 #[.val (.long q), .second, .val (.long p_), .second, .val (.int c_)] []))
      refine own_pre (fun _ kz_ => XS.iload X1.here hx rfl (hb hby d14_13) rfl kz_) ?_
      show OwnGoes p e below _ (T1.setTop (mkF m 15 #[.val (.long q), .second, .val (.long p_), .second, .val (.int c_)] [(.int c_)]))
      exact own_ret X1 hx Bd.returns (rfl) (Or.inl ⟨rfl, by simp, _, rfl⟩) Bd.notSynchronized (hb hby d14_15) ⟨by rw [hr]; unfold own_exp; rw [if_pos hin, if_pos h10], N1, e1⟩ (by decide) (by decide)
    · refine own_pre (fun _ kz_ => XS.ifYes X1.here hx rfl (pc0 := 10) (pc' := 16) rfl (hb hby d14_10) rfl ((if0 _ _).trans (feq (fun qz_ => h10 ((lw_eq q p_).mp qz_))).2) (by decide) (by decide) kz_) ?_
      show OwnGoes p e below _ (T1.setTop (mkF m 16 #[.val (.long q), .second, .val (.long p_), .second, .val (.int c_)] []))
      refine own_pre (fun _ kz_ => X1.ldcInt hx hown (mvT hZ (hw _ (List.mem_of_getElem? (i := 62) rfl))) (g := (mkF m 16 #[.val (.long q), .second, .val (.long p_), .second, .val (.int c_)] [])) rfl (hb hby d14_16) _ kz_) ?_
      show OwnGoes p e below _ (T1.setTop (mkF m 18 #[.val (.long q), .second, .val (.long p_), .second, .val (.int c_)] [(.int (-2147483648 : Int32))]))
      exact own_ret X1 hx Bd.returns (rfl) (Or.inl ⟨rfl, by simp, _, rfl⟩) Bd.notSynchronized (hb hby d14_18) ⟨by rw [hr]; unfold own_exp; rw [if_pos hin, if_neg h10], N1, e1⟩ (by decide) (by decide)
  · show OwnGoes p e below _ (s₁.setTop (mkF m 0 #[.val (.long q), .second, .val (.long p_), .second, .val (.int c_)] []))
    refine own_pre (fun _ kz_ => XS.lloadN X0.here hx rfl (hb hby d14_0) rfl kz_) ?_
    show OwnGoes p e below _ (s₁.setTop (mkF m 1 #[.val (.long q), .second, .val (.long p_), .second, .val (.int c_)] [(.long q)]))
    obtain ⟨_, _, ⟨T2, L2, k2, n2⟩, -, X2, ⟨Lc2, hQ2, l2, y2, z2⟩, st2⟩ := Jvm.LawKit.callS X0 hx (y := (⟨"com/example/holdfast/holdfast/net/ReferencedClassesClearPinLaw", "inRange", "(J)Z"⟩ : MethodName)) hown (mvT hZ (hw _ (List.mem_of_getElem? (i := 66) rfl))) (mvT hZ (hw _ (List.mem_of_getElem? (i := 67) rfl))) (mvT hZ (hw _ (List.mem_of_getElem? (i := 2) rfl))) (mvT hZ (hw _ (List.mem_of_getElem? (i := 68) rfl))) (by decide) (backOf (W := 0) (rmIn l Z a0 hw [] q (0 : Int32) h0 n0 Z0 (if_neg hin).symm) hZ (hw _ (List.mem_of_getElem? (i := 68) rfl)) (hw _ (List.mem_of_getElem? (i := 2) rfl)) (by decide) (by decide)) (g := (mkF m 1 #[.val (.long q), .second, .val (.long p_), .second, .val (.int c_)] [(.long q)])) rfl (by rw [hml]; rfl) (argsL := [(.long q)]) (rest := []) (lenOf (d := "(J)Z") (ps := [.long]) (r := some .boolean) (by decide +kernel) rfl) rfl (by show 2 * 0 + _ ≤ _; exact Nat.le_of_eq rfl) (hb hby d14_1) (fun _ _ => ⟨rfl, e0, (by decide : 0 + 0 ≤ _), (by decide : 0 + 0 ≤ _)⟩)
    dsimp only [Pt.U, Pt.locs, Pt.cells, Pt.slots] at X2 l2 y2 z2 st2 hQ2
    subst l2 y2 z2
    obtain ⟨rfl, N2q, e2⟩ := hQ2
    have N2 := Fr.app N0 N2q
    refine own_pre st2 ?_
    show OwnGoes p e below _ (T2.setTop (mkF m 4 #[.val (.long q), .second, .val (.long p_), .second, .val (.int c_)] [(.int (0 : Int32))]))
    refine own_pre (fun _ kz_ => XS.ifYes X2.here hx rfl (pc0 := 4) (pc' := 16) rfl (hb hby d14_4) rfl ((if0 _ _).trans (teq (by decide : (0 : Int32) = (0 : Int32))).1) (by decide) (by decide) kz_) ?_
    show OwnGoes p e below _ (T2.setTop (mkF m 16 #[.val (.long q), .second, .val (.long p_), .second, .val (.int c_)] []))
    refine own_pre (fun _ kz_ => X2.ldcInt hx hown (mvT hZ (hw _ (List.mem_of_getElem? (i := 62) rfl))) (g := (mkF m 16 #[.val (.long q), .second, .val (.long p_), .second, .val (.int c_)] [])) rfl (hb hby d14_16) _ kz_) ?_
    show OwnGoes p e below _ (T2.setTop (mkF m 18 #[.val (.long q), .second, .val (.long p_), .second, .val (.int c_)] [(.int (-2147483648 : Int32))]))
    exact own_ret X2 hx Bd.returns (rfl) (Or.inl ⟨rfl, by simp, _, rfl⟩) Bd.notSynchronized (hb hby d14_18) ⟨by rw [hr]; unfold own_exp; rw [if_neg hin], N2, e2⟩ (by decide) (by decide)
def QN  (h0 : Heap) (n0 : Nat) (v : Option Value) (h : Heap) (L : List Loc) : Prop := v = none ∧ Fr n0 L ∧ h = h0
def QM (Z : State) (b : Addr) (tl : List Value) (h0 : Heap) (n0 : Nat) (v : Option Value) (h : Heap) (L : List Loc) : Prop := v = none ∧ Fr n0 L ∧ Keep h0 h [b] ∧ ∃ y0 y1 : Int64, OwnA Z h b .long (.long y0 :: .long y1 :: tl)
def QB2  (h0 : Heap) (n0 : Nat) (v : Option Value) (h : Heap) (L : List Loc) : Prop := ∃ r : Int32, v = some (.int r) ∧ Fr n0 L ∧ h = h0 ∧ (r = (-3 : Int32) ∨ r = (-2 : Int32) ∨ r = (-1 : Int32) ∨ r = (0 : Int32) ∨ r = (1 : Int32))
set_option maxRecDepth 65536 in
set_option maxHeartbeats 40000000 in
theorem rmRg0 (l : Launch) (Z : State) (a0 : Array Value) (hw : ∀ d ∈ tables_1, d.before a0 Z = true) (ws : List Jvm.Cond)  (h0 : Heap) (n0 : Nat) (Z0 : n0 ≤ h0.size) :
    MetFree l (⟨"java/util/Arrays", "rangeCheck", "(III)V"⟩ : MethodName) (head1 (Jvm.Cond.code (⟨"java/util/Arrays", "rangeCheck", "(III)V"⟩ : MethodName) jdk_65_method_30_code 3 none :: ws) ({ frames := 0, cells := 0, slots := 0, locals := 0 } : Room)) (fun a U => a = #[(.int (64 : Int32)), (.int (0 : Int32)), (.int (0 : Int32))] ∧ Z.Warmed39 U.vm ∧ U.heap = h0) (fun _ _ _ _ _ => True) (fun _ Uw_ ow_ Ue_ => ∃ vw_ Lw_, ow_ = .returned vw_ ∧ QN h0 n0 vw_ Ue_.heap Lw_ ∧ FrameEnd Uw_ ow_ Ue_ Lw_ ({ frames := 0, cells := 0, slots := 0, locals := 0 } : Room).cells ({ frames := 0, cells := 0, slots := 0, locals := 0 } : Room).slots) := by
  refine MetFree.of_bodySF (plainFor_of_name (by first | (simp [plainName, overriddenIn]; done) | decide +kernel)) hisR ?_
  intro p e s m args below meth c s₁ Bd hml0 hP hK
  obtain ⟨rfl, hZ, hh⟩ := hP
  have hx := Bd.exec
  have hby := Bd.bytes
  have hml : c.maxLocals = 3 := hml0
  have hown : s.vm.findClass "java/util/Arrays" = some m.cls := findClass_of_methodNamed Bd.named
  have hnm := (name_of_methodNamed Bd.named Bd.method).1
  have X0 : Stand p l e ({ frames := 0, cells := 0, slots := 0, locals := 0 } : Room) s m #[(.int (64 : Int32)), (.int (0 : Int32)), (.int (0 : Int32))] below meth c s₁ [] 0 0 := Stand.of_body Bd
  have e0 : s₁.heap = h0 := by rw [← hh, Bd.state]; rfl
  have N0 := Fr.nil n0
  have ef : entryFrame m #[(.int (64 : Int32)), (.int (0 : Int32)), (.int (0 : Int32))] 3 = (mkF m 0 #[.val (.int (64 : Int32)), .val (.int (0 : Int32)), .val (.int (0 : Int32))] []) := by first | (simp [entryFrame, mkF, argsToLocals, Value.category]; done) | rfl
  show OwnGoes p e below (fun ow_ Ue_ => ∃ vw_ Lw_, ow_ = .returned vw_ ∧ QN h0 n0 vw_ Ue_.heap Lw_ ∧ FrameEnd s ow_ Ue_ Lw_ ({ frames := 0, cells := 0, slots := 0, locals := 0 } : Room).cells ({ frames := 0, cells := 0, slots := 0, locals := 0 } : Room).slots) (s₁.setTop (entryFrame m #[(.int (64 : Int32)), (.int (0 : Int32)), (.int (0 : Int32))] 3))
  refine own_pre (fun t k => castTop ef k) ?_
  show OwnGoes p e below _ (s₁.setTop (mkF m 0 #[.val (.int (64 : Int32)), .val (.int (0 : Int32)), .val (.int (0 : Int32))] []))
  refine own_pre (fun _ kz_ => XS.iloadN X0.here hx rfl (hb hby d7_0) rfl kz_) ?_
  show OwnGoes p e below _ (s₁.setTop (mkF m 1 #[.val (.int (64 : Int32)), .val (.int (0 : Int32)), .val (.int (0 : Int32))] [(.int (0 : Int32))]))
  refine own_pre (fun _ kz_ => XS.iloadN X0.here hx rfl (hb hby d7_1) rfl kz_) ?_
  show OwnGoes p e below _ (s₁.setTop (mkF m 2 #[.val (.int (64 : Int32)), .val (.int (0 : Int32)), .val (.int (0 : Int32))] [(.int (0 : Int32)), (.int (0 : Int32))]))
  refine own_pre (fun _ kz_ => XS.icmpYes X0.here hx rfl (pc0 := 2) (pc' := 46) rfl (hb hby d7_2) rfl (flt (by decide : ¬ ((0 : Int32) < (0 : Int32)))).2.2.2 (by decide) (by decide) kz_) ?_
  show OwnGoes p e below _ (s₁.setTop (mkF m 46 #[.val (.int (64 : Int32)), .val (.int (0 : Int32)), .val (.int (0 : Int32))] []))
  refine own_pre (fun _ kz_ => XS.iloadN X0.here hx rfl (hb hby d7_46) rfl kz_) ?_
  show OwnGoes p e below _ (s₁.setTop (mkF m 47 #[.val (.int (64 : Int32)), .val (.int (0 : Int32)), .val (.int (0 : Int32))] [(.int (0 : Int32))]))
  refine own_pre (fun _ kz_ => XS.ifYes X0.here hx rfl (pc0 := 47) (pc' := 59) rfl (hb hby d7_47) rfl ((if0 _ _).trans (flt (by decide : ¬ ((0 : Int32) < (0 : Int32)))).2.1) (by decide) (by decide) kz_) ?_
  show OwnGoes p e below _ (s₁.setTop (mkF m 59 #[.val (.int (64 : Int32)), .val (.int (0 : Int32)), .val (.int (0 : Int32))] []))
  refine own_pre (fun _ kz_ => XS.iloadN X0.here hx rfl (hb hby d7_59) rfl kz_) ?_
  show OwnGoes p e below _ (s₁.setTop (mkF m 60 #[.val (.int (64 : Int32)), .val (.int (0 : Int32)), .val (.int (0 : Int32))] [(.int (0 : Int32))]))
  refine own_pre (fun _ kz_ => XS.iloadN X0.here hx rfl (hb hby d7_60) rfl kz_) ?_
  show OwnGoes p e below _ (s₁.setTop (mkF m 61 #[.val (.int (64 : Int32)), .val (.int (0 : Int32)), .val (.int (0 : Int32))] [(.int (64 : Int32)), (.int (0 : Int32))]))
  refine own_pre (fun _ kz_ => XS.icmpYes X0.here hx rfl (pc0 := 61) (pc' := 73) rfl (hb hby d7_61) rfl (flt (by decide : ¬ ((64 : Int32) < (0 : Int32)))).2.2.2 (by decide) (by decide) kz_) ?_
  show OwnGoes p e below _ (s₁.setTop (mkF m 73 #[.val (.int (64 : Int32)), .val (.int (0 : Int32)), .val (.int (0 : Int32))] []))
  exact own_retV X0 hx Bd.returns Bd.notSynchronized (hb hby d7_73) ⟨rfl, N0, e0⟩ (by decide) (by decide)
set_option maxRecDepth 65536 in
set_option maxHeartbeats 40000000 in
theorem rmRg1 (l : Launch) (Z : State) (a0 : Array Value) (hw : ∀ d ∈ tables_1, d.before a0 Z = true) (ws : List Jvm.Cond)  (h0 : Heap) (n0 : Nat) (Z0 : n0 ≤ h0.size) :
    MetFree l (⟨"java/util/Arrays", "rangeCheck", "(III)V"⟩ : MethodName) (head1 (Jvm.Cond.code (⟨"java/util/Arrays", "rangeCheck", "(III)V"⟩ : MethodName) jdk_65_method_30_code 3 none :: ws) ({ frames := 0, cells := 0, slots := 0, locals := 0 } : Room)) (fun a U => a = #[(.int (64 : Int32)), (.int (0 : Int32)), (.int (1 : Int32))] ∧ Z.Warmed39 U.vm ∧ U.heap = h0) (fun _ _ _ _ _ => True) (fun _ Uw_ ow_ Ue_ => ∃ vw_ Lw_, ow_ = .returned vw_ ∧ QN h0 n0 vw_ Ue_.heap Lw_ ∧ FrameEnd Uw_ ow_ Ue_ Lw_ ({ frames := 0, cells := 0, slots := 0, locals := 0 } : Room).cells ({ frames := 0, cells := 0, slots := 0, locals := 0 } : Room).slots) := by
  refine MetFree.of_bodySF (plainFor_of_name (by first | (simp [plainName, overriddenIn]; done) | decide +kernel)) hisR ?_
  intro p e s m args below meth c s₁ Bd hml0 hP hK
  obtain ⟨rfl, hZ, hh⟩ := hP
  have hx := Bd.exec
  have hby := Bd.bytes
  have hml : c.maxLocals = 3 := hml0
  have hown : s.vm.findClass "java/util/Arrays" = some m.cls := findClass_of_methodNamed Bd.named
  have hnm := (name_of_methodNamed Bd.named Bd.method).1
  have X0 : Stand p l e ({ frames := 0, cells := 0, slots := 0, locals := 0 } : Room) s m #[(.int (64 : Int32)), (.int (0 : Int32)), (.int (1 : Int32))] below meth c s₁ [] 0 0 := Stand.of_body Bd
  have e0 : s₁.heap = h0 := by rw [← hh, Bd.state]; rfl
  have N0 := Fr.nil n0
  have ef : entryFrame m #[(.int (64 : Int32)), (.int (0 : Int32)), (.int (1 : Int32))] 3 = (mkF m 0 #[.val (.int (64 : Int32)), .val (.int (0 : Int32)), .val (.int (1 : Int32))] []) := by first | (simp [entryFrame, mkF, argsToLocals, Value.category]; done) | rfl
  show OwnGoes p e below (fun ow_ Ue_ => ∃ vw_ Lw_, ow_ = .returned vw_ ∧ QN h0 n0 vw_ Ue_.heap Lw_ ∧ FrameEnd s ow_ Ue_ Lw_ ({ frames := 0, cells := 0, slots := 0, locals := 0 } : Room).cells ({ frames := 0, cells := 0, slots := 0, locals := 0 } : Room).slots) (s₁.setTop (entryFrame m #[(.int (64 : Int32)), (.int (0 : Int32)), (.int (1 : Int32))] 3))
  refine own_pre (fun t k => castTop ef k) ?_
  show OwnGoes p e below _ (s₁.setTop (mkF m 0 #[.val (.int (64 : Int32)), .val (.int (0 : Int32)), .val (.int (1 : Int32))] []))
  refine own_pre (fun _ kz_ => XS.iloadN X0.here hx rfl (hb hby d7_0) rfl kz_) ?_
  show OwnGoes p e below _ (s₁.setTop (mkF m 1 #[.val (.int (64 : Int32)), .val (.int (0 : Int32)), .val (.int (1 : Int32))] [(.int (0 : Int32))]))
  refine own_pre (fun _ kz_ => XS.iloadN X0.here hx rfl (hb hby d7_1) rfl kz_) ?_
  show OwnGoes p e below _ (s₁.setTop (mkF m 2 #[.val (.int (64 : Int32)), .val (.int (0 : Int32)), .val (.int (1 : Int32))] [(.int (1 : Int32)), (.int (0 : Int32))]))
  refine own_pre (fun _ kz_ => XS.icmpYes X0.here hx rfl (pc0 := 2) (pc' := 46) rfl (hb hby d7_2) rfl (flt (by decide : ¬ ((1 : Int32) < (0 : Int32)))).2.2.2 (by decide) (by decide) kz_) ?_
  show OwnGoes p e below _ (s₁.setTop (mkF m 46 #[.val (.int (64 : Int32)), .val (.int (0 : Int32)), .val (.int (1 : Int32))] []))
  refine own_pre (fun _ kz_ => XS.iloadN X0.here hx rfl (hb hby d7_46) rfl kz_) ?_
  show OwnGoes p e below _ (s₁.setTop (mkF m 47 #[.val (.int (64 : Int32)), .val (.int (0 : Int32)), .val (.int (1 : Int32))] [(.int (0 : Int32))]))
  refine own_pre (fun _ kz_ => XS.ifYes X0.here hx rfl (pc0 := 47) (pc' := 59) rfl (hb hby d7_47) rfl ((if0 _ _).trans (flt (by decide : ¬ ((0 : Int32) < (0 : Int32)))).2.1) (by decide) (by decide) kz_) ?_
  show OwnGoes p e below _ (s₁.setTop (mkF m 59 #[.val (.int (64 : Int32)), .val (.int (0 : Int32)), .val (.int (1 : Int32))] []))
  refine own_pre (fun _ kz_ => XS.iloadN X0.here hx rfl (hb hby d7_59) rfl kz_) ?_
  show OwnGoes p e below _ (s₁.setTop (mkF m 60 #[.val (.int (64 : Int32)), .val (.int (0 : Int32)), .val (.int (1 : Int32))] [(.int (1 : Int32))]))
  refine own_pre (fun _ kz_ => XS.iloadN X0.here hx rfl (hb hby d7_60) rfl kz_) ?_
  show OwnGoes p e below _ (s₁.setTop (mkF m 61 #[.val (.int (64 : Int32)), .val (.int (0 : Int32)), .val (.int (1 : Int32))] [(.int (64 : Int32)), (.int (1 : Int32))]))
  refine own_pre (fun _ kz_ => XS.icmpYes X0.here hx rfl (pc0 := 61) (pc' := 73) rfl (hb hby d7_61) rfl (flt (by decide : ¬ ((64 : Int32) < (1 : Int32)))).2.2.2 (by decide) (by decide) kz_) ?_
  show OwnGoes p e below _ (s₁.setTop (mkF m 73 #[.val (.int (64 : Int32)), .val (.int (0 : Int32)), .val (.int (1 : Int32))] []))
  exact own_retV X0 hx Bd.returns Bd.notSynchronized (hb hby d7_73) ⟨rfl, N0, e0⟩ (by decide) (by decide)
set_option maxRecDepth 65536 in
set_option maxHeartbeats 40000000 in
theorem rmRg2 (l : Launch) (Z : State) (a0 : Array Value) (hw : ∀ d ∈ tables_1, d.before a0 Z = true) (ws : List Jvm.Cond)  (h0 : Heap) (n0 : Nat) (Z0 : n0 ≤ h0.size) :
    MetFree l (⟨"java/util/Arrays", "rangeCheck", "(III)V"⟩ : MethodName) (head1 (Jvm.Cond.code (⟨"java/util/Arrays", "rangeCheck", "(III)V"⟩ : MethodName) jdk_65_method_30_code 3 none :: ws) ({ frames := 0, cells := 0, slots := 0, locals := 0 } : Room)) (fun a U => a = #[(.int (64 : Int32)), (.int (0 : Int32)), (.int (2 : Int32))] ∧ Z.Warmed39 U.vm ∧ U.heap = h0) (fun _ _ _ _ _ => True) (fun _ Uw_ ow_ Ue_ => ∃ vw_ Lw_, ow_ = .returned vw_ ∧ QN h0 n0 vw_ Ue_.heap Lw_ ∧ FrameEnd Uw_ ow_ Ue_ Lw_ ({ frames := 0, cells := 0, slots := 0, locals := 0 } : Room).cells ({ frames := 0, cells := 0, slots := 0, locals := 0 } : Room).slots) := by
  refine MetFree.of_bodySF (plainFor_of_name (by first | (simp [plainName, overriddenIn]; done) | decide +kernel)) hisR ?_
  intro p e s m args below meth c s₁ Bd hml0 hP hK
  obtain ⟨rfl, hZ, hh⟩ := hP
  have hx := Bd.exec
  have hby := Bd.bytes
  have hml : c.maxLocals = 3 := hml0
  have hown : s.vm.findClass "java/util/Arrays" = some m.cls := findClass_of_methodNamed Bd.named
  have hnm := (name_of_methodNamed Bd.named Bd.method).1
  have X0 : Stand p l e ({ frames := 0, cells := 0, slots := 0, locals := 0 } : Room) s m #[(.int (64 : Int32)), (.int (0 : Int32)), (.int (2 : Int32))] below meth c s₁ [] 0 0 := Stand.of_body Bd
  have e0 : s₁.heap = h0 := by rw [← hh, Bd.state]; rfl
  have N0 := Fr.nil n0
  have ef : entryFrame m #[(.int (64 : Int32)), (.int (0 : Int32)), (.int (2 : Int32))] 3 = (mkF m 0 #[.val (.int (64 : Int32)), .val (.int (0 : Int32)), .val (.int (2 : Int32))] []) := by first | (simp [entryFrame, mkF, argsToLocals, Value.category]; done) | rfl
  show OwnGoes p e below (fun ow_ Ue_ => ∃ vw_ Lw_, ow_ = .returned vw_ ∧ QN h0 n0 vw_ Ue_.heap Lw_ ∧ FrameEnd s ow_ Ue_ Lw_ ({ frames := 0, cells := 0, slots := 0, locals := 0 } : Room).cells ({ frames := 0, cells := 0, slots := 0, locals := 0 } : Room).slots) (s₁.setTop (entryFrame m #[(.int (64 : Int32)), (.int (0 : Int32)), (.int (2 : Int32))] 3))
  refine own_pre (fun t k => castTop ef k) ?_
  show OwnGoes p e below _ (s₁.setTop (mkF m 0 #[.val (.int (64 : Int32)), .val (.int (0 : Int32)), .val (.int (2 : Int32))] []))
  refine own_pre (fun _ kz_ => XS.iloadN X0.here hx rfl (hb hby d7_0) rfl kz_) ?_
  show OwnGoes p e below _ (s₁.setTop (mkF m 1 #[.val (.int (64 : Int32)), .val (.int (0 : Int32)), .val (.int (2 : Int32))] [(.int (0 : Int32))]))
  refine own_pre (fun _ kz_ => XS.iloadN X0.here hx rfl (hb hby d7_1) rfl kz_) ?_
  show OwnGoes p e below _ (s₁.setTop (mkF m 2 #[.val (.int (64 : Int32)), .val (.int (0 : Int32)), .val (.int (2 : Int32))] [(.int (2 : Int32)), (.int (0 : Int32))]))
  refine own_pre (fun _ kz_ => XS.icmpYes X0.here hx rfl (pc0 := 2) (pc' := 46) rfl (hb hby d7_2) rfl (flt (by decide : ¬ ((2 : Int32) < (0 : Int32)))).2.2.2 (by decide) (by decide) kz_) ?_
  show OwnGoes p e below _ (s₁.setTop (mkF m 46 #[.val (.int (64 : Int32)), .val (.int (0 : Int32)), .val (.int (2 : Int32))] []))
  refine own_pre (fun _ kz_ => XS.iloadN X0.here hx rfl (hb hby d7_46) rfl kz_) ?_
  show OwnGoes p e below _ (s₁.setTop (mkF m 47 #[.val (.int (64 : Int32)), .val (.int (0 : Int32)), .val (.int (2 : Int32))] [(.int (0 : Int32))]))
  refine own_pre (fun _ kz_ => XS.ifYes X0.here hx rfl (pc0 := 47) (pc' := 59) rfl (hb hby d7_47) rfl ((if0 _ _).trans (flt (by decide : ¬ ((0 : Int32) < (0 : Int32)))).2.1) (by decide) (by decide) kz_) ?_
  show OwnGoes p e below _ (s₁.setTop (mkF m 59 #[.val (.int (64 : Int32)), .val (.int (0 : Int32)), .val (.int (2 : Int32))] []))
  refine own_pre (fun _ kz_ => XS.iloadN X0.here hx rfl (hb hby d7_59) rfl kz_) ?_
  show OwnGoes p e below _ (s₁.setTop (mkF m 60 #[.val (.int (64 : Int32)), .val (.int (0 : Int32)), .val (.int (2 : Int32))] [(.int (2 : Int32))]))
  refine own_pre (fun _ kz_ => XS.iloadN X0.here hx rfl (hb hby d7_60) rfl kz_) ?_
  show OwnGoes p e below _ (s₁.setTop (mkF m 61 #[.val (.int (64 : Int32)), .val (.int (0 : Int32)), .val (.int (2 : Int32))] [(.int (64 : Int32)), (.int (2 : Int32))]))
  refine own_pre (fun _ kz_ => XS.icmpYes X0.here hx rfl (pc0 := 61) (pc' := 73) rfl (hb hby d7_61) rfl (flt (by decide : ¬ ((64 : Int32) < (2 : Int32)))).2.2.2 (by decide) (by decide) kz_) ?_
  show OwnGoes p e below _ (s₁.setTop (mkF m 73 #[.val (.int (64 : Int32)), .val (.int (0 : Int32)), .val (.int (2 : Int32))] []))
  exact own_retV X0 hx Bd.returns Bd.notSynchronized (hb hby d7_73) ⟨rfl, N0, e0⟩ (by decide) (by decide)
set_option maxRecDepth 65536 in
set_option maxHeartbeats 40000000 in
theorem rmIns1 (l : Launch) (Z : State) (a0 : Array Value) (hw : ∀ d ∈ tables_1, d.before a0 Z = true) (ws : List Jvm.Cond) (b : Addr) (x0 x1 : Int64) (tl : List Value) (h0 : Heap) (n0 : Nat) (Z0 : n0 ≤ h0.size) (V : OwnA Z h0 b .long (.long x0 :: .long x1 :: tl)) (ht : tl.length = 62) (g_b : n0 ≤ b) :
    MetFree l (⟨"java/util/DualPivotQuicksort", "insertionSort", "([JII)V"⟩ : MethodName) (head1 (Jvm.Cond.code (⟨"java/util/DualPivotQuicksort", "insertionSort", "([JII)V"⟩ : MethodName) jdk_2529_method_15_code 7 none :: ws) ({ frames := 0, cells := 0, slots := 0, locals := 0 } : Room)) (fun a U => a = #[(.ref b), (.int (0 : Int32)), (.int (1 : Int32))] ∧ Z.Warmed39 U.vm ∧ U.heap = h0) (fun _ _ _ _ _ => True) (fun _ Uw_ ow_ Ue_ => ∃ vw_ Lw_, ow_ = .returned vw_ ∧ QN h0 n0 vw_ Ue_.heap Lw_ ∧ FrameEnd Uw_ ow_ Ue_ Lw_ ({ frames := 0, cells := 0, slots := 0, locals := 0 } : Room).cells ({ frames := 0, cells := 0, slots := 0, locals := 0 } : Room).slots) := by
  refine MetFree.of_bodySF (plainFor_of_name (by first | (simp [plainName, overriddenIn]; done) | decide +kernel)) hisR ?_
  intro p e s m args below meth c s₁ Bd hml0 hP hK
  obtain ⟨rfl, hZ, hh⟩ := hP
  have hx := Bd.exec
  have hby := Bd.bytes
  have hml : c.maxLocals = 7 := hml0
  have hown : s.vm.findClass "java/util/DualPivotQuicksort" = some m.cls := findClass_of_methodNamed Bd.named
  have hnm := (name_of_methodNamed Bd.named Bd.method).1
  have X0 : Stand p l e ({ frames := 0, cells := 0, slots := 0, locals := 0 } : Room) s m #[(.ref b), (.int (0 : Int32)), (.int (1 : Int32))] below meth c s₁ [] 0 0 := Stand.of_body Bd
  have e0 : s₁.heap = h0 := by rw [← hh, Bd.state]; rfl
  have N0 := Fr.nil n0
  have ef : entryFrame m #[(.ref b), (.int (0 : Int32)), (.int (1 : Int32))] 7 = (mkF m 0 #[.val (.ref b), .val (.int (0 : Int32)), .val (.int (1 : Int32)), .unset, .unset, .unset, .unset] []) := by first | (simp [entryFrame, mkF, argsToLocals, Value.category]; done) | rfl
  show OwnGoes p e below (fun ow_ Ue_ => ∃ vw_ Lw_, ow_ = .returned vw_ ∧ QN h0 n0 vw_ Ue_.heap Lw_ ∧ FrameEnd s ow_ Ue_ Lw_ ({ frames := 0, cells := 0, slots := 0, locals := 0 } : Room).cells ({ frames := 0, cells := 0, slots := 0, locals := 0 } : Room).slots) (s₁.setTop (entryFrame m #[(.ref b), (.int (0 : Int32)), (.int (1 : Int32))] 7))
  refine own_pre (fun t k => castTop ef k) ?_
  show OwnGoes p e below _ (s₁.setTop (mkF m 0 #[.val (.ref b), .val (.int (0 : Int32)), .val (.int (1 : Int32)), .unset, .unset, .unset, .unset] []))
  refine own_pre (fun _ kz_ => XS.iloadN X0.here hx rfl (hb hby d10_0) rfl kz_) ?_
  show OwnGoes p e below _ (s₁.setTop (mkF m 1 #[.val (.ref b), .val (.int (0 : Int32)), .val (.int (1 : Int32)), .unset, .unset, .unset, .unset] [(.int (0 : Int32))]))
  refine own_pre (fun _ kz_ => XS.istore X0.here hx rfl (hb hby d10_1) rfl (l' := #[.val (.ref b), .val (.int (0 : Int32)), .val (.int (1 : Int32)), .unset, .val (.int (0 : Int32)), .unset, .unset]) rfl kz_) ?_
  show OwnGoes p e below _ (s₁.setTop (mkF m 3 #[.val (.ref b), .val (.int (0 : Int32)), .val (.int (1 : Int32)), .unset, .val (.int (0 : Int32)), .unset, .unset] []))
  refine own_pre (fun _ kz_ => XS.iinc X0.here hx rfl (hb hby d10_3) rfl (l' := #[.val (.ref b), .val (.int (0 : Int32)), .val (.int (1 : Int32)), .unset, .val (.int ((0 : Int32) + (1 : Int32))), .unset, .unset]) rfl kz_) ?_
  show OwnGoes p e below _ (s₁.setTop (mkF m 6 #[.val (.ref b), .val (.int (0 : Int32)), .val (.int (1 : Int32)), .unset, .val (.int ((0 : Int32) + (1 : Int32))), .unset, .unset] []))
  rw [show ((0 : Int32) + (1 : Int32)) = (1 : Int32) from by decide]
  show OwnGoes p e below _ (s₁.setTop (mkF m 6 #[.val (.ref b), .val (.int (0 : Int32)), .val (.int (1 : Int32)), .unset, .val (.int (1 : Int32)), .unset, .unset] []))
  refine own_pre (fun _ kz_ => XS.iload X0.here hx rfl (hb hby d10_6) rfl kz_) ?_
  show OwnGoes p e below _ (s₁.setTop (mkF m 8 #[.val (.ref b), .val (.int (0 : Int32)), .val (.int (1 : Int32)), .unset, .val (.int (1 : Int32)), .unset, .unset] [(.int (1 : Int32))]))
  refine own_pre (fun _ kz_ => XS.iloadN X0.here hx rfl (hb hby d10_8) rfl kz_) ?_
  show OwnGoes p e below _ (s₁.setTop (mkF m 9 #[.val (.ref b), .val (.int (0 : Int32)), .val (.int (1 : Int32)), .unset, .val (.int (1 : Int32)), .unset, .unset] [(.int (1 : Int32)), (.int (1 : Int32))]))
  refine own_pre (fun _ kz_ => XS.icmpYes X0.here hx rfl (pc0 := 9) (pc' := 69) rfl (hb hby d10_9) rfl (flt (by decide : ¬ ((1 : Int32) < (1 : Int32)))).2.1 (by decide) (by decide) kz_) ?_
  show OwnGoes p e below _ (s₁.setTop (mkF m 69 #[.val (.ref b), .val (.int (0 : Int32)), .val (.int (1 : Int32)), .unset, .val (.int (1 : Int32)), .unset, .unset] []))
  exact own_retV X0 hx Bd.returns Bd.notSynchronized (hb hby d10_69) ⟨rfl, N0, e0⟩ (by decide) (by decide)
set_option maxRecDepth 65536 in
set_option maxHeartbeats 40000000 in
theorem rmD2_1 (l : Launch) (Z : State) (a0 : Array Value) (hw : ∀ d ∈ tables_1, d.before a0 Z = true) (ws : List Jvm.Cond) (b : Addr) (x0 x1 : Int64) (tl : List Value) (h0 : Heap) (n0 : Nat) (Z0 : n0 ≤ h0.size) (V : OwnA Z h0 b .long (.long x0 :: .long x1 :: tl)) (ht : tl.length = 62) (g_b : n0 ≤ b) :
    MetFree l (⟨"java/util/DualPivotQuicksort", "sort", "(Ljava/util/DualPivotQuicksort$Sorter;[JIII)V"⟩ : MethodName) (head1 (Jvm.Cond.code (⟨"java/util/DualPivotQuicksort", "sort", "(Ljava/util/DualPivotQuicksort$Sorter;[JIII)V"⟩ : MethodName) jdk_2529_method_13_code 25 none :: ws) ({ frames := 1, cells := 0, slots := 0, locals := 18 } : Room)) (fun a U => a = #[.null, (.ref b), (.int (0 : Int32)), (.int (0 : Int32)), (.int (1 : Int32))] ∧ Z.Warmed39 U.vm ∧ U.heap = h0) (fun _ _ _ _ _ => True) (fun _ Uw_ ow_ Ue_ => ∃ vw_ Lw_, ow_ = .returned vw_ ∧ QN h0 n0 vw_ Ue_.heap Lw_ ∧ FrameEnd Uw_ ow_ Ue_ Lw_ ({ frames := 1, cells := 0, slots := 0, locals := 18 } : Room).cells ({ frames := 1, cells := 0, slots := 0, locals := 18 } : Room).slots) := by
  refine MetFree.of_bodySF (plainFor_of_name (by first | (simp [plainName, overriddenIn]; done) | decide +kernel)) hisR ?_
  intro p e s m args below meth c s₁ Bd hml0 hP hK
  obtain ⟨rfl, hZ, hh⟩ := hP
  have hx := Bd.exec
  have hby := Bd.bytes
  have hml : c.maxLocals = 25 := hml0
  have hown : s.vm.findClass "java/util/DualPivotQuicksort" = some m.cls := findClass_of_methodNamed Bd.named
  have hnm := (name_of_methodNamed Bd.named Bd.method).1
  have X0 : Stand p l e ({ frames := 1, cells := 0, slots := 0, locals := 18 } : Room) s m #[.null, (.ref b), (.int (0 : Int32)), (.int (0 : Int32)), (.int (1 : Int32))] below meth c s₁ [] 0 0 := Stand.of_body Bd
  have e0 : s₁.heap = h0 := by rw [← hh, Bd.state]; rfl
  have N0 := Fr.nil n0
  have ef : entryFrame m #[.null, (.ref b), (.int (0 : Int32)), (.int (0 : Int32)), (.int (1 : Int32))] 25 = (mkF m 0 #[.val .null, .val (.ref b), .val (.int (0 : Int32)), .val (.int (0 : Int32)), .val (.int (1 : Int32)), .unset, .unset, .unset, .unset, .unset, .unset, .unset, .unset, .unset, .unset, .unset, .unset, .unset, .unset, .unset, .unset, .unset, .unset, .unset, .unset] []) := by first | (simp [entryFrame, mkF, argsToLocals, Value.category]; done) | rfl
  show OwnGoes p e below (fun ow_ Ue_ => ∃ vw_ Lw_, ow_ = .returned vw_ ∧ QN h0 n0 vw_ Ue_.heap Lw_ ∧ FrameEnd s ow_ Ue_ Lw_ ({ frames := 1, cells := 0, slots := 0, locals := 18 } : Room).cells ({ frames := 1, cells := 0, slots := 0, locals := 18 } : Room).slots) (s₁.setTop (entryFrame m #[.null, (.ref b), (.int (0 : Int32)), (.int (0 : Int32)), (.int (1 : Int32))] 25))
  refine own_pre (fun t k => castTop ef k) ?_
  show OwnGoes p e below _ (s₁.setTop (mkF m 0 #[.val .null, .val (.ref b), .val (.int (0 : Int32)), .val (.int (0 : Int32)), .val (.int (1 : Int32)), .unset, .unset, .unset, .unset, .unset, .unset, .unset, .unset, .unset, .unset, .unset, .unset, .unset, .unset, .unset, .unset, .unset, .unset, .unset, .unset] []))
  refine own_pre (fun _ kz_ => XS.iload X0.here hx rfl (hb hby d9_0) rfl kz_) ?_
  show OwnGoes p e below _ (s₁.setTop (mkF m 2 #[.val .null, .val (.ref b), .val (.int (0 : Int32)), .val (.int (0 : Int32)), .val (.int (1 : Int32)), .unset, .unset, .unset, .unset, .unset, .unset, .unset, .unset, .unset, .unset, .unset, .unset, .unset, .unset, .unset, .unset, .unset, .unset, .unset, .unset] [(.int (1 : Int32))]))
  refine own_pre (fun _ kz_ => XS.iconst X0.here hx rfl (hb hby d9_2) kz_) ?_
  show OwnGoes p e below _ (s₁.setTop (mkF m 3 #[.val .null, .val (.ref b), .val (.int (0 : Int32)), .val (.int (0 : Int32)), .val (.int (1 : Int32)), .unset, .unset, .unset, .unset, .unset, .unset, .unset, .unset, .unset, .unset, .unset, .unset, .unset, .unset, .unset, .unset, .unset, .unset, .unset, .unset] [(.int (1 : Int32)), (.int (1 : Int32))]))
  refine own_pre (fun _ kz_ => XS.isub X0.here hx rfl (hb hby d9_3) rfl kz_) ?_
  show OwnGoes p e below _ (s₁.setTop (mkF m 4 #[.val .null, .val (.ref b), .val (.int (0 : Int32)), .val (.int (0 : Int32)), .val (.int (1 : Int32)), .unset, .unset, .unset, .unset, .unset, .unset, .unset, .unset, .unset, .unset, .unset, .unset, .unset, .unset, .unset, .unset, .unset, .unset, .unset, .unset] [(.int ((1 : Int32) - (1 : Int32)))]))
  rw [show ((1 : Int32) - (1 : Int32)) = (0 : Int32) from by decide]
  show OwnGoes p e below _ (s₁.setTop (mkF m 4 #[.val .null, .val (.ref b), .val (.int (0 : Int32)), .val (.int (0 : Int32)), .val (.int (1 : Int32)), .unset, .unset, .unset, .unset, .unset, .unset, .unset, .unset, .unset, .unset, .unset, .unset, .unset, .unset, .unset, .unset, .unset, .unset, .unset, .unset] [(.int (0 : Int32))]))
  refine own_pre (fun _ kz_ => XS.istore X0.here hx rfl (hb hby d9_4) rfl (l' := #[.val .null, .val (.ref b), .val (.int (0 : Int32)), .val (.int (0 : Int32)), .val (.int (1 : Int32)), .val (.int (0 : Int32)), .unset, .unset, .unset, .unset, .unset, .unset, .unset, .unset, .unset, .unset, .unset, .unset, .unset, .unset, .unset, .unset, .unset, .unset, .unset]) rfl kz_) ?_
  show OwnGoes p e below _ (s₁.setTop (mkF m 6 #[.val .null, .val (.ref b), .val (.int (0 : Int32)), .val (.int (0 : Int32)), .val (.int (1 : Int32)), .val (.int (0 : Int32)), .unset, .unset, .unset, .unset, .unset, .unset, .unset, .unset, .unset, .unset, .unset, .unset, .unset, .unset, .unset, .unset, .unset, .unset, .unset] []))
  refine own_pre (fun _ kz_ => XS.iload X0.here hx rfl (hb hby d9_6) rfl kz_) ?_
  show OwnGoes p e below _ (s₁.setTop (mkF m 8 #[.val .null, .val (.ref b), .val (.int (0 : Int32)), .val (.int (0 : Int32)), .val (.int (1 : Int32)), .val (.int (0 : Int32)), .unset, .unset, .unset, .unset, .unset, .unset, .unset, .unset, .unset, .unset, .unset, .unset, .unset, .unset, .unset, .unset, .unset, .unset, .unset] [(.int (1 : Int32))]))
  refine own_pre (fun _ kz_ => XS.iloadN X0.here hx rfl (hb hby d9_8) rfl kz_) ?_
  show OwnGoes p e below _ (s₁.setTop (mkF m 9 #[.val .null, .val (.ref b), .val (.int (0 : Int32)), .val (.int (0 : Int32)), .val (.int (1 : Int32)), .val (.int (0 : Int32)), .unset, .unset, .unset, .unset, .unset, .unset, .unset, .unset, .unset, .unset, .unset, .unset, .unset, .unset, .unset, .unset, .unset, .unset, .unset] [(.int (0 : Int32)), (.int (1 : Int32))]))
  refine own_pre (fun _ kz_ => XS.isub X0.here hx rfl (hb hby d9_9) rfl kz_) ?_
  show OwnGoes p e below _ (s₁.setTop (mkF m 10 #[.val .null, .val (.ref b), .val (.int (0 : Int32)), .val (.int (0 : Int32)), .val (.int (1 : Int32)), .val (.int (0 : Int32)), .unset, .unset, .unset, .unset, .unset, .unset, .unset, .unset, .unset, .unset, .unset, .unset, .unset, .unset, .unset, .unset, .unset, .unset, .unset] [(.int ((1 : Int32) - (0 : Int32)))]))
  rw [show ((1 : Int32) - (0 : Int32)) = (1 : Int32) from by decide]
  show OwnGoes p e below _ (s₁.setTop (mkF m 10 #[.val .null, .val (.ref b), .val (.int (0 : Int32)), .val (.int (0 : Int32)), .val (.int (1 : Int32)), .val (.int (0 : Int32)), .unset, .unset, .unset, .unset, .unset, .unset, .unset, .unset, .unset, .unset, .unset, .unset, .unset, .unset, .unset, .unset, .unset, .unset, .unset] [(.int (1 : Int32))]))
  refine own_pre (fun _ kz_ => XS.istore X0.here hx rfl (hb hby d9_10) rfl (l' := #[.val .null, .val (.ref b), .val (.int (0 : Int32)), .val (.int (0 : Int32)), .val (.int (1 : Int32)), .val (.int (0 : Int32)), .val (.int (1 : Int32)), .unset, .unset, .unset, .unset, .unset, .unset, .unset, .unset, .unset, .unset, .unset, .unset, .unset, .unset, .unset, .unset, .unset, .unset]) rfl kz_) ?_
  show OwnGoes p e below _ (s₁.setTop (mkF m 12 #[.val .null, .val (.ref b), .val (.int (0 : Int32)), .val (.int (0 : Int32)), .val (.int (1 : Int32)), .val (.int (0 : Int32)), .val (.int (1 : Int32)), .unset, .unset, .unset, .unset, .unset, .unset, .unset, .unset, .unset, .unset, .unset, .unset, .unset, .unset, .unset, .unset, .unset, .unset] []))
  refine own_pre (fun _ kz_ => XS.iload X0.here hx rfl (hb hby d9_12) rfl kz_) ?_
  show OwnGoes p e below _ (s₁.setTop (mkF m 14 #[.val .null, .val (.ref b), .val (.int (0 : Int32)), .val (.int (0 : Int32)), .val (.int (1 : Int32)), .val (.int (0 : Int32)), .val (.int (1 : Int32)), .unset, .unset, .unset, .unset, .unset, .unset, .unset, .unset, .unset, .unset, .unset, .unset, .unset, .unset, .unset, .unset, .unset, .unset] [(.int (1 : Int32))]))
  refine own_pre (fun _ kz_ => XS.bipush X0.here hx rfl (hb hby d9_14) kz_) ?_
  show OwnGoes p e below _ (s₁.setTop (mkF m 16 #[.val .null, .val (.ref b), .val (.int (0 : Int32)), .val (.int (0 : Int32)), .val (.int (1 : Int32)), .val (.int (0 : Int32)), .val (.int (1 : Int32)), .unset, .unset, .unset, .unset, .unset, .unset, .unset, .unset, .unset, .unset, .unset, .unset, .unset, .unset, .unset, .unset, .unset, .unset] [(.int (65 : Int32)), (.int (1 : Int32))]))
  refine own_pre (fun _ kz_ => XS.iloadN X0.here hx rfl (hb hby d9_16) rfl kz_) ?_
  show OwnGoes p e below _ (s₁.setTop (mkF m 17 #[.val .null, .val (.ref b), .val (.int (0 : Int32)), .val (.int (0 : Int32)), .val (.int (1 : Int32)), .val (.int (0 : Int32)), .val (.int (1 : Int32)), .unset, .unset, .unset, .unset, .unset, .unset, .unset, .unset, .unset, .unset, .unset, .unset, .unset, .unset, .unset, .unset, .unset, .unset] [(.int (0 : Int32)), (.int (65 : Int32)), (.int (1 : Int32))]))
  refine own_pre (fun _ kz_ => XS.iadd X0.here hx rfl (hb hby d9_17) rfl kz_) ?_
  show OwnGoes p e below _ (s₁.setTop (mkF m 18 #[.val .null, .val (.ref b), .val (.int (0 : Int32)), .val (.int (0 : Int32)), .val (.int (1 : Int32)), .val (.int (0 : Int32)), .val (.int (1 : Int32)), .unset, .unset, .unset, .unset, .unset, .unset, .unset, .unset, .unset, .unset, .unset, .unset, .unset, .unset, .unset, .unset, .unset, .unset] [(.int ((65 : Int32) + (0 : Int32))), (.int (1 : Int32))]))
  rw [show ((65 : Int32) + (0 : Int32)) = (65 : Int32) from by decide]
  show OwnGoes p e below _ (s₁.setTop (mkF m 18 #[.val .null, .val (.ref b), .val (.int (0 : Int32)), .val (.int (0 : Int32)), .val (.int (1 : Int32)), .val (.int (0 : Int32)), .val (.int (1 : Int32)), .unset, .unset, .unset, .unset, .unset, .unset, .unset, .unset, .unset, .unset, .unset, .unset, .unset, .unset, .unset, .unset, .unset, .unset] [(.int (65 : Int32)), (.int (1 : Int32))]))
  refine own_pre (fun _ kz_ => XS.icmpNo X0.here hx rfl (hb hby d9_18) rfl (tlt (by decide : (1 : Int32) < (65 : Int32))).2.1 kz_) ?_
  show OwnGoes p e below _ (s₁.setTop (mkF m 21 #[.val .null, .val (.ref b), .val (.int (0 : Int32)), .val (.int (0 : Int32)), .val (.int (1 : Int32)), .val (.int (0 : Int32)), .val (.int (1 : Int32)), .unset, .unset, .unset, .unset, .unset, .unset, .unset, .unset, .unset, .unset, .unset, .unset, .unset, .unset, .unset, .unset, .unset, .unset] []))
  refine own_pre (fun _ kz_ => XS.iloadN X0.here hx rfl (hb hby d9_21) rfl kz_) ?_
  show OwnGoes p e below _ (s₁.setTop (mkF m 22 #[.val .null, .val (.ref b), .val (.int (0 : Int32)), .val (.int (0 : Int32)), .val (.int (1 : Int32)), .val (.int (0 : Int32)), .val (.int (1 : Int32)), .unset, .unset, .unset, .unset, .unset, .unset, .unset, .unset, .unset, .unset, .unset, .unset, .unset, .unset, .unset, .unset, .unset, .unset] [(.int (0 : Int32))]))
  refine own_pre (fun _ kz_ => XS.iconst X0.here hx rfl (hb hby d9_22) kz_) ?_
  show OwnGoes p e below _ (s₁.setTop (mkF m 23 #[.val .null, .val (.ref b), .val (.int (0 : Int32)), .val (.int (0 : Int32)), .val (.int (1 : Int32)), .val (.int (0 : Int32)), .val (.int (1 : Int32)), .unset, .unset, .unset, .unset, .unset, .unset, .unset, .unset, .unset, .unset, .unset, .unset, .unset, .unset, .unset, .unset, .unset, .unset] [(.int (1 : Int32)), (.int (0 : Int32))]))
  refine own_pre (fun _ kz_ => XS.iand X0.here hx rfl (hb hby d9_23) rfl kz_) ?_
  show OwnGoes p e below _ (s₁.setTop (mkF m 24 #[.val .null, .val (.ref b), .val (.int (0 : Int32)), .val (.int (0 : Int32)), .val (.int (1 : Int32)), .val (.int (0 : Int32)), .val (.int (1 : Int32)), .unset, .unset, .unset, .unset, .unset, .unset, .unset, .unset, .unset, .unset, .unset, .unset, .unset, .unset, .unset, .unset, .unset, .unset] [(.int ((0 : Int32) &&& (1 : Int32)))]))
  rw [show ((0 : Int32) &&& (1 : Int32)) = (0 : Int32) from by decide]
  show OwnGoes p e below _ (s₁.setTop (mkF m 24 #[.val .null, .val (.ref b), .val (.int (0 : Int32)), .val (.int (0 : Int32)), .val (.int (1 : Int32)), .val (.int (0 : Int32)), .val (.int (1 : Int32)), .unset, .unset, .unset, .unset, .unset, .unset, .unset, .unset, .unset, .unset, .unset, .unset, .unset, .unset, .unset, .unset, .unset, .unset] [(.int (0 : Int32))]))
  refine own_pre (fun _ kz_ => XS.ifYes X0.here hx rfl (pc0 := 24) (pc' := 46) rfl (hb hby d9_24) rfl ((if0 _ _).trans (flt (by decide : ¬ ((0 : Int32) < (0 : Int32)))).2.2.2) (by decide) (by decide) kz_) ?_
  show OwnGoes p e below _ (s₁.setTop (mkF m 46 #[.val .null, .val (.ref b), .val (.int (0 : Int32)), .val (.int (0 : Int32)), .val (.int (1 : Int32)), .val (.int (0 : Int32)), .val (.int (1 : Int32)), .unset, .unset, .unset, .unset, .unset, .unset, .unset, .unset, .unset, .unset, .unset, .unset, .unset, .unset, .unset, .unset, .unset, .unset] []))
  refine own_pre (fun _ kz_ => XS.iload X0.here hx rfl (hb hby d9_46) rfl kz_) ?_
  show OwnGoes p e below _ (s₁.setTop (mkF m 48 #[.val .null, .val (.ref b), .val (.int (0 : Int32)), .val (.int (0 : Int32)), .val (.int (1 : Int32)), .val (.int (0 : Int32)), .val (.int (1 : Int32)), .unset, .unset, .unset, .unset, .unset, .unset, .unset, .unset, .unset, .unset, .unset, .unset, .unset, .unset, .unset, .unset, .unset, .unset] [(.int (1 : Int32))]))
  refine own_pre (fun _ kz_ => XS.bipush X0.here hx rfl (hb hby d9_48) kz_) ?_
  show OwnGoes p e below _ (s₁.setTop (mkF m 50 #[.val .null, .val (.ref b), .val (.int (0 : Int32)), .val (.int (0 : Int32)), .val (.int (1 : Int32)), .val (.int (0 : Int32)), .val (.int (1 : Int32)), .unset, .unset, .unset, .unset, .unset, .unset, .unset, .unset, .unset, .unset, .unset, .unset, .unset, .unset, .unset, .unset, .unset, .unset] [(.int (44 : Int32)), (.int (1 : Int32))]))
  refine own_pre (fun _ kz_ => XS.icmpNo X0.here hx rfl (hb hby d9_50) rfl (tlt (by decide : (1 : Int32) < (44 : Int32))).2.1 kz_) ?_
  show OwnGoes p e below _ (s₁.setTop (mkF m 53 #[.val .null, .val (.ref b), .val (.int (0 : Int32)), .val (.int (0 : Int32)), .val (.int (1 : Int32)), .val (.int (0 : Int32)), .val (.int (1 : Int32)), .unset, .unset, .unset, .unset, .unset, .unset, .unset, .unset, .unset, .unset, .unset, .unset, .unset, .unset, .unset, .unset, .unset, .unset] []))
  refine own_pre (fun _ kz_ => XS.aloadN X0.here hx rfl (hb hby d9_53) rfl rfl kz_) ?_
  show OwnGoes p e below _ (s₁.setTop (mkF m 54 #[.val .null, .val (.ref b), .val (.int (0 : Int32)), .val (.int (0 : Int32)), .val (.int (1 : Int32)), .val (.int (0 : Int32)), .val (.int (1 : Int32)), .unset, .unset, .unset, .unset, .unset, .unset, .unset, .unset, .unset, .unset, .unset, .unset, .unset, .unset, .unset, .unset, .unset, .unset] [(.ref b)]))
  refine own_pre (fun _ kz_ => XS.iloadN X0.here hx rfl (hb hby d9_54) rfl kz_) ?_
  show OwnGoes p e below _ (s₁.setTop (mkF m 55 #[.val .null, .val (.ref b), .val (.int (0 : Int32)), .val (.int (0 : Int32)), .val (.int (1 : Int32)), .val (.int (0 : Int32)), .val (.int (1 : Int32)), .unset, .unset, .unset, .unset, .unset, .unset, .unset, .unset, .unset, .unset, .unset, .unset, .unset, .unset, .unset, .unset, .unset, .unset] [(.int (0 : Int32)), (.ref b)]))
  refine own_pre (fun _ kz_ => XS.iload X0.here hx rfl (hb hby d9_55) rfl kz_) ?_
  show OwnGoes p e below _ (s₁.setTop (mkF m 57 #[.val .null, .val (.ref b), .val (.int (0 : Int32)), .val (.int (0 : Int32)), .val (.int (1 : Int32)), .val (.int (0 : Int32)), .val (.int (1 : Int32)), .unset, .unset, .unset, .unset, .unset, .unset, .unset, .unset, .unset, .unset, .unset, .unset, .unset, .unset, .unset, .unset, .unset, .unset] [(.int (1 : Int32)), (.int (0 : Int32)), (.ref b)]))
  obtain ⟨_, _, ⟨T1, L1, k1, n1⟩, -, X1, ⟨Lc1, hQ1, l1, y1, z1⟩, st1⟩ := Jvm.LawKit.callS X0 hx (y := (⟨"java/util/DualPivotQuicksort", "insertionSort", "([JII)V"⟩ : MethodName)) hown (mvT hZ (hw _ (List.mem_of_getElem? (i := 48) rfl))) (mvT hZ (hw _ (List.mem_of_getElem? (i := 49) rfl))) (mvT hZ (hw _ (List.mem_of_getElem? (i := 43) rfl))) (mvT hZ (hw _ (List.mem_of_getElem? (i := 50) rfl))) (by decide) (backOf (W := 0) (rmIns1 l Z a0 hw [] b x0 x1 tl h0 n0 Z0 V ht g_b) hZ (hw _ (List.mem_of_getElem? (i := 50) rfl)) (hw _ (List.mem_of_getElem? (i := 43) rfl)) (by decide) (by decide)) (g := (mkF m 57 #[.val .null, .val (.ref b), .val (.int (0 : Int32)), .val (.int (0 : Int32)), .val (.int (1 : Int32)), .val (.int (0 : Int32)), .val (.int (1 : Int32)), .unset, .unset, .unset, .unset, .unset, .unset, .unset, .unset, .unset, .unset, .unset, .unset, .unset, .unset, .unset, .unset, .unset, .unset] [(.int (1 : Int32)), (.int (0 : Int32)), (.ref b)])) rfl (by rw [hml]; rfl) (argsL := [(.ref b), (.int (0 : Int32)), (.int (1 : Int32))]) (rest := []) (lenOf (d := "([JII)V") (ps := [(.array .long), .int, .int]) (r := none) (by decide +kernel) rfl) rfl (by show 2 * 0 + _ ≤ _; exact Nat.le_of_eq rfl) (hb hby d9_57) (fun _ _ => ⟨rfl, e0, (by decide : 0 + 0 ≤ _), (by decide : 0 + 0 ≤ _)⟩)
  dsimp only [Pt.U, Pt.locs, Pt.cells, Pt.slots] at X1 l1 y1 z1 st1 hQ1
  subst l1 y1 z1
  obtain ⟨rfl, N1q, e1⟩ := hQ1
  have N1 := Fr.app N0 N1q
  refine own_pre st1 ?_
  show OwnGoes p e below _ (T1.setTop (mkF m 60 #[.val .null, .val (.ref b), .val (.int (0 : Int32)), .val (.int (0 : Int32)), .val (.int (1 : Int32)), .val (.int (0 : Int32)), .val (.int (1 : Int32)), .unset, .unset, .unset, .unset, .unset, .unset, .unset, .unset, .unset, .unset, .unset, .unset, .unset, .unset, .unset, .unset, .unset, .unset] []))
  exact own_retV X1 hx Bd.returns Bd.notSynchronized (hb hby d9_60) ⟨rfl, N1, e1⟩ (by decide) (by decide)
set_option maxRecDepth 65536 in
set_option maxHeartbeats 40000000 in
theorem rmD1_1 (l : Launch) (Z : State) (a0 : Array Value) (hw : ∀ d ∈ tables_1, d.before a0 Z = true) (ws : List Jvm.Cond) (b : Addr) (x0 x1 : Int64) (tl : List Value) (h0 : Heap) (n0 : Nat) (Z0 : n0 ≤ h0.size) (V : OwnA Z h0 b .long (.long x0 :: .long x1 :: tl)) (ht : tl.length = 62) (g_b : n0 ≤ b) :
    MetFree l (⟨"java/util/DualPivotQuicksort", "sort", "([JIII)V"⟩ : MethodName) (head1 (Jvm.Cond.code (⟨"java/util/DualPivotQuicksort", "sort", "([JIII)V"⟩ : MethodName) jdk_2529_method_12_code 7 none :: ws) ({ frames := 2, cells := 0, slots := 0, locals := 54 } : Room)) (fun a U => a = #[(.ref b), (.int (0 : Int32)), (.int (0 : Int32)), (.int (1 : Int32))] ∧ Z.Warmed39 U.vm ∧ U.heap = h0) (fun _ _ _ _ _ => True) (fun _ Uw_ ow_ Ue_ => ∃ vw_ Lw_, ow_ = .returned vw_ ∧ QN h0 n0 vw_ Ue_.heap Lw_ ∧ FrameEnd Uw_ ow_ Ue_ Lw_ ({ frames := 2, cells := 0, slots := 0, locals := 54 } : Room).cells ({ frames := 2, cells := 0, slots := 0, locals := 54 } : Room).slots) := by
  refine MetFree.of_bodySF (plainFor_of_name (by first | (simp [plainName, overriddenIn]; done) | decide +kernel)) hisR ?_
  intro p e s m args below meth c s₁ Bd hml0 hP hK
  obtain ⟨rfl, hZ, hh⟩ := hP
  have hx := Bd.exec
  have hby := Bd.bytes
  have hml : c.maxLocals = 7 := hml0
  have hown : s.vm.findClass "java/util/DualPivotQuicksort" = some m.cls := findClass_of_methodNamed Bd.named
  have hnm := (name_of_methodNamed Bd.named Bd.method).1
  have X0 : Stand p l e ({ frames := 2, cells := 0, slots := 0, locals := 54 } : Room) s m #[(.ref b), (.int (0 : Int32)), (.int (0 : Int32)), (.int (1 : Int32))] below meth c s₁ [] 0 0 := Stand.of_body Bd
  have e0 : s₁.heap = h0 := by rw [← hh, Bd.state]; rfl
  have N0 := Fr.nil n0
  have ef : entryFrame m #[(.ref b), (.int (0 : Int32)), (.int (0 : Int32)), (.int (1 : Int32))] 7 = (mkF m 0 #[.val (.ref b), .val (.int (0 : Int32)), .val (.int (0 : Int32)), .val (.int (1 : Int32)), .unset, .unset, .unset] []) := by first | (simp [entryFrame, mkF, argsToLocals, Value.category]; done) | rfl
  show OwnGoes p e below (fun ow_ Ue_ => ∃ vw_ Lw_, ow_ = .returned vw_ ∧ QN h0 n0 vw_ Ue_.heap Lw_ ∧ FrameEnd s ow_ Ue_ Lw_ ({ frames := 2, cells := 0, slots := 0, locals := 54 } : Room).cells ({ frames := 2, cells := 0, slots := 0, locals := 54 } : Room).slots) (s₁.setTop (entryFrame m #[(.ref b), (.int (0 : Int32)), (.int (0 : Int32)), (.int (1 : Int32))] 7))
  refine own_pre (fun t k => castTop ef k) ?_
  show OwnGoes p e below _ (s₁.setTop (mkF m 0 #[.val (.ref b), .val (.int (0 : Int32)), .val (.int (0 : Int32)), .val (.int (1 : Int32)), .unset, .unset, .unset] []))
  refine own_pre (fun _ kz_ => XS.iloadN X0.here hx rfl (hb hby d8_0) rfl kz_) ?_
  show OwnGoes p e below _ (s₁.setTop (mkF m 1 #[.val (.ref b), .val (.int (0 : Int32)), .val (.int (0 : Int32)), .val (.int (1 : Int32)), .unset, .unset, .unset] [(.int (1 : Int32))]))
  refine own_pre (fun _ kz_ => XS.iloadN X0.here hx rfl (hb hby d8_1) rfl kz_) ?_
  show OwnGoes p e below _ (s₁.setTop (mkF m 2 #[.val (.ref b), .val (.int (0 : Int32)), .val (.int (0 : Int32)), .val (.int (1 : Int32)), .unset, .unset, .unset] [(.int (0 : Int32)), (.int (1 : Int32))]))
  refine own_pre (fun _ kz_ => XS.isub X0.here hx rfl (hb hby d8_2) rfl kz_) ?_
  show OwnGoes p e below _ (s₁.setTop (mkF m 3 #[.val (.ref b), .val (.int (0 : Int32)), .val (.int (0 : Int32)), .val (.int (1 : Int32)), .unset, .unset, .unset] [(.int ((1 : Int32) - (0 : Int32)))]))
  rw [show ((1 : Int32) - (0 : Int32)) = (1 : Int32) from by decide]
  show OwnGoes p e below _ (s₁.setTop (mkF m 3 #[.val (.ref b), .val (.int (0 : Int32)), .val (.int (0 : Int32)), .val (.int (1 : Int32)), .unset, .unset, .unset] [(.int (1 : Int32))]))
  refine own_pre (fun _ kz_ => XS.istore X0.here hx rfl (hb hby d8_3) rfl (l' := #[.val (.ref b), .val (.int (0 : Int32)), .val (.int (0 : Int32)), .val (.int (1 : Int32)), .val (.int (1 : Int32)), .unset, .unset]) rfl kz_) ?_
  show OwnGoes p e below _ (s₁.setTop (mkF m 5 #[.val (.ref b), .val (.int (0 : Int32)), .val (.int (0 : Int32)), .val (.int (1 : Int32)), .val (.int (1 : Int32)), .unset, .unset] []))
  refine own_pre (fun _ kz_ => XS.iloadN X0.here hx rfl (hb hby d8_5) rfl kz_) ?_
  show OwnGoes p e below _ (s₁.setTop (mkF m 6 #[.val (.ref b), .val (.int (0 : Int32)), .val (.int (0 : Int32)), .val (.int (1 : Int32)), .val (.int (1 : Int32)), .unset, .unset] [(.int (0 : Int32))]))
  refine own_pre (fun _ kz_ => XS.iconst X0.here hx rfl (hb hby d8_6) kz_) ?_
  show OwnGoes p e below _ (s₁.setTop (mkF m 7 #[.val (.ref b), .val (.int (0 : Int32)), .val (.int (0 : Int32)), .val (.int (1 : Int32)), .val (.int (1 : Int32)), .unset, .unset] [(.int (1 : Int32)), (.int (0 : Int32))]))
  refine own_pre (fun _ kz_ => XS.icmpYes X0.here hx rfl (pc0 := 7) (pc' := 68) rfl (hb hby d8_7) rfl (flt (by decide : ¬ ((1 : Int32) < (0 : Int32)))).2.2.2 (by decide) (by decide) kz_) ?_
  show OwnGoes p e below _ (s₁.setTop (mkF m 68 #[.val (.ref b), .val (.int (0 : Int32)), .val (.int (0 : Int32)), .val (.int (1 : Int32)), .val (.int (1 : Int32)), .unset, .unset] []))
  refine own_pre (fun _ kz_ => XS.aconstNull X0.here hx rfl (hb hby d8_68) kz_) ?_
  show OwnGoes p e below _ (s₁.setTop (mkF m 69 #[.val (.ref b), .val (.int (0 : Int32)), .val (.int (0 : Int32)), .val (.int (1 : Int32)), .val (.int (1 : Int32)), .unset, .unset] [.null]))
  refine own_pre (fun _ kz_ => XS.aloadN X0.here hx rfl (hb hby d8_69) rfl rfl kz_) ?_
  show OwnGoes p e below _ (s₁.setTop (mkF m 70 #[.val (.ref b), .val (.int (0 : Int32)), .val (.int (0 : Int32)), .val (.int (1 : Int32)), .val (.int (1 : Int32)), .unset, .unset] [(.ref b), .null]))
  refine own_pre (fun _ kz_ => XS.iconst X0.here hx rfl (hb hby d8_70) kz_) ?_
  show OwnGoes p e below _ (s₁.setTop (mkF m 71 #[.val (.ref b), .val (.int (0 : Int32)), .val (.int (0 : Int32)), .val (.int (1 : Int32)), .val (.int (1 : Int32)), .unset, .unset] [(.int (0 : Int32)), (.ref b), .null]))
  refine own_pre (fun _ kz_ => XS.iloadN X0.here hx rfl (hb hby d8_71) rfl kz_) ?_
  show OwnGoes p e below _ (s₁.setTop (mkF m 72 #[.val (.ref b), .val (.int (0 : Int32)), .val (.int (0 : Int32)), .val (.int (1 : Int32)), .val (.int (1 : Int32)), .unset, .unset] [(.int (0 : Int32)), (.int (0 : Int32)), (.ref b), .null]))
  refine own_pre (fun _ kz_ => XS.iloadN X0.here hx rfl (hb hby d8_72) rfl kz_) ?_
  show OwnGoes p e below _ (s₁.setTop (mkF m 73 #[.val (.ref b), .val (.int (0 : Int32)), .val (.int (0 : Int32)), .val (.int (1 : Int32)), .val (.int (1 : Int32)), .unset, .unset] [(.int (1 : Int32)), (.int (0 : Int32)), (.int (0 : Int32)), (.ref b), .null]))
  obtain ⟨_, _, ⟨T1, L1, k1, n1⟩, -, X1, ⟨Lc1, hQ1, l1, y1, z1⟩, st1⟩ := Jvm.LawKit.callS X0 hx (y := (⟨"java/util/DualPivotQuicksort", "sort", "(Ljava/util/DualPivotQuicksort$Sorter;[JIII)V"⟩ : MethodName)) hown (mvT hZ (hw _ (List.mem_of_getElem? (i := 45) rfl))) (mvT hZ (hw _ (List.mem_of_getElem? (i := 46) rfl))) (mvT hZ (hw _ (List.mem_of_getElem? (i := 43) rfl))) (mvT hZ (hw _ (List.mem_of_getElem? (i := 47) rfl))) (by decide) (backOf (W := 0) (rmD2_1 l Z a0 hw [] b x0 x1 tl h0 n0 Z0 V ht g_b) hZ (hw _ (List.mem_of_getElem? (i := 47) rfl)) (hw _ (List.mem_of_getElem? (i := 43) rfl)) (by decide) (by decide)) (g := (mkF m 73 #[.val (.ref b), .val (.int (0 : Int32)), .val (.int (0 : Int32)), .val (.int (1 : Int32)), .val (.int (1 : Int32)), .unset, .unset] [(.int (1 : Int32)), (.int (0 : Int32)), (.int (0 : Int32)), (.ref b), .null])) rfl (by rw [hml]; rfl) (argsL := [.null, (.ref b), (.int (0 : Int32)), (.int (0 : Int32)), (.int (1 : Int32))]) (rest := []) (lenOf (d := "(Ljava/util/DualPivotQuicksort$Sorter;[JIII)V") (ps := [(.object "java/util/DualPivotQuicksort$Sorter"), (.array .long), .int, .int, .int]) (r := none) (by decide +kernel) rfl) rfl (by show 2 * 0 + _ ≤ _; exact Nat.le_of_eq rfl) (hb hby d8_73) (fun _ _ => ⟨rfl, e0, (by decide : 0 + 0 ≤ _), (by decide : 0 + 0 ≤ _)⟩)
  dsimp only [Pt.U, Pt.locs, Pt.cells, Pt.slots] at X1 l1 y1 z1 st1 hQ1
  subst l1 y1 z1
  obtain ⟨rfl, N1q, e1⟩ := hQ1
  have N1 := Fr.app N0 N1q
  refine own_pre st1 ?_
  show OwnGoes p e below _ (T1.setTop (mkF m 76 #[.val (.ref b), .val (.int (0 : Int32)), .val (.int (0 : Int32)), .val (.int (1 : Int32)), .val (.int (1 : Int32)), .unset, .unset] []))
  exact own_retV X1 hx Bd.returns Bd.notSynchronized (hb hby d8_76) ⟨rfl, N1, e1⟩ (by decide) (by decide)
set_option maxRecDepth 65536 in
set_option maxHeartbeats 40000000 in
theorem rmSo1 (l : Launch) (Z : State) (a0 : Array Value) (hw : ∀ d ∈ tables_1, d.before a0 Z = true) (ws : List Jvm.Cond) (b : Addr) (x0 x1 : Int64) (tl : List Value) (h0 : Heap) (n0 : Nat) (Z0 : n0 ≤ h0.size) (V : OwnA Z h0 b .long (.long x0 :: .long x1 :: tl)) (ht : tl.length = 62) (g_b : n0 ≤ b) :
    MetFree l (⟨"java/util/Arrays", "sort", "([JII)V"⟩ : MethodName) (head1 (Jvm.Cond.code (⟨"java/util/Arrays", "sort", "([JII)V"⟩ : MethodName) jdk_65_method_5_code 3 none :: ws) ({ frames := 3, cells := 0, slots := 0, locals := 72 } : Room)) (fun a U => a = #[(.ref b), (.int (0 : Int32)), (.int (1 : Int32))] ∧ Z.Warmed39 U.vm ∧ U.heap = h0) (fun _ _ _ _ _ => True) (fun _ Uw_ ow_ Ue_ => ∃ vw_ Lw_, ow_ = .returned vw_ ∧ QN h0 n0 vw_ Ue_.heap Lw_ ∧ FrameEnd Uw_ ow_ Ue_ Lw_ ({ frames := 3, cells := 0, slots := 0, locals := 72 } : Room).cells ({ frames := 3, cells := 0, slots := 0, locals := 72 } : Room).slots) := by
  refine MetFree.of_bodySF (plainFor_of_name (by first | (simp [plainName, overriddenIn]; done) | decide +kernel)) hisR ?_
  intro p e s m args below meth c s₁ Bd hml0 hP hK
  obtain ⟨rfl, hZ, hh⟩ := hP
  have hx := Bd.exec
  have hby := Bd.bytes
  have hml : c.maxLocals = 3 := hml0
  have hown : s.vm.findClass "java/util/Arrays" = some m.cls := findClass_of_methodNamed Bd.named
  have hnm := (name_of_methodNamed Bd.named Bd.method).1
  have X0 : Stand p l e ({ frames := 3, cells := 0, slots := 0, locals := 72 } : Room) s m #[(.ref b), (.int (0 : Int32)), (.int (1 : Int32))] below meth c s₁ [] 0 0 := Stand.of_body Bd
  have e0 : s₁.heap = h0 := by rw [← hh, Bd.state]; rfl
  have N0 := Fr.nil n0
  have ef : entryFrame m #[(.ref b), (.int (0 : Int32)), (.int (1 : Int32))] 3 = (mkF m 0 #[.val (.ref b), .val (.int (0 : Int32)), .val (.int (1 : Int32))] []) := by first | (simp [entryFrame, mkF, argsToLocals, Value.category]; done) | rfl
  show OwnGoes p e below (fun ow_ Ue_ => ∃ vw_ Lw_, ow_ = .returned vw_ ∧ QN h0 n0 vw_ Ue_.heap Lw_ ∧ FrameEnd s ow_ Ue_ Lw_ ({ frames := 3, cells := 0, slots := 0, locals := 72 } : Room).cells ({ frames := 3, cells := 0, slots := 0, locals := 72 } : Room).slots) (s₁.setTop (entryFrame m #[(.ref b), (.int (0 : Int32)), (.int (1 : Int32))] 3))
  refine own_pre (fun t k => castTop ef k) ?_
  show OwnGoes p e below _ (s₁.setTop (mkF m 0 #[.val (.ref b), .val (.int (0 : Int32)), .val (.int (1 : Int32))] []))
  refine own_pre (fun _ kz_ => XS.aloadN X0.here hx rfl (hb hby d6_0) rfl rfl kz_) ?_
  show OwnGoes p e below _ (s₁.setTop (mkF m 1 #[.val (.ref b), .val (.int (0 : Int32)), .val (.int (1 : Int32))] [(.ref b)]))
  refine own_pre (own_alen X0 hx hZ e0 V (n := (64 : Int32)) (by show (64 : Int32) = Int32.ofNat (tl.length + 1 + 1); rw [ht]; rfl) (g := (mkF m 1 #[.val (.ref b), .val (.int (0 : Int32)), .val (.int (1 : Int32))] [(.ref b)])) rfl rfl (hb hby d6_1)) ?_
  show OwnGoes p e below _ (s₁.setTop (mkF m 2 #[.val (.ref b), .val (.int (0 : Int32)), .val (.int (1 : Int32))] [(.int (64 : Int32))]))
  refine own_pre (fun _ kz_ => XS.iloadN X0.here hx rfl (hb hby d6_2) rfl kz_) ?_
  show OwnGoes p e below _ (s₁.setTop (mkF m 3 #[.val (.ref b), .val (.int (0 : Int32)), .val (.int (1 : Int32))] [(.int (0 : Int32)), (.int (64 : Int32))]))
  refine own_pre (fun _ kz_ => XS.iloadN X0.here hx rfl (hb hby d6_3) rfl kz_) ?_
  show OwnGoes p e below _ (s₁.setTop (mkF m 4 #[.val (.ref b), .val (.int (0 : Int32)), .val (.int (1 : Int32))] [(.int (1 : Int32)), (.int (0 : Int32)), (.int (64 : Int32))]))
  obtain ⟨_, _, ⟨T1, L1, k1, n1⟩, -, X1, ⟨Lc1, hQ1, l1, y1, z1⟩, st1⟩ := Jvm.LawKit.callS X0 hx (y := (⟨"java/util/Arrays", "rangeCheck", "(III)V"⟩ : MethodName)) hown (mvT hZ (hw _ (List.mem_of_getElem? (i := 38) rfl))) (mvT hZ (hw _ (List.mem_of_getElem? (i := 39) rfl))) (mvT hZ (hw _ (List.mem_of_getElem? (i := 36) rfl))) (mvT hZ (hw _ (List.mem_of_getElem? (i := 40) rfl))) (by decide) (backOf (W := 0) (rmRg1 l Z a0 hw [] h0 n0 Z0) hZ (hw _ (List.mem_of_getElem? (i := 40) rfl)) (hw _ (List.mem_of_getElem? (i := 36) rfl)) (by decide) (by decide)) (g := (mkF m 4 #[.val (.ref b), .val (.int (0 : Int32)), .val (.int (1 : Int32))] [(.int (1 : Int32)), (.int (0 : Int32)), (.int (64 : Int32))])) rfl (by rw [hml]; rfl) (argsL := [(.int (64 : Int32)), (.int (0 : Int32)), (.int (1 : Int32))]) (rest := []) (lenOf (d := "(III)V") (ps := [.int, .int, .int]) (r := none) (by decide +kernel) rfl) rfl (by show 2 * 0 + _ ≤ _; exact Nat.le_of_eq rfl) (hb hby d6_4) (fun _ _ => ⟨rfl, e0, (by decide : 0 + 0 ≤ _), (by decide : 0 + 0 ≤ _)⟩)
  dsimp only [Pt.U, Pt.locs, Pt.cells, Pt.slots] at X1 l1 y1 z1 st1 hQ1
  subst l1 y1 z1
  obtain ⟨rfl, N1q, e1⟩ := hQ1
  have N1 := Fr.app N0 N1q
  refine own_pre st1 ?_
  show OwnGoes p e below _ (T1.setTop (mkF m 7 #[.val (.ref b), .val (.int (0 : Int32)), .val (.int (1 : Int32))] []))
  refine own_pre (fun _ kz_ => XS.aloadN X1.here hx rfl (hb hby d6_7) rfl rfl kz_) ?_
  show OwnGoes p e below _ (T1.setTop (mkF m 8 #[.val (.ref b), .val (.int (0 : Int32)), .val (.int (1 : Int32))] [(.ref b)]))
  refine own_pre (fun _ kz_ => XS.iconst X1.here hx rfl (hb hby d6_8) kz_) ?_
  show OwnGoes p e below _ (T1.setTop (mkF m 9 #[.val (.ref b), .val (.int (0 : Int32)), .val (.int (1 : Int32))] [(.int (0 : Int32)), (.ref b)]))
  refine own_pre (fun _ kz_ => XS.iloadN X1.here hx rfl (hb hby d6_9) rfl kz_) ?_
  show OwnGoes p e below _ (T1.setTop (mkF m 10 #[.val (.ref b), .val (.int (0 : Int32)), .val (.int (1 : Int32))] [(.int (0 : Int32)), (.int (0 : Int32)), (.ref b)]))
  refine own_pre (fun _ kz_ => XS.iloadN X1.here hx rfl (hb hby d6_10) rfl kz_) ?_
  show OwnGoes p e below _ (T1.setTop (mkF m 11 #[.val (.ref b), .val (.int (0 : Int32)), .val (.int (1 : Int32))] [(.int (1 : Int32)), (.int (0 : Int32)), (.int (0 : Int32)), (.ref b)]))
  obtain ⟨_, _, ⟨T2, L2, k2, n2⟩, -, X2, ⟨Lc2, hQ2, l2, y2, z2⟩, st2⟩ := Jvm.LawKit.callS X1 hx (y := (⟨"java/util/DualPivotQuicksort", "sort", "([JIII)V"⟩ : MethodName)) hown (mvT hZ (hw _ (List.mem_of_getElem? (i := 41) rfl))) (mvT hZ (hw _ (List.mem_of_getElem? (i := 42) rfl))) (mvT hZ (hw _ (List.mem_of_getElem? (i := 43) rfl))) (mvT hZ (hw _ (List.mem_of_getElem? (i := 44) rfl))) (by decide) (backOf (W := 0) (rmD1_1 l Z a0 hw [] b x0 x1 tl h0 n0 Z0 V ht g_b) hZ (hw _ (List.mem_of_getElem? (i := 44) rfl)) (hw _ (List.mem_of_getElem? (i := 43) rfl)) (by decide) (by decide)) (g := (mkF m 11 #[.val (.ref b), .val (.int (0 : Int32)), .val (.int (1 : Int32))] [(.int (1 : Int32)), (.int (0 : Int32)), (.int (0 : Int32)), (.ref b)])) rfl (by rw [hml]; rfl) (argsL := [(.ref b), (.int (0 : Int32)), (.int (0 : Int32)), (.int (1 : Int32))]) (rest := []) (lenOf (d := "([JIII)V") (ps := [(.array .long), .int, .int, .int]) (r := none) (by decide +kernel) rfl) rfl (by show 2 * 0 + _ ≤ _; exact Nat.le_of_eq rfl) (hb hby d6_11) (fun _ _ => ⟨rfl, e1, (by decide : 0 + 0 ≤ _), (by decide : 0 + 0 ≤ _)⟩)
  dsimp only [Pt.U, Pt.locs, Pt.cells, Pt.slots] at X2 l2 y2 z2 st2 hQ2
  subst l2 y2 z2
  obtain ⟨rfl, N2q, e2⟩ := hQ2
  have N2 := Fr.app N1 N2q
  refine own_pre st2 ?_
  show OwnGoes p e below _ (T2.setTop (mkF m 14 #[.val (.ref b), .val (.int (0 : Int32)), .val (.int (1 : Int32))] []))
  exact own_retV X2 hx Bd.returns Bd.notSynchronized (hb hby d6_14) ⟨rfl, N2, e2⟩ (by decide) (by decide)
set_option maxRecDepth 65536 in
set_option maxHeartbeats 40000000 in
theorem rmIns2 (l : Launch) (Z : State) (a0 : Array Value) (hw : ∀ d ∈ tables_1, d.before a0 Z = true) (ws : List Jvm.Cond) (b : Addr) (x0 x1 : Int64) (tl : List Value) (h0 : Heap) (n0 : Nat) (Z0 : n0 ≤ h0.size) (V : OwnA Z h0 b .long (.long x0 :: .long x1 :: tl)) (ht : tl.length = 62) (g_b : n0 ≤ b) :
    MetFree l (⟨"java/util/DualPivotQuicksort", "insertionSort", "([JII)V"⟩ : MethodName) (head1 (Jvm.Cond.code (⟨"java/util/DualPivotQuicksort", "insertionSort", "([JII)V"⟩ : MethodName) jdk_2529_method_15_code 7 none :: ws) ({ frames := 0, cells := 0, slots := 0, locals := 0 } : Room)) (fun a U => a = #[(.ref b), (.int (0 : Int32)), (.int (2 : Int32))] ∧ Z.Warmed39 U.vm ∧ U.heap = h0) (fun _ _ _ _ _ => True) (fun _ Uw_ ow_ Ue_ => ∃ vw_ Lw_, ow_ = .returned vw_ ∧ QM Z b tl h0 n0 vw_ Ue_.heap Lw_ ∧ FrameEnd Uw_ ow_ Ue_ Lw_ ({ frames := 0, cells := 0, slots := 0, locals := 0 } : Room).cells ({ frames := 0, cells := 0, slots := 0, locals := 0 } : Room).slots) := by
  refine MetFree.of_bodySF (plainFor_of_name (by first | (simp [plainName, overriddenIn]; done) | decide +kernel)) hisR ?_
  intro p e s m args below meth c s₁ Bd hml0 hP hK
  obtain ⟨rfl, hZ, hh⟩ := hP
  have hx := Bd.exec
  have hby := Bd.bytes
  have hml : c.maxLocals = 7 := hml0
  have hown : s.vm.findClass "java/util/DualPivotQuicksort" = some m.cls := findClass_of_methodNamed Bd.named
  have hnm := (name_of_methodNamed Bd.named Bd.method).1
  have X0 : Stand p l e ({ frames := 0, cells := 0, slots := 0, locals := 0 } : Room) s m #[(.ref b), (.int (0 : Int32)), (.int (2 : Int32))] below meth c s₁ [] 0 0 := Stand.of_body Bd
  have e0 : s₁.heap = h0 := by rw [← hh, Bd.state]; rfl
  have N0 := Fr.nil n0
  have ef : entryFrame m #[(.ref b), (.int (0 : Int32)), (.int (2 : Int32))] 7 = (mkF m 0 #[.val (.ref b), .val (.int (0 : Int32)), .val (.int (2 : Int32)), .unset, .unset, .unset, .unset] []) := by first | (simp [entryFrame, mkF, argsToLocals, Value.category]; done) | rfl
  show OwnGoes p e below (fun ow_ Ue_ => ∃ vw_ Lw_, ow_ = .returned vw_ ∧ QM Z b tl h0 n0 vw_ Ue_.heap Lw_ ∧ FrameEnd s ow_ Ue_ Lw_ ({ frames := 0, cells := 0, slots := 0, locals := 0 } : Room).cells ({ frames := 0, cells := 0, slots := 0, locals := 0 } : Room).slots) (s₁.setTop (entryFrame m #[(.ref b), (.int (0 : Int32)), (.int (2 : Int32))] 7))
  refine own_pre (fun t k => castTop ef k) ?_
  show OwnGoes p e below _ (s₁.setTop (mkF m 0 #[.val (.ref b), .val (.int (0 : Int32)), .val (.int (2 : Int32)), .unset, .unset, .unset, .unset] []))
  refine own_pre (fun _ kz_ => XS.iloadN X0.here hx rfl (hb hby d10_0) rfl kz_) ?_
  show OwnGoes p e below _ (s₁.setTop (mkF m 1 #[.val (.ref b), .val (.int (0 : Int32)), .val (.int (2 : Int32)), .unset, .unset, .unset, .unset] [(.int (0 : Int32))]))
  refine own_pre (fun _ kz_ => XS.istore X0.here hx rfl (hb hby d10_1) rfl (l' := #[.val (.ref b), .val (.int (0 : Int32)), .val (.int (2 : Int32)), .unset, .val (.int (0 : Int32)), .unset, .unset]) rfl kz_) ?_
  show OwnGoes p e below _ (s₁.setTop (mkF m 3 #[.val (.ref b), .val (.int (0 : Int32)), .val (.int (2 : Int32)), .unset, .val (.int (0 : Int32)), .unset, .unset] []))
  refine own_pre (fun _ kz_ => XS.iinc X0.here hx rfl (hb hby d10_3) rfl (l' := #[.val (.ref b), .val (.int (0 : Int32)), .val (.int (2 : Int32)), .unset, .val (.int ((0 : Int32) + (1 : Int32))), .unset, .unset]) rfl kz_) ?_
  show OwnGoes p e below _ (s₁.setTop (mkF m 6 #[.val (.ref b), .val (.int (0 : Int32)), .val (.int (2 : Int32)), .unset, .val (.int ((0 : Int32) + (1 : Int32))), .unset, .unset] []))
  rw [show ((0 : Int32) + (1 : Int32)) = (1 : Int32) from by decide]
  show OwnGoes p e below _ (s₁.setTop (mkF m 6 #[.val (.ref b), .val (.int (0 : Int32)), .val (.int (2 : Int32)), .unset, .val (.int (1 : Int32)), .unset, .unset] []))
  refine own_pre (fun _ kz_ => XS.iload X0.here hx rfl (hb hby d10_6) rfl kz_) ?_
  show OwnGoes p e below _ (s₁.setTop (mkF m 8 #[.val (.ref b), .val (.int (0 : Int32)), .val (.int (2 : Int32)), .unset, .val (.int (1 : Int32)), .unset, .unset] [(.int (1 : Int32))]))
  refine own_pre (fun _ kz_ => XS.iloadN X0.here hx rfl (hb hby d10_8) rfl kz_) ?_
  show OwnGoes p e below _ (s₁.setTop (mkF m 9 #[.val (.ref b), .val (.int (0 : Int32)), .val (.int (2 : Int32)), .unset, .val (.int (1 : Int32)), .unset, .unset] [(.int (2 : Int32)), (.int (1 : Int32))]))
  refine own_pre (fun _ kz_ => XS.icmpNo X0.here hx rfl (hb hby d10_9) rfl (tlt (by decide : (1 : Int32) < (2 : Int32))).2.1 kz_) ?_
  show OwnGoes p e below _ (s₁.setTop (mkF m 12 #[.val (.ref b), .val (.int (0 : Int32)), .val (.int (2 : Int32)), .unset, .val (.int (1 : Int32)), .unset, .unset] []))
  refine own_pre (fun _ kz_ => XS.aloadN X0.here hx rfl (hb hby d10_12) rfl rfl kz_) ?_
  show OwnGoes p e below _ (s₁.setTop (mkF m 13 #[.val (.ref b), .val (.int (0 : Int32)), .val (.int (2 : Int32)), .unset, .val (.int (1 : Int32)), .unset, .unset] [(.ref b)]))
  refine own_pre (fun _ kz_ => XS.iload X0.here hx rfl (hb hby d10_13) rfl kz_) ?_
  show OwnGoes p e below _ (s₁.setTop (mkF m 15 #[.val (.ref b), .val (.int (0 : Int32)), .val (.int (2 : Int32)), .unset, .val (.int (1 : Int32)), .unset, .unset] [(.int (1 : Int32)), (.ref b)]))
  refine own_pre (fun _ kz_ => XS.dup X0.here hx rfl (hb hby d10_15) rfl rfl kz_) ?_
  show OwnGoes p e below _ (s₁.setTop (mkF m 16 #[.val (.ref b), .val (.int (0 : Int32)), .val (.int (2 : Int32)), .unset, .val (.int (1 : Int32)), .unset, .unset] [(.int (1 : Int32)), (.int (1 : Int32)), (.ref b)]))
  refine own_pre (fun _ kz_ => XS.istoreN X0.here hx rfl (hb hby d10_16) rfl (l' := #[.val (.ref b), .val (.int (0 : Int32)), .val (.int (2 : Int32)), .val (.int (1 : Int32)), .val (.int (1 : Int32)), .unset, .unset]) rfl kz_) ?_
  show OwnGoes p e below _ (s₁.setTop (mkF m 17 #[.val (.ref b), .val (.int (0 : Int32)), .val (.int (2 : Int32)), .val (.int (1 : Int32)), .val (.int (1 : Int32)), .unset, .unset] [(.int (1 : Int32)), (.ref b)]))
  refine own_pre (own_lald X0 hx hZ e0 V (j := (1 : Int32)) (v := (.long x1)) (by decide) rfl (g := (mkF m 17 #[.val (.ref b), .val (.int (0 : Int32)), .val (.int (2 : Int32)), .val (.int (1 : Int32)), .val (.int (1 : Int32)), .unset, .unset] [(.int (1 : Int32)), (.ref b)])) rfl rfl (hb hby d10_17)) ?_
  show OwnGoes p e below _ (s₁.setTop (mkF m 18 #[.val (.ref b), .val (.int (0 : Int32)), .val (.int (2 : Int32)), .val (.int (1 : Int32)), .val (.int (1 : Int32)), .unset, .unset] [(.long x1)]))
  refine own_pre (fun _ kz_ => XS.lstore X0.here hx rfl (hb hby d10_18) rfl (l' := #[.val (.ref b), .val (.int (0 : Int32)), .val (.int (2 : Int32)), .val (.int (1 : Int32)), .val (.int (1 : Int32)), .val (.long x1), .second]) rfl kz_) ?_
  show OwnGoes p e below _ (s₁.setTop (mkF m 20 #[.val (.ref b), .val (.int (0 : Int32)), .val (.int (2 : Int32)), .val (.int (1 : Int32)), .val (.int (1 : Int32)), .val (.long x1), .second] []))
  refine own_pre (fun _ kz_ => XS.lload X0.here hx rfl (hb hby d10_20) rfl kz_) ?_
  show OwnGoes p e below _ (s₁.setTop (mkF m 22 #[.val (.ref b), .val (.int (0 : Int32)), .val (.int (2 : Int32)), .val (.int (1 : Int32)), .val (.int (1 : Int32)), .val (.long x1), .second] [(.long x1)]))
  refine own_pre (fun _ kz_ => XS.aloadN X0.here hx rfl (hb hby d10_22) rfl rfl kz_) ?_
  show OwnGoes p e below _ (s₁.setTop (mkF m 23 #[.val (.ref b), .val (.int (0 : Int32)), .val (.int (2 : Int32)), .val (.int (1 : Int32)), .val (.int (1 : Int32)), .val (.long x1), .second] [(.ref b), (.long x1)]))
  refine own_pre (fun _ kz_ => XS.iloadN X0.here hx rfl (hb hby d10_23) rfl kz_) ?_
  show OwnGoes p e below _ (s₁.setTop (mkF m 24 #[.val (.ref b), .val (.int (0 : Int32)), .val (.int (2 : Int32)), .val (.int (1 : Int32)), .val (.int (1 : Int32)), .val (.long x1), .second] [(.int (1 : Int32)), (.ref b), (.long x1)]))
  refine own_pre (fun _ kz_ => XS.iconst X0.here hx rfl (hb hby d10_24) kz_) ?_
  show OwnGoes p e below _ (s₁.setTop (mkF m 25 #[.val (.ref b), .val (.int (0 : Int32)), .val (.int (2 : Int32)), .val (.int (1 : Int32)), .val (.int (1 : Int32)), .val (.long x1), .second] [(.int (1 : Int32)), (.int (1 : Int32)), (.ref b), (.long x1)]))
  refine own_pre (fun _ kz_ => XS.isub X0.here hx rfl (hb hby d10_25) rfl kz_) ?_
  show OwnGoes p e below _ (s₁.setTop (mkF m 26 #[.val (.ref b), .val (.int (0 : Int32)), .val (.int (2 : Int32)), .val (.int (1 : Int32)), .val (.int (1 : Int32)), .val (.long x1), .second] [(.int ((1 : Int32) - (1 : Int32))), (.ref b), (.long x1)]))
  rw [show ((1 : Int32) - (1 : Int32)) = (0 : Int32) from by decide]
  show OwnGoes p e below _ (s₁.setTop (mkF m 26 #[.val (.ref b), .val (.int (0 : Int32)), .val (.int (2 : Int32)), .val (.int (1 : Int32)), .val (.int (1 : Int32)), .val (.long x1), .second] [(.int (0 : Int32)), (.ref b), (.long x1)]))
  refine own_pre (own_lald X0 hx hZ e0 V (j := (0 : Int32)) (v := (.long x0)) (by decide) rfl (g := (mkF m 26 #[.val (.ref b), .val (.int (0 : Int32)), .val (.int (2 : Int32)), .val (.int (1 : Int32)), .val (.int (1 : Int32)), .val (.long x1), .second] [(.int (0 : Int32)), (.ref b), (.long x1)])) rfl rfl (hb hby d10_26)) ?_
  show OwnGoes p e below _ (s₁.setTop (mkF m 27 #[.val (.ref b), .val (.int (0 : Int32)), .val (.int (2 : Int32)), .val (.int (1 : Int32)), .val (.int (1 : Int32)), .val (.long x1), .second] [(.long x0), (.long x1)]))
  refine own_pre (fun _ kz_ => XS.lcmp X0.here hx rfl (hb hby d10_27) rfl kz_) ?_
  show OwnGoes p e below _ (s₁.setTop (mkF m 28 #[.val (.ref b), .val (.int (0 : Int32)), .val (.int (2 : Int32)), .val (.int (1 : Int32)), .val (.int (1 : Int32)), .val (.long x1), .second] [(.int (lcmpW x1 x0))]))
  by_cases h28 : x1 < x0
  · refine own_pre (fun _ kz_ => XS.ifNo X0.here hx rfl (hb hby d10_28) rfl ((if0 _ _).trans (tlt ((lw_lt x1 x0).mpr h28)).2.1) kz_) ?_
    show OwnGoes p e below _ (s₁.setTop (mkF m 31 #[.val (.ref b), .val (.int (0 : Int32)), .val (.int (2 : Int32)), .val (.int (1 : Int32)), .val (.int (1 : Int32)), .val (.long x1), .second] []))
    refine own_pre (fun _ kz_ => XS.iinc X0.here hx rfl (hb hby d10_31) rfl (l' := #[.val (.ref b), .val (.int (0 : Int32)), .val (.int (2 : Int32)), .val (.int ((1 : Int32) + (-1 : Int32))), .val (.int (1 : Int32)), .val (.long x1), .second]) rfl kz_) ?_
    show OwnGoes p e below _ (s₁.setTop (mkF m 34 #[.val (.ref b), .val (.int (0 : Int32)), .val (.int (2 : Int32)), .val (.int ((1 : Int32) + (-1 : Int32))), .val (.int (1 : Int32)), .val (.long x1), .second] []))
    rw [show ((1 : Int32) + (-1 : Int32)) = (0 : Int32) from by decide]
    show OwnGoes p e below _ (s₁.setTop (mkF m 34 #[.val (.ref b), .val (.int (0 : Int32)), .val (.int (2 : Int32)), .val (.int (0 : Int32)), .val (.int (1 : Int32)), .val (.long x1), .second] []))
    refine own_pre (fun _ kz_ => XS.iloadN X0.here hx rfl (hb hby d10_34) rfl kz_) ?_
    show OwnGoes p e below _ (s₁.setTop (mkF m 35 #[.val (.ref b), .val (.int (0 : Int32)), .val (.int (2 : Int32)), .val (.int (0 : Int32)), .val (.int (1 : Int32)), .val (.long x1), .second] [(.int (0 : Int32))]))
    refine own_pre (fun _ kz_ => XS.iloadN X0.here hx rfl (hb hby d10_35) rfl kz_) ?_
    show OwnGoes p e below _ (s₁.setTop (mkF m 36 #[.val (.ref b), .val (.int (0 : Int32)), .val (.int (2 : Int32)), .val (.int (0 : Int32)), .val (.int (1 : Int32)), .val (.long x1), .second] [(.int (0 : Int32)), (.int (0 : Int32))]))
    refine own_pre (fun _ kz_ => XS.icmpNo X0.here hx rfl (hb hby d10_36) rfl (flt (by decide : ¬ ((0 : Int32) < (0 : Int32)))).1 kz_) ?_
    show OwnGoes p e below _ (s₁.setTop (mkF m 39 #[.val (.ref b), .val (.int (0 : Int32)), .val (.int (2 : Int32)), .val (.int (0 : Int32)), .val (.int (1 : Int32)), .val (.long x1), .second] []))
    refine own_pre (fun _ kz_ => XS.lload X0.here hx rfl (hb hby d10_39) rfl kz_) ?_
    show OwnGoes p e below _ (s₁.setTop (mkF m 41 #[.val (.ref b), .val (.int (0 : Int32)), .val (.int (2 : Int32)), .val (.int (0 : Int32)), .val (.int (1 : Int32)), .val (.long x1), .second] [(.long x1)]))
    refine own_pre (fun _ kz_ => XS.aloadN X0.here hx rfl (hb hby d10_41) rfl rfl kz_) ?_
    show OwnGoes p e below _ (s₁.setTop (mkF m 42 #[.val (.ref b), .val (.int (0 : Int32)), .val (.int (2 : Int32)), .val (.int (0 : Int32)), .val (.int (1 : Int32)), .val (.long x1), .second] [(.ref b), (.long x1)]))
    refine own_pre (fun _ kz_ => XS.iloadN X0.here hx rfl (hb hby d10_42) rfl kz_) ?_
    show OwnGoes p e below _ (s₁.setTop (mkF m 43 #[.val (.ref b), .val (.int (0 : Int32)), .val (.int (2 : Int32)), .val (.int (0 : Int32)), .val (.int (1 : Int32)), .val (.long x1), .second] [(.int (0 : Int32)), (.ref b), (.long x1)]))
    refine own_pre (own_lald X0 hx hZ e0 V (j := (0 : Int32)) (v := (.long x0)) (by decide) rfl (g := (mkF m 43 #[.val (.ref b), .val (.int (0 : Int32)), .val (.int (2 : Int32)), .val (.int (0 : Int32)), .val (.int (1 : Int32)), .val (.long x1), .second] [(.int (0 : Int32)), (.ref b), (.long x1)])) rfl rfl (hb hby d10_43)) ?_
    show OwnGoes p e below _ (s₁.setTop (mkF m 44 #[.val (.ref b), .val (.int (0 : Int32)), .val (.int (2 : Int32)), .val (.int (0 : Int32)), .val (.int (1 : Int32)), .val (.long x1), .second] [(.long x0), (.long x1)]))
    refine own_pre (fun _ kz_ => XS.lcmp X0.here hx rfl (hb hby d10_44) rfl kz_) ?_
    show OwnGoes p e below _ (s₁.setTop (mkF m 45 #[.val (.ref b), .val (.int (0 : Int32)), .val (.int (2 : Int32)), .val (.int (0 : Int32)), .val (.int (1 : Int32)), .val (.long x1), .second] [(.int (lcmpW x1 x0))]))
    refine own_pre (fun _ kz_ => XS.ifNo X0.here hx rfl (hb hby d10_45) rfl ((if0 _ _).trans (tlt ((lw_lt x1 x0).mpr (h28 : x1 < x0))).2.1) kz_) ?_
    show OwnGoes p e below _ (s₁.setTop (mkF m 48 #[.val (.ref b), .val (.int (0 : Int32)), .val (.int (2 : Int32)), .val (.int (0 : Int32)), .val (.int (1 : Int32)), .val (.long x1), .second] []))
    refine own_pre (fun _ kz_ => XS.aloadN X0.here hx rfl (hb hby d10_48) rfl rfl kz_) ?_
    show OwnGoes p e below _ (s₁.setTop (mkF m 49 #[.val (.ref b), .val (.int (0 : Int32)), .val (.int (2 : Int32)), .val (.int (0 : Int32)), .val (.int (1 : Int32)), .val (.long x1), .second] [(.ref b)]))
    refine own_pre (fun _ kz_ => XS.iloadN X0.here hx rfl (hb hby d10_49) rfl kz_) ?_
    show OwnGoes p e below _ (s₁.setTop (mkF m 50 #[.val (.ref b), .val (.int (0 : Int32)), .val (.int (2 : Int32)), .val (.int (0 : Int32)), .val (.int (1 : Int32)), .val (.long x1), .second] [(.int (0 : Int32)), (.ref b)]))
    refine own_pre (fun _ kz_ => XS.iconst X0.here hx rfl (hb hby d10_50) kz_) ?_
    show OwnGoes p e below _ (s₁.setTop (mkF m 51 #[.val (.ref b), .val (.int (0 : Int32)), .val (.int (2 : Int32)), .val (.int (0 : Int32)), .val (.int (1 : Int32)), .val (.long x1), .second] [(.int (1 : Int32)), (.int (0 : Int32)), (.ref b)]))
    refine own_pre (fun _ kz_ => XS.iadd X0.here hx rfl (hb hby d10_51) rfl kz_) ?_
    show OwnGoes p e below _ (s₁.setTop (mkF m 52 #[.val (.ref b), .val (.int (0 : Int32)), .val (.int (2 : Int32)), .val (.int (0 : Int32)), .val (.int (1 : Int32)), .val (.long x1), .second] [(.int ((0 : Int32) + (1 : Int32))), (.ref b)]))
    rw [show ((0 : Int32) + (1 : Int32)) = (1 : Int32) from by decide]
    show OwnGoes p e below _ (s₁.setTop (mkF m 52 #[.val (.ref b), .val (.int (0 : Int32)), .val (.int (2 : Int32)), .val (.int (0 : Int32)), .val (.int (1 : Int32)), .val (.long x1), .second] [(.int (1 : Int32)), (.ref b)]))
    refine own_pre (fun _ kz_ => XS.aloadN X0.here hx rfl (hb hby d10_52) rfl rfl kz_) ?_
    show OwnGoes p e below _ (s₁.setTop (mkF m 53 #[.val (.ref b), .val (.int (0 : Int32)), .val (.int (2 : Int32)), .val (.int (0 : Int32)), .val (.int (1 : Int32)), .val (.long x1), .second] [(.ref b), (.int (1 : Int32)), (.ref b)]))
    refine own_pre (fun _ kz_ => XS.iloadN X0.here hx rfl (hb hby d10_53) rfl kz_) ?_
    show OwnGoes p e below _ (s₁.setTop (mkF m 54 #[.val (.ref b), .val (.int (0 : Int32)), .val (.int (2 : Int32)), .val (.int (0 : Int32)), .val (.int (1 : Int32)), .val (.long x1), .second] [(.int (0 : Int32)), (.ref b), (.int (1 : Int32)), (.ref b)]))
    refine own_pre (own_lald X0 hx hZ e0 V (j := (0 : Int32)) (v := (.long x0)) (by decide) rfl (g := (mkF m 54 #[.val (.ref b), .val (.int (0 : Int32)), .val (.int (2 : Int32)), .val (.int (0 : Int32)), .val (.int (1 : Int32)), .val (.long x1), .second] [(.int (0 : Int32)), (.ref b), (.int (1 : Int32)), (.ref b)])) rfl rfl (hb hby d10_54)) ?_
    show OwnGoes p e below _ (s₁.setTop (mkF m 55 #[.val (.ref b), .val (.int (0 : Int32)), .val (.int (2 : Int32)), .val (.int (0 : Int32)), .val (.int (1 : Int32)), .val (.long x1), .second] [(.long x0), (.int (1 : Int32)), (.ref b)]))
    obtain ⟨T1, h1, X1, e1, W1, V1, st1⟩ := own_jst X0 hx hZ e0 V (j := (1 : Int32)) (by decide) (by show 1 < tl.length + 1 + 1; omega) (g := (mkF m 55 #[.val (.ref b), .val (.int (0 : Int32)), .val (.int (2 : Int32)), .val (.int (0 : Int32)), .val (.int (1 : Int32)), .val (.long x1), .second] [(.long x0), (.int (1 : Int32)), (.ref b)])) rfl rfl (hb hby d10_55)
    have K1 := ((Keep.refl h0 [b])).wr W1 (Or.inl (List.mem_of_getElem? (i := 0) rfl))
    have Z1 := Nat.le_trans Z0 (Keep.of_wr W1).1
    have N1 := Fr.snoc X1 N0 g_b
    refine own_pre st1 ?_
    show OwnGoes p e below _ (T1.setTop (mkF m 56 #[.val (.ref b), .val (.int (0 : Int32)), .val (.int (2 : Int32)), .val (.int (0 : Int32)), .val (.int (1 : Int32)), .val (.long x1), .second] []))
    refine own_pre (fun _ kz_ => XS.goto X1.here hx rfl (pc0 := 56) (pc' := 31) rfl (hb hby d10_56) (by decide) (by decide) kz_) ?_
    show OwnGoes p e below _ (T1.setTop (mkF m 31 #[.val (.ref b), .val (.int (0 : Int32)), .val (.int (2 : Int32)), .val (.int (0 : Int32)), .val (.int (1 : Int32)), .val (.long x1), .second] []))
    refine own_pre (fun _ kz_ => XS.iinc X1.here hx rfl (hb hby d10_31) rfl (l' := #[.val (.ref b), .val (.int (0 : Int32)), .val (.int (2 : Int32)), .val (.int ((0 : Int32) + (-1 : Int32))), .val (.int (1 : Int32)), .val (.long x1), .second]) rfl kz_) ?_
    show OwnGoes p e below _ (T1.setTop (mkF m 34 #[.val (.ref b), .val (.int (0 : Int32)), .val (.int (2 : Int32)), .val (.int ((0 : Int32) + (-1 : Int32))), .val (.int (1 : Int32)), .val (.long x1), .second] []))
    rw [show ((0 : Int32) + (-1 : Int32)) = (-1 : Int32) from by decide]
    show OwnGoes p e below _ (T1.setTop (mkF m 34 #[.val (.ref b), .val (.int (0 : Int32)), .val (.int (2 : Int32)), .val (.int (-1 : Int32)), .val (.int (1 : Int32)), .val (.long x1), .second] []))
    refine own_pre (fun _ kz_ => XS.iloadN X1.here hx rfl (hb hby d10_34) rfl kz_) ?_
    show OwnGoes p e below _ (T1.setTop (mkF m 35 #[.val (.ref b), .val (.int (0 : Int32)), .val (.int (2 : Int32)), .val (.int (-1 : Int32)), .val (.int (1 : Int32)), .val (.long x1), .second] [(.int (-1 : Int32))]))
    refine own_pre (fun _ kz_ => XS.iloadN X1.here hx rfl (hb hby d10_35) rfl kz_) ?_
    show OwnGoes p e below _ (T1.setTop (mkF m 36 #[.val (.ref b), .val (.int (0 : Int32)), .val (.int (2 : Int32)), .val (.int (-1 : Int32)), .val (.int (1 : Int32)), .val (.long x1), .second] [(.int (0 : Int32)), (.int (-1 : Int32))]))
    refine own_pre (fun _ kz_ => XS.icmpYes X1.here hx rfl (pc0 := 36) (pc' := 59) rfl (hb hby d10_36) rfl (tlt (by decide : (-1 : Int32) < (0 : Int32))).1 (by decide) (by decide) kz_) ?_
    show OwnGoes p e below _ (T1.setTop (mkF m 59 #[.val (.ref b), .val (.int (0 : Int32)), .val (.int (2 : Int32)), .val (.int (-1 : Int32)), .val (.int (1 : Int32)), .val (.long x1), .second] []))
    refine own_pre (fun _ kz_ => XS.aloadN X1.here hx rfl (hb hby d10_59) rfl rfl kz_) ?_
    show OwnGoes p e below _ (T1.setTop (mkF m 60 #[.val (.ref b), .val (.int (0 : Int32)), .val (.int (2 : Int32)), .val (.int (-1 : Int32)), .val (.int (1 : Int32)), .val (.long x1), .second] [(.ref b)]))
    refine own_pre (fun _ kz_ => XS.iloadN X1.here hx rfl (hb hby d10_60) rfl kz_) ?_
    show OwnGoes p e below _ (T1.setTop (mkF m 61 #[.val (.ref b), .val (.int (0 : Int32)), .val (.int (2 : Int32)), .val (.int (-1 : Int32)), .val (.int (1 : Int32)), .val (.long x1), .second] [(.int (-1 : Int32)), (.ref b)]))
    refine own_pre (fun _ kz_ => XS.iconst X1.here hx rfl (hb hby d10_61) kz_) ?_
    show OwnGoes p e below _ (T1.setTop (mkF m 62 #[.val (.ref b), .val (.int (0 : Int32)), .val (.int (2 : Int32)), .val (.int (-1 : Int32)), .val (.int (1 : Int32)), .val (.long x1), .second] [(.int (1 : Int32)), (.int (-1 : Int32)), (.ref b)]))
    refine own_pre (fun _ kz_ => XS.iadd X1.here hx rfl (hb hby d10_62) rfl kz_) ?_
    show OwnGoes p e below _ (T1.setTop (mkF m 63 #[.val (.ref b), .val (.int (0 : Int32)), .val (.int (2 : Int32)), .val (.int (-1 : Int32)), .val (.int (1 : Int32)), .val (.long x1), .second] [(.int ((-1 : Int32) + (1 : Int32))), (.ref b)]))
    rw [show ((-1 : Int32) + (1 : Int32)) = (0 : Int32) from by decide]
    show OwnGoes p e below _ (T1.setTop (mkF m 63 #[.val (.ref b), .val (.int (0 : Int32)), .val (.int (2 : Int32)), .val (.int (-1 : Int32)), .val (.int (1 : Int32)), .val (.long x1), .second] [(.int (0 : Int32)), (.ref b)]))
    refine own_pre (fun _ kz_ => XS.lload X1.here hx rfl (hb hby d10_63) rfl kz_) ?_
    show OwnGoes p e below _ (T1.setTop (mkF m 65 #[.val (.ref b), .val (.int (0 : Int32)), .val (.int (2 : Int32)), .val (.int (-1 : Int32)), .val (.int (1 : Int32)), .val (.long x1), .second] [(.long x1), (.int (0 : Int32)), (.ref b)]))
    obtain ⟨T2, h2, X2, e2, W2, V2, st2⟩ := own_jst X1 hx hZ e1 V1 (j := (0 : Int32)) (by decide) (by rw [List.length_set]; show 0 < tl.length + 1 + 1; omega) (g := (mkF m 65 #[.val (.ref b), .val (.int (0 : Int32)), .val (.int (2 : Int32)), .val (.int (-1 : Int32)), .val (.int (1 : Int32)), .val (.long x1), .second] [(.long x1), (.int (0 : Int32)), (.ref b)])) rfl rfl (hb hby d10_65)
    have K2 := (K1).wr W2 (Or.inl (List.mem_of_getElem? (i := 0) rfl))
    have Z2 := Nat.le_trans Z1 (Keep.of_wr W2).1
    have N2 := Fr.snoc X2 N1 g_b
    refine own_pre st2 ?_
    show OwnGoes p e below _ (T2.setTop (mkF m 66 #[.val (.ref b), .val (.int (0 : Int32)), .val (.int (2 : Int32)), .val (.int (-1 : Int32)), .val (.int (1 : Int32)), .val (.long x1), .second] []))
    refine own_pre (fun _ kz_ => XS.goto X2.here hx rfl (pc0 := 66) (pc' := 3) rfl (hb hby d10_66) (by decide) (by decide) kz_) ?_
    show OwnGoes p e below _ (T2.setTop (mkF m 3 #[.val (.ref b), .val (.int (0 : Int32)), .val (.int (2 : Int32)), .val (.int (-1 : Int32)), .val (.int (1 : Int32)), .val (.long x1), .second] []))
    refine own_pre (fun _ kz_ => XS.iinc X2.here hx rfl (hb hby d10_3) rfl (l' := #[.val (.ref b), .val (.int (0 : Int32)), .val (.int (2 : Int32)), .val (.int (-1 : Int32)), .val (.int ((1 : Int32) + (1 : Int32))), .val (.long x1), .second]) rfl kz_) ?_
    show OwnGoes p e below _ (T2.setTop (mkF m 6 #[.val (.ref b), .val (.int (0 : Int32)), .val (.int (2 : Int32)), .val (.int (-1 : Int32)), .val (.int ((1 : Int32) + (1 : Int32))), .val (.long x1), .second] []))
    rw [show ((1 : Int32) + (1 : Int32)) = (2 : Int32) from by decide]
    show OwnGoes p e below _ (T2.setTop (mkF m 6 #[.val (.ref b), .val (.int (0 : Int32)), .val (.int (2 : Int32)), .val (.int (-1 : Int32)), .val (.int (2 : Int32)), .val (.long x1), .second] []))
    refine own_pre (fun _ kz_ => XS.iload X2.here hx rfl (hb hby d10_6) rfl kz_) ?_
    show OwnGoes p e below _ (T2.setTop (mkF m 8 #[.val (.ref b), .val (.int (0 : Int32)), .val (.int (2 : Int32)), .val (.int (-1 : Int32)), .val (.int (2 : Int32)), .val (.long x1), .second] [(.int (2 : Int32))]))
    refine own_pre (fun _ kz_ => XS.iloadN X2.here hx rfl (hb hby d10_8) rfl kz_) ?_
    show OwnGoes p e below _ (T2.setTop (mkF m 9 #[.val (.ref b), .val (.int (0 : Int32)), .val (.int (2 : Int32)), .val (.int (-1 : Int32)), .val (.int (2 : Int32)), .val (.long x1), .second] [(.int (2 : Int32)), (.int (2 : Int32))]))
    refine own_pre (fun _ kz_ => XS.icmpYes X2.here hx rfl (pc0 := 9) (pc' := 69) rfl (hb hby d10_9) rfl (flt (by decide : ¬ ((2 : Int32) < (2 : Int32)))).2.1 (by decide) (by decide) kz_) ?_
    show OwnGoes p e below _ (T2.setTop (mkF m 69 #[.val (.ref b), .val (.int (0 : Int32)), .val (.int (2 : Int32)), .val (.int (-1 : Int32)), .val (.int (2 : Int32)), .val (.long x1), .second] []))
    exact own_retV X2 hx Bd.returns Bd.notSynchronized (hb hby d10_69) ⟨rfl, N2, by rw [e2]; exact K2, _, _, by rw [e2]; exact V2⟩ (by decide) (by decide)
  · refine own_pre (fun _ kz_ => XS.ifYes X0.here hx rfl (pc0 := 28) (pc' := 66) rfl (hb hby d10_28) rfl ((if0 _ _).trans (flt (fun qz_ => h28 ((lw_lt x1 x0).mp qz_))).2.1) (by decide) (by decide) kz_) ?_
    show OwnGoes p e below _ (s₁.setTop (mkF m 66 #[.val (.ref b), .val (.int (0 : Int32)), .val (.int (2 : Int32)), .val (.int (1 : Int32)), .val (.int (1 : Int32)), .val (.long x1), .second] []))
    refine own_pre (fun _ kz_ => XS.goto X0.here hx rfl (pc0 := 66) (pc' := 3) rfl (hb hby d10_66) (by decide) (by decide) kz_) ?_
    show OwnGoes p e below _ (s₁.setTop (mkF m 3 #[.val (.ref b), .val (.int (0 : Int32)), .val (.int (2 : Int32)), .val (.int (1 : Int32)), .val (.int (1 : Int32)), .val (.long x1), .second] []))
    refine own_pre (fun _ kz_ => XS.iinc X0.here hx rfl (hb hby d10_3) rfl (l' := #[.val (.ref b), .val (.int (0 : Int32)), .val (.int (2 : Int32)), .val (.int (1 : Int32)), .val (.int ((1 : Int32) + (1 : Int32))), .val (.long x1), .second]) rfl kz_) ?_
    show OwnGoes p e below _ (s₁.setTop (mkF m 6 #[.val (.ref b), .val (.int (0 : Int32)), .val (.int (2 : Int32)), .val (.int (1 : Int32)), .val (.int ((1 : Int32) + (1 : Int32))), .val (.long x1), .second] []))
    rw [show ((1 : Int32) + (1 : Int32)) = (2 : Int32) from by decide]
    show OwnGoes p e below _ (s₁.setTop (mkF m 6 #[.val (.ref b), .val (.int (0 : Int32)), .val (.int (2 : Int32)), .val (.int (1 : Int32)), .val (.int (2 : Int32)), .val (.long x1), .second] []))
    refine own_pre (fun _ kz_ => XS.iload X0.here hx rfl (hb hby d10_6) rfl kz_) ?_
    show OwnGoes p e below _ (s₁.setTop (mkF m 8 #[.val (.ref b), .val (.int (0 : Int32)), .val (.int (2 : Int32)), .val (.int (1 : Int32)), .val (.int (2 : Int32)), .val (.long x1), .second] [(.int (2 : Int32))]))
    refine own_pre (fun _ kz_ => XS.iloadN X0.here hx rfl (hb hby d10_8) rfl kz_) ?_
    show OwnGoes p e below _ (s₁.setTop (mkF m 9 #[.val (.ref b), .val (.int (0 : Int32)), .val (.int (2 : Int32)), .val (.int (1 : Int32)), .val (.int (2 : Int32)), .val (.long x1), .second] [(.int (2 : Int32)), (.int (2 : Int32))]))
    refine own_pre (fun _ kz_ => XS.icmpYes X0.here hx rfl (pc0 := 9) (pc' := 69) rfl (hb hby d10_9) rfl (flt (by decide : ¬ ((2 : Int32) < (2 : Int32)))).2.1 (by decide) (by decide) kz_) ?_
    show OwnGoes p e below _ (s₁.setTop (mkF m 69 #[.val (.ref b), .val (.int (0 : Int32)), .val (.int (2 : Int32)), .val (.int (1 : Int32)), .val (.int (2 : Int32)), .val (.long x1), .second] []))
    exact own_retV X0 hx Bd.returns Bd.notSynchronized (hb hby d10_69) ⟨rfl, N0, by rw [e0]; exact (Keep.refl h0 [b]), _, _, by rw [e0]; exact V⟩ (by decide) (by decide)
set_option maxRecDepth 65536 in
set_option maxHeartbeats 40000000 in
theorem rmD2_2 (l : Launch) (Z : State) (a0 : Array Value) (hw : ∀ d ∈ tables_1, d.before a0 Z = true) (ws : List Jvm.Cond) (b : Addr) (x0 x1 : Int64) (tl : List Value) (h0 : Heap) (n0 : Nat) (Z0 : n0 ≤ h0.size) (V : OwnA Z h0 b .long (.long x0 :: .long x1 :: tl)) (ht : tl.length = 62) (g_b : n0 ≤ b) :
    MetFree l (⟨"java/util/DualPivotQuicksort", "sort", "(Ljava/util/DualPivotQuicksort$Sorter;[JIII)V"⟩ : MethodName) (head1 (Jvm.Cond.code (⟨"java/util/DualPivotQuicksort", "sort", "(Ljava/util/DualPivotQuicksort$Sorter;[JIII)V"⟩ : MethodName) jdk_2529_method_13_code 25 none :: ws) ({ frames := 1, cells := 0, slots := 0, locals := 18 } : Room)) (fun a U => a = #[.null, (.ref b), (.int (0 : Int32)), (.int (0 : Int32)), (.int (2 : Int32))] ∧ Z.Warmed39 U.vm ∧ U.heap = h0) (fun _ _ _ _ _ => True) (fun _ Uw_ ow_ Ue_ => ∃ vw_ Lw_, ow_ = .returned vw_ ∧ QM Z b tl h0 n0 vw_ Ue_.heap Lw_ ∧ FrameEnd Uw_ ow_ Ue_ Lw_ ({ frames := 1, cells := 0, slots := 0, locals := 18 } : Room).cells ({ frames := 1, cells := 0, slots := 0, locals := 18 } : Room).slots) := by
  refine MetFree.of_bodySF (plainFor_of_name (by first | (simp [plainName, overriddenIn]; done) | decide +kernel)) hisR ?_
  intro p e s m args below meth c s₁ Bd hml0 hP hK
  obtain ⟨rfl, hZ, hh⟩ := hP
  have hx := Bd.exec
  have hby := Bd.bytes
  have hml : c.maxLocals = 25 := hml0
  have hown : s.vm.findClass "java/util/DualPivotQuicksort" = some m.cls := findClass_of_methodNamed Bd.named
  have hnm := (name_of_methodNamed Bd.named Bd.method).1
  have X0 : Stand p l e ({ frames := 1, cells := 0, slots := 0, locals := 18 } : Room) s m #[.null, (.ref b), (.int (0 : Int32)), (.int (0 : Int32)), (.int (2 : Int32))] below meth c s₁ [] 0 0 := Stand.of_body Bd
  have e0 : s₁.heap = h0 := by rw [← hh, Bd.state]; rfl
  have N0 := Fr.nil n0
  have ef : entryFrame m #[.null, (.ref b), (.int (0 : Int32)), (.int (0 : Int32)), (.int (2 : Int32))] 25 = (mkF m 0 #[.val .null, .val (.ref b), .val (.int (0 : Int32)), .val (.int (0 : Int32)), .val (.int (2 : Int32)), .unset, .unset, .unset, .unset, .unset, .unset, .unset, .unset, .unset, .unset, .unset, .unset, .unset, .unset, .unset, .unset, .unset, .unset, .unset, .unset] []) := by first | (simp [entryFrame, mkF, argsToLocals, Value.category]; done) | rfl
  show OwnGoes p e below (fun ow_ Ue_ => ∃ vw_ Lw_, ow_ = .returned vw_ ∧ QM Z b tl h0 n0 vw_ Ue_.heap Lw_ ∧ FrameEnd s ow_ Ue_ Lw_ ({ frames := 1, cells := 0, slots := 0, locals := 18 } : Room).cells ({ frames := 1, cells := 0, slots := 0, locals := 18 } : Room).slots) (s₁.setTop (entryFrame m #[.null, (.ref b), (.int (0 : Int32)), (.int (0 : Int32)), (.int (2 : Int32))] 25))
  refine own_pre (fun t k => castTop ef k) ?_
  show OwnGoes p e below _ (s₁.setTop (mkF m 0 #[.val .null, .val (.ref b), .val (.int (0 : Int32)), .val (.int (0 : Int32)), .val (.int (2 : Int32)), .unset, .unset, .unset, .unset, .unset, .unset, .unset, .unset, .unset, .unset, .unset, .unset, .unset, .unset, .unset, .unset, .unset, .unset, .unset, .unset] []))
  refine own_pre (fun _ kz_ => XS.iload X0.here hx rfl (hb hby d9_0) rfl kz_) ?_
  show OwnGoes p e below _ (s₁.setTop (mkF m 2 #[.val .null, .val (.ref b), .val (.int (0 : Int32)), .val (.int (0 : Int32)), .val (.int (2 : Int32)), .unset, .unset, .unset, .unset, .unset, .unset, .unset, .unset, .unset, .unset, .unset, .unset, .unset, .unset, .unset, .unset, .unset, .unset, .unset, .unset] [(.int (2 : Int32))]))
  refine own_pre (fun _ kz_ => XS.iconst X0.here hx rfl (hb hby d9_2) kz_) ?_
  show OwnGoes p e below _ (s₁.setTop (mkF m 3 #[.val .null, .val (.ref b), .val (.int (0 : Int32)), .val (.int (0 : Int32)), .val (.int (2 : Int32)), .unset, .unset, .unset, .unset, .unset, .unset, .unset, .unset, .unset, .unset, .unset, .unset, .unset, .unset, .unset, .unset, .unset, .unset, .unset, .unset] [(.int (1 : Int32)), (.int (2 : Int32))]))
  refine own_pre (fun _ kz_ => XS.isub X0.here hx rfl (hb hby d9_3) rfl kz_) ?_
  show OwnGoes p e below _ (s₁.setTop (mkF m 4 #[.val .null, .val (.ref b), .val (.int (0 : Int32)), .val (.int (0 : Int32)), .val (.int (2 : Int32)), .unset, .unset, .unset, .unset, .unset, .unset, .unset, .unset, .unset, .unset, .unset, .unset, .unset, .unset, .unset, .unset, .unset, .unset, .unset, .unset] [(.int ((2 : Int32) - (1 : Int32)))]))
  rw [show ((2 : Int32) - (1 : Int32)) = (1 : Int32) from by decide]
  show OwnGoes p e below _ (s₁.setTop (mkF m 4 #[.val .null, .val (.ref b), .val (.int (0 : Int32)), .val (.int (0 : Int32)), .val (.int (2 : Int32)), .unset, .unset, .unset, .unset, .unset, .unset, .unset, .unset, .unset, .unset, .unset, .unset, .unset, .unset, .unset, .unset, .unset, .unset, .unset, .unset] [(.int (1 : Int32))]))
  refine own_pre (fun _ kz_ => XS.istore X0.here hx rfl (hb hby d9_4) rfl (l' := #[.val .null, .val (.ref b), .val (.int (0 : Int32)), .val (.int (0 : Int32)), .val (.int (2 : Int32)), .val (.int (1 : Int32)), .unset, .unset, .unset, .unset, .unset, .unset, .unset, .unset, .unset, .unset, .unset, .unset, .unset, .unset, .unset, .unset, .unset, .unset, .unset]) rfl kz_) ?_
  show OwnGoes p e below _ (s₁.setTop (mkF m 6 #[.val .null, .val (.ref b), .val (.int (0 : Int32)), .val (.int (0 : Int32)), .val (.int (2 : Int32)), .val (.int (1 : Int32)), .unset, .unset, .unset, .unset, .unset, .unset, .unset, .unset, .unset, .unset, .unset, .unset, .unset, .unset, .unset, .unset, .unset, .unset, .unset] []))
  refine own_pre (fun _ kz_ => XS.iload X0.here hx rfl (hb hby d9_6) rfl kz_) ?_
  show OwnGoes p e below _ (s₁.setTop (mkF m 8 #[.val .null, .val (.ref b), .val (.int (0 : Int32)), .val (.int (0 : Int32)), .val (.int (2 : Int32)), .val (.int (1 : Int32)), .unset, .unset, .unset, .unset, .unset, .unset, .unset, .unset, .unset, .unset, .unset, .unset, .unset, .unset, .unset, .unset, .unset, .unset, .unset] [(.int (2 : Int32))]))
  refine own_pre (fun _ kz_ => XS.iloadN X0.here hx rfl (hb hby d9_8) rfl kz_) ?_
  show OwnGoes p e below _ (s₁.setTop (mkF m 9 #[.val .null, .val (.ref b), .val (.int (0 : Int32)), .val (.int (0 : Int32)), .val (.int (2 : Int32)), .val (.int (1 : Int32)), .unset, .unset, .unset, .unset, .unset, .unset, .unset, .unset, .unset, .unset, .unset, .unset, .unset, .unset, .unset, .unset, .unset, .unset, .unset] [(.int (0 : Int32)), (.int (2 : Int32))]))
  refine own_pre (fun _ kz_ => XS.isub X0.here hx rfl (hb hby d9_9) rfl kz_) ?_
  show OwnGoes p e below _ (s₁.setTop (mkF m 10 #[.val .null, .val (.ref b), .val (.int (0 : Int32)), .val (.int (0 : Int32)), .val (.int (2 : Int32)), .val (.int (1 : Int32)), .unset, .unset, .unset, .unset, .unset, .unset, .unset, .unset, .unset, .unset, .unset, .unset, .unset, .unset, .unset, .unset, .unset, .unset, .unset] [(.int ((2 : Int32) - (0 : Int32)))]))
  rw [show ((2 : Int32) - (0 : Int32)) = (2 : Int32) from by decide]
  show OwnGoes p e below _ (s₁.setTop (mkF m 10 #[.val .null, .val (.ref b), .val (.int (0 : Int32)), .val (.int (0 : Int32)), .val (.int (2 : Int32)), .val (.int (1 : Int32)), .unset, .unset, .unset, .unset, .unset, .unset, .unset, .unset, .unset, .unset, .unset, .unset, .unset, .unset, .unset, .unset, .unset, .unset, .unset] [(.int (2 : Int32))]))
  refine own_pre (fun _ kz_ => XS.istore X0.here hx rfl (hb hby d9_10) rfl (l' := #[.val .null, .val (.ref b), .val (.int (0 : Int32)), .val (.int (0 : Int32)), .val (.int (2 : Int32)), .val (.int (1 : Int32)), .val (.int (2 : Int32)), .unset, .unset, .unset, .unset, .unset, .unset, .unset, .unset, .unset, .unset, .unset, .unset, .unset, .unset, .unset, .unset, .unset, .unset]) rfl kz_) ?_
  show OwnGoes p e below _ (s₁.setTop (mkF m 12 #[.val .null, .val (.ref b), .val (.int (0 : Int32)), .val (.int (0 : Int32)), .val (.int (2 : Int32)), .val (.int (1 : Int32)), .val (.int (2 : Int32)), .unset, .unset, .unset, .unset, .unset, .unset, .unset, .unset, .unset, .unset, .unset, .unset, .unset, .unset, .unset, .unset, .unset, .unset] []))
  refine own_pre (fun _ kz_ => XS.iload X0.here hx rfl (hb hby d9_12) rfl kz_) ?_
  show OwnGoes p e below _ (s₁.setTop (mkF m 14 #[.val .null, .val (.ref b), .val (.int (0 : Int32)), .val (.int (0 : Int32)), .val (.int (2 : Int32)), .val (.int (1 : Int32)), .val (.int (2 : Int32)), .unset, .unset, .unset, .unset, .unset, .unset, .unset, .unset, .unset, .unset, .unset, .unset, .unset, .unset, .unset, .unset, .unset, .unset] [(.int (2 : Int32))]))
  refine own_pre (fun _ kz_ => XS.bipush X0.here hx rfl (hb hby d9_14) kz_) ?_
  show OwnGoes p e below _ (s₁.setTop (mkF m 16 #[.val .null, .val (.ref b), .val (.int (0 : Int32)), .val (.int (0 : Int32)), .val (.int (2 : Int32)), .val (.int (1 : Int32)), .val (.int (2 : Int32)), .unset, .unset, .unset, .unset, .unset, .unset, .unset, .unset, .unset, .unset, .unset, .unset, .unset, .unset, .unset, .unset, .unset, .unset] [(.int (65 : Int32)), (.int (2 : Int32))]))
  refine own_pre (fun _ kz_ => XS.iloadN X0.here hx rfl (hb hby d9_16) rfl kz_) ?_
  show OwnGoes p e below _ (s₁.setTop (mkF m 17 #[.val .null, .val (.ref b), .val (.int (0 : Int32)), .val (.int (0 : Int32)), .val (.int (2 : Int32)), .val (.int (1 : Int32)), .val (.int (2 : Int32)), .unset, .unset, .unset, .unset, .unset, .unset, .unset, .unset, .unset, .unset, .unset, .unset, .unset, .unset, .unset, .unset, .unset, .unset] [(.int (0 : Int32)), (.int (65 : Int32)), (.int (2 : Int32))]))
  refine own_pre (fun _ kz_ => XS.iadd X0.here hx rfl (hb hby d9_17) rfl kz_) ?_
  show OwnGoes p e below _ (s₁.setTop (mkF m 18 #[.val .null, .val (.ref b), .val (.int (0 : Int32)), .val (.int (0 : Int32)), .val (.int (2 : Int32)), .val (.int (1 : Int32)), .val (.int (2 : Int32)), .unset, .unset, .unset, .unset, .unset, .unset, .unset, .unset, .unset, .unset, .unset, .unset, .unset, .unset, .unset, .unset, .unset, .unset] [(.int ((65 : Int32) + (0 : Int32))), (.int (2 : Int32))]))
  rw [show ((65 : Int32) + (0 : Int32)) = (65 : Int32) from by decide]
  show OwnGoes p e below _ (s₁.setTop (mkF m 18 #[.val .null, .val (.ref b), .val (.int (0 : Int32)), .val (.int (0 : Int32)), .val (.int (2 : Int32)), .val (.int (1 : Int32)), .val (.int (2 : Int32)), .unset, .unset, .unset, .unset, .unset, .unset, .unset, .unset, .unset, .unset, .unset, .unset, .unset, .unset, .unset, .unset, .unset, .unset] [(.int (65 : Int32)), (.int (2 : Int32))]))
  refine own_pre (fun _ kz_ => XS.icmpNo X0.here hx rfl (hb hby d9_18) rfl (tlt (by decide : (2 : Int32) < (65 : Int32))).2.1 kz_) ?_
  show OwnGoes p e below _ (s₁.setTop (mkF m 21 #[.val .null, .val (.ref b), .val (.int (0 : Int32)), .val (.int (0 : Int32)), .val (.int (2 : Int32)), .val (.int (1 : Int32)), .val (.int (2 : Int32)), .unset, .unset, .unset, .unset, .unset, .unset, .unset, .unset, .unset, .unset, .unset, .unset, .unset, .unset, .unset, .unset, .unset, .unset] []))
  refine own_pre (fun _ kz_ => XS.iloadN X0.here hx rfl (hb hby d9_21) rfl kz_) ?_
  show OwnGoes p e below _ (s₁.setTop (mkF m 22 #[.val .null, .val (.ref b), .val (.int (0 : Int32)), .val (.int (0 : Int32)), .val (.int (2 : Int32)), .val (.int (1 : Int32)), .val (.int (2 : Int32)), .unset, .unset, .unset, .unset, .unset, .unset, .unset, .unset, .unset, .unset, .unset, .unset, .unset, .unset, .unset, .unset, .unset, .unset] [(.int (0 : Int32))]))
  refine own_pre (fun _ kz_ => XS.iconst X0.here hx rfl (hb hby d9_22) kz_) ?_
  show OwnGoes p e below _ (s₁.setTop (mkF m 23 #[.val .null, .val (.ref b), .val (.int (0 : Int32)), .val (.int (0 : Int32)), .val (.int (2 : Int32)), .val (.int (1 : Int32)), .val (.int (2 : Int32)), .unset, .unset, .unset, .unset, .unset, .unset, .unset, .unset, .unset, .unset, .unset, .unset, .unset, .unset, .unset, .unset, .unset, .unset] [(.int (1 : Int32)), (.int (0 : Int32))]))
  refine own_pre (fun _ kz_ => XS.iand X0.here hx rfl (hb hby d9_23) rfl kz_) ?_
  show OwnGoes p e below _ (s₁.setTop (mkF m 24 #[.val .null, .val (.ref b), .val (.int (0 : Int32)), .val (.int (0 : Int32)), .val (.int (2 : Int32)), .val (.int (1 : Int32)), .val (.int (2 : Int32)), .unset, .unset, .unset, .unset, .unset, .unset, .unset, .unset, .unset, .unset, .unset, .unset, .unset, .unset, .unset, .unset, .unset, .unset] [(.int ((0 : Int32) &&& (1 : Int32)))]))
  rw [show ((0 : Int32) &&& (1 : Int32)) = (0 : Int32) from by decide]
  show OwnGoes p e below _ (s₁.setTop (mkF m 24 #[.val .null, .val (.ref b), .val (.int (0 : Int32)), .val (.int (0 : Int32)), .val (.int (2 : Int32)), .val (.int (1 : Int32)), .val (.int (2 : Int32)), .unset, .unset, .unset, .unset, .unset, .unset, .unset, .unset, .unset, .unset, .unset, .unset, .unset, .unset, .unset, .unset, .unset, .unset] [(.int (0 : Int32))]))
  refine own_pre (fun _ kz_ => XS.ifYes X0.here hx rfl (pc0 := 24) (pc' := 46) rfl (hb hby d9_24) rfl ((if0 _ _).trans (flt (by decide : ¬ ((0 : Int32) < (0 : Int32)))).2.2.2) (by decide) (by decide) kz_) ?_
  show OwnGoes p e below _ (s₁.setTop (mkF m 46 #[.val .null, .val (.ref b), .val (.int (0 : Int32)), .val (.int (0 : Int32)), .val (.int (2 : Int32)), .val (.int (1 : Int32)), .val (.int (2 : Int32)), .unset, .unset, .unset, .unset, .unset, .unset, .unset, .unset, .unset, .unset, .unset, .unset, .unset, .unset, .unset, .unset, .unset, .unset] []))
  refine own_pre (fun _ kz_ => XS.iload X0.here hx rfl (hb hby d9_46) rfl kz_) ?_
  show OwnGoes p e below _ (s₁.setTop (mkF m 48 #[.val .null, .val (.ref b), .val (.int (0 : Int32)), .val (.int (0 : Int32)), .val (.int (2 : Int32)), .val (.int (1 : Int32)), .val (.int (2 : Int32)), .unset, .unset, .unset, .unset, .unset, .unset, .unset, .unset, .unset, .unset, .unset, .unset, .unset, .unset, .unset, .unset, .unset, .unset] [(.int (2 : Int32))]))
  refine own_pre (fun _ kz_ => XS.bipush X0.here hx rfl (hb hby d9_48) kz_) ?_
  show OwnGoes p e below _ (s₁.setTop (mkF m 50 #[.val .null, .val (.ref b), .val (.int (0 : Int32)), .val (.int (0 : Int32)), .val (.int (2 : Int32)), .val (.int (1 : Int32)), .val (.int (2 : Int32)), .unset, .unset, .unset, .unset, .unset, .unset, .unset, .unset, .unset, .unset, .unset, .unset, .unset, .unset, .unset, .unset, .unset, .unset] [(.int (44 : Int32)), (.int (2 : Int32))]))
  refine own_pre (fun _ kz_ => XS.icmpNo X0.here hx rfl (hb hby d9_50) rfl (tlt (by decide : (2 : Int32) < (44 : Int32))).2.1 kz_) ?_
  show OwnGoes p e below _ (s₁.setTop (mkF m 53 #[.val .null, .val (.ref b), .val (.int (0 : Int32)), .val (.int (0 : Int32)), .val (.int (2 : Int32)), .val (.int (1 : Int32)), .val (.int (2 : Int32)), .unset, .unset, .unset, .unset, .unset, .unset, .unset, .unset, .unset, .unset, .unset, .unset, .unset, .unset, .unset, .unset, .unset, .unset] []))
  refine own_pre (fun _ kz_ => XS.aloadN X0.here hx rfl (hb hby d9_53) rfl rfl kz_) ?_
  show OwnGoes p e below _ (s₁.setTop (mkF m 54 #[.val .null, .val (.ref b), .val (.int (0 : Int32)), .val (.int (0 : Int32)), .val (.int (2 : Int32)), .val (.int (1 : Int32)), .val (.int (2 : Int32)), .unset, .unset, .unset, .unset, .unset, .unset, .unset, .unset, .unset, .unset, .unset, .unset, .unset, .unset, .unset, .unset, .unset, .unset] [(.ref b)]))
  refine own_pre (fun _ kz_ => XS.iloadN X0.here hx rfl (hb hby d9_54) rfl kz_) ?_
  show OwnGoes p e below _ (s₁.setTop (mkF m 55 #[.val .null, .val (.ref b), .val (.int (0 : Int32)), .val (.int (0 : Int32)), .val (.int (2 : Int32)), .val (.int (1 : Int32)), .val (.int (2 : Int32)), .unset, .unset, .unset, .unset, .unset, .unset, .unset, .unset, .unset, .unset, .unset, .unset, .unset, .unset, .unset, .unset, .unset, .unset] [(.int (0 : Int32)), (.ref b)]))
  refine own_pre (fun _ kz_ => XS.iload X0.here hx rfl (hb hby d9_55) rfl kz_) ?_
  show OwnGoes p e below _ (s₁.setTop (mkF m 57 #[.val .null, .val (.ref b), .val (.int (0 : Int32)), .val (.int (0 : Int32)), .val (.int (2 : Int32)), .val (.int (1 : Int32)), .val (.int (2 : Int32)), .unset, .unset, .unset, .unset, .unset, .unset, .unset, .unset, .unset, .unset, .unset, .unset, .unset, .unset, .unset, .unset, .unset, .unset] [(.int (2 : Int32)), (.int (0 : Int32)), (.ref b)]))
  obtain ⟨_, _, ⟨T1, L1, k1, n1⟩, -, X1, ⟨Lc1, hQ1, l1, y1, z1⟩, st1⟩ := Jvm.LawKit.callS X0 hx (y := (⟨"java/util/DualPivotQuicksort", "insertionSort", "([JII)V"⟩ : MethodName)) hown (mvT hZ (hw _ (List.mem_of_getElem? (i := 48) rfl))) (mvT hZ (hw _ (List.mem_of_getElem? (i := 49) rfl))) (mvT hZ (hw _ (List.mem_of_getElem? (i := 43) rfl))) (mvT hZ (hw _ (List.mem_of_getElem? (i := 50) rfl))) (by decide) (backOf (W := 0) (rmIns2 l Z a0 hw [] b x0 x1 tl h0 n0 Z0 V ht g_b) hZ (hw _ (List.mem_of_getElem? (i := 50) rfl)) (hw _ (List.mem_of_getElem? (i := 43) rfl)) (by decide) (by decide)) (g := (mkF m 57 #[.val .null, .val (.ref b), .val (.int (0 : Int32)), .val (.int (0 : Int32)), .val (.int (2 : Int32)), .val (.int (1 : Int32)), .val (.int (2 : Int32)), .unset, .unset, .unset, .unset, .unset, .unset, .unset, .unset, .unset, .unset, .unset, .unset, .unset, .unset, .unset, .unset, .unset, .unset] [(.int (2 : Int32)), (.int (0 : Int32)), (.ref b)])) rfl (by rw [hml]; rfl) (argsL := [(.ref b), (.int (0 : Int32)), (.int (2 : Int32))]) (rest := []) (lenOf (d := "([JII)V") (ps := [(.array .long), .int, .int]) (r := none) (by decide +kernel) rfl) rfl (by show 2 * 0 + _ ≤ _; exact Nat.le_of_eq rfl) (hb hby d9_57) (fun _ _ => ⟨rfl, e0, (by decide : 0 + 0 ≤ _), (by decide : 0 + 0 ≤ _)⟩)
  dsimp only [Pt.U, Pt.locs, Pt.cells, Pt.slots] at X1 l1 y1 z1 st1 hQ1
  subst l1 y1 z1
  obtain ⟨rfl, N1q, K1q, y0_, y1_, V1q⟩ := hQ1
  have N1 := Fr.app N0 N1q
  refine own_pre st1 ?_
  have Z1 := Nat.le_trans Z0 K1q.1
  have KK1 := ((Keep.refl h0 [b])).trans K1q (fun x hx => by simp only [List.mem_cons, List.not_mem_nil, or_false] at hx; rcases hx with rfl <;> first | exact Or.inl (List.mem_of_getElem? (i := 0) rfl) | exact Or.inl (List.mem_of_getElem? (i := 1) rfl) )
  show OwnGoes p e below _ (T1.setTop (mkF m 60 #[.val .null, .val (.ref b), .val (.int (0 : Int32)), .val (.int (0 : Int32)), .val (.int (2 : Int32)), .val (.int (1 : Int32)), .val (.int (2 : Int32)), .unset, .unset, .unset, .unset, .unset, .unset, .unset, .unset, .unset, .unset, .unset, .unset, .unset, .unset, .unset, .unset, .unset, .unset] []))
  exact own_retV X1 hx Bd.returns Bd.notSynchronized (hb hby d9_60) ⟨rfl, N1, KK1, _, _, V1q⟩ (by decide) (by decide)
set_option maxRecDepth 65536 in
set_option maxHeartbeats 40000000 in
theorem rmD1_2 (l : Launch) (Z : State) (a0 : Array Value) (hw : ∀ d ∈ tables_1, d.before a0 Z = true) (ws : List Jvm.Cond) (b : Addr) (x0 x1 : Int64) (tl : List Value) (h0 : Heap) (n0 : Nat) (Z0 : n0 ≤ h0.size) (V : OwnA Z h0 b .long (.long x0 :: .long x1 :: tl)) (ht : tl.length = 62) (g_b : n0 ≤ b) :
    MetFree l (⟨"java/util/DualPivotQuicksort", "sort", "([JIII)V"⟩ : MethodName) (head1 (Jvm.Cond.code (⟨"java/util/DualPivotQuicksort", "sort", "([JIII)V"⟩ : MethodName) jdk_2529_method_12_code 7 none :: ws) ({ frames := 2, cells := 0, slots := 0, locals := 54 } : Room)) (fun a U => a = #[(.ref b), (.int (0 : Int32)), (.int (0 : Int32)), (.int (2 : Int32))] ∧ Z.Warmed39 U.vm ∧ U.heap = h0) (fun _ _ _ _ _ => True) (fun _ Uw_ ow_ Ue_ => ∃ vw_ Lw_, ow_ = .returned vw_ ∧ QM Z b tl h0 n0 vw_ Ue_.heap Lw_ ∧ FrameEnd Uw_ ow_ Ue_ Lw_ ({ frames := 2, cells := 0, slots := 0, locals := 54 } : Room).cells ({ frames := 2, cells := 0, slots := 0, locals := 54 } : Room).slots) := by
  refine MetFree.of_bodySF (plainFor_of_name (by first | (simp [plainName, overriddenIn]; done) | decide +kernel)) hisR ?_
  intro p e s m args below meth c s₁ Bd hml0 hP hK
  obtain ⟨rfl, hZ, hh⟩ := hP
  have hx := Bd.exec
  have hby := Bd.bytes
  have hml : c.maxLocals = 7 := hml0
  have hown : s.vm.findClass "java/util/DualPivotQuicksort" = some m.cls := findClass_of_methodNamed Bd.named
  have hnm := (name_of_methodNamed Bd.named Bd.method).1
  have X0 : Stand p l e ({ frames := 2, cells := 0, slots := 0, locals := 54 } : Room) s m #[(.ref b), (.int (0 : Int32)), (.int (0 : Int32)), (.int (2 : Int32))] below meth c s₁ [] 0 0 := Stand.of_body Bd
  have e0 : s₁.heap = h0 := by rw [← hh, Bd.state]; rfl
  have N0 := Fr.nil n0
  have ef : entryFrame m #[(.ref b), (.int (0 : Int32)), (.int (0 : Int32)), (.int (2 : Int32))] 7 = (mkF m 0 #[.val (.ref b), .val (.int (0 : Int32)), .val (.int (0 : Int32)), .val (.int (2 : Int32)), .unset, .unset, .unset] []) := by first | (simp [entryFrame, mkF, argsToLocals, Value.category]; done) | rfl
  show OwnGoes p e below (fun ow_ Ue_ => ∃ vw_ Lw_, ow_ = .returned vw_ ∧ QM Z b tl h0 n0 vw_ Ue_.heap Lw_ ∧ FrameEnd s ow_ Ue_ Lw_ ({ frames := 2, cells := 0, slots := 0, locals := 54 } : Room).cells ({ frames := 2, cells := 0, slots := 0, locals := 54 } : Room).slots) (s₁.setTop (entryFrame m #[(.ref b), (.int (0 : Int32)), (.int (0 : Int32)), (.int (2 : Int32))] 7))
  refine own_pre (fun t k => castTop ef k) ?_
  show OwnGoes p e below _ (s₁.setTop (mkF m 0 #[.val (.ref b), .val (.int (0 : Int32)), .val (.int (0 : Int32)), .val (.int (2 : Int32)), .unset, .unset, .unset] []))
  refine own_pre (fun _ kz_ => XS.iloadN X0.here hx rfl (hb hby d8_0) rfl kz_) ?_
  show OwnGoes p e below _ (s₁.setTop (mkF m 1 #[.val (.ref b), .val (.int (0 : Int32)), .val (.int (0 : Int32)), .val (.int (2 : Int32)), .unset, .unset, .unset] [(.int (2 : Int32))]))
  refine own_pre (fun _ kz_ => XS.iloadN X0.here hx rfl (hb hby d8_1) rfl kz_) ?_
  show OwnGoes p e below _ (s₁.setTop (mkF m 2 #[.val (.ref b), .val (.int (0 : Int32)), .val (.int (0 : Int32)), .val (.int (2 : Int32)), .unset, .unset, .unset] [(.int (0 : Int32)), (.int (2 : Int32))]))
  refine own_pre (fun _ kz_ => XS.isub X0.here hx rfl (hb hby d8_2) rfl kz_) ?_
  show OwnGoes p e below _ (s₁.setTop (mkF m 3 #[.val (.ref b), .val (.int (0 : Int32)), .val (.int (0 : Int32)), .val (.int (2 : Int32)), .unset, .unset, .unset] [(.int ((2 : Int32) - (0 : Int32)))]))
  rw [show ((2 : Int32) - (0 : Int32)) = (2 : Int32) from by decide]
  show OwnGoes p e below _ (s₁.setTop (mkF m 3 #[.val (.ref b), .val (.int (0 : Int32)), .val (.int (0 : Int32)), .val (.int (2 : Int32)), .unset, .unset, .unset] [(.int (2 : Int32))]))
  refine own_pre (fun _ kz_ => XS.istore X0.here hx rfl (hb hby d8_3) rfl (l' := #[.val (.ref b), .val (.int (0 : Int32)), .val (.int (0 : Int32)), .val (.int (2 : Int32)), .val (.int (2 : Int32)), .unset, .unset]) rfl kz_) ?_
  show OwnGoes p e below _ (s₁.setTop (mkF m 5 #[.val (.ref b), .val (.int (0 : Int32)), .val (.int (0 : Int32)), .val (.int (2 : Int32)), .val (.int (2 : Int32)), .unset, .unset] []))
  refine own_pre (fun _ kz_ => XS.iloadN X0.here hx rfl (hb hby d8_5) rfl kz_) ?_
  show OwnGoes p e below _ (s₁.setTop (mkF m 6 #[.val (.ref b), .val (.int (0 : Int32)), .val (.int (0 : Int32)), .val (.int (2 : Int32)), .val (.int (2 : Int32)), .unset, .unset] [(.int (0 : Int32))]))
  refine own_pre (fun _ kz_ => XS.iconst X0.here hx rfl (hb hby d8_6) kz_) ?_
  show OwnGoes p e below _ (s₁.setTop (mkF m 7 #[.val (.ref b), .val (.int (0 : Int32)), .val (.int (0 : Int32)), .val (.int (2 : Int32)), .val (.int (2 : Int32)), .unset, .unset] [(.int (1 : Int32)), (.int (0 : Int32))]))
  refine own_pre (fun _ kz_ => XS.icmpYes X0.here hx rfl (pc0 := 7) (pc' := 68) rfl (hb hby d8_7) rfl (flt (by decide : ¬ ((1 : Int32) < (0 : Int32)))).2.2.2 (by decide) (by decide) kz_) ?_
  show OwnGoes p e below _ (s₁.setTop (mkF m 68 #[.val (.ref b), .val (.int (0 : Int32)), .val (.int (0 : Int32)), .val (.int (2 : Int32)), .val (.int (2 : Int32)), .unset, .unset] []))
  refine own_pre (fun _ kz_ => XS.aconstNull X0.here hx rfl (hb hby d8_68) kz_) ?_
  show OwnGoes p e below _ (s₁.setTop (mkF m 69 #[.val (.ref b), .val (.int (0 : Int32)), .val (.int (0 : Int32)), .val (.int (2 : Int32)), .val (.int (2 : Int32)), .unset, .unset] [.null]))
  refine own_pre (fun _ kz_ => XS.aloadN X0.here hx rfl (hb hby d8_69) rfl rfl kz_) ?_
  show OwnGoes p e below _ (s₁.setTop (mkF m 70 #[.val (.ref b), .val (.int (0 : Int32)), .val (.int (0 : Int32)), .val (.int (2 : Int32)), .val (.int (2 : Int32)), .unset, .unset] [(.ref b), .null]))
  refine own_pre (fun _ kz_ => XS.iconst X0.here hx rfl (hb hby d8_70) kz_) ?_
  show OwnGoes p e below _ (s₁.setTop (mkF m 71 #[.val (.ref b), .val (.int (0 : Int32)), .val (.int (0 : Int32)), .val (.int (2 : Int32)), .val (.int (2 : Int32)), .unset, .unset] [(.int (0 : Int32)), (.ref b), .null]))
  refine own_pre (fun _ kz_ => XS.iloadN X0.here hx rfl (hb hby d8_71) rfl kz_) ?_
  show OwnGoes p e below _ (s₁.setTop (mkF m 72 #[.val (.ref b), .val (.int (0 : Int32)), .val (.int (0 : Int32)), .val (.int (2 : Int32)), .val (.int (2 : Int32)), .unset, .unset] [(.int (0 : Int32)), (.int (0 : Int32)), (.ref b), .null]))
  refine own_pre (fun _ kz_ => XS.iloadN X0.here hx rfl (hb hby d8_72) rfl kz_) ?_
  show OwnGoes p e below _ (s₁.setTop (mkF m 73 #[.val (.ref b), .val (.int (0 : Int32)), .val (.int (0 : Int32)), .val (.int (2 : Int32)), .val (.int (2 : Int32)), .unset, .unset] [(.int (2 : Int32)), (.int (0 : Int32)), (.int (0 : Int32)), (.ref b), .null]))
  obtain ⟨_, _, ⟨T1, L1, k1, n1⟩, -, X1, ⟨Lc1, hQ1, l1, y1, z1⟩, st1⟩ := Jvm.LawKit.callS X0 hx (y := (⟨"java/util/DualPivotQuicksort", "sort", "(Ljava/util/DualPivotQuicksort$Sorter;[JIII)V"⟩ : MethodName)) hown (mvT hZ (hw _ (List.mem_of_getElem? (i := 45) rfl))) (mvT hZ (hw _ (List.mem_of_getElem? (i := 46) rfl))) (mvT hZ (hw _ (List.mem_of_getElem? (i := 43) rfl))) (mvT hZ (hw _ (List.mem_of_getElem? (i := 47) rfl))) (by decide) (backOf (W := 0) (rmD2_2 l Z a0 hw [] b x0 x1 tl h0 n0 Z0 V ht g_b) hZ (hw _ (List.mem_of_getElem? (i := 47) rfl)) (hw _ (List.mem_of_getElem? (i := 43) rfl)) (by decide) (by decide)) (g := (mkF m 73 #[.val (.ref b), .val (.int (0 : Int32)), .val (.int (0 : Int32)), .val (.int (2 : Int32)), .val (.int (2 : Int32)), .unset, .unset] [(.int (2 : Int32)), (.int (0 : Int32)), (.int (0 : Int32)), (.ref b), .null])) rfl (by rw [hml]; rfl) (argsL := [.null, (.ref b), (.int (0 : Int32)), (.int (0 : Int32)), (.int (2 : Int32))]) (rest := []) (lenOf (d := "(Ljava/util/DualPivotQuicksort$Sorter;[JIII)V") (ps := [(.object "java/util/DualPivotQuicksort$Sorter"), (.array .long), .int, .int, .int]) (r := none) (by decide +kernel) rfl) rfl (by show 2 * 0 + _ ≤ _; exact Nat.le_of_eq rfl) (hb hby d8_73) (fun _ _ => ⟨rfl, e0, (by decide : 0 + 0 ≤ _), (by decide : 0 + 0 ≤ _)⟩)
  dsimp only [Pt.U, Pt.locs, Pt.cells, Pt.slots] at X1 l1 y1 z1 st1 hQ1
  subst l1 y1 z1
  obtain ⟨rfl, N1q, K1q, y0_, y1_, V1q⟩ := hQ1
  have N1 := Fr.app N0 N1q
  refine own_pre st1 ?_
  have Z1 := Nat.le_trans Z0 K1q.1
  have KK1 := ((Keep.refl h0 [b])).trans K1q (fun x hx => by simp only [List.mem_cons, List.not_mem_nil, or_false] at hx; rcases hx with rfl <;> first | exact Or.inl (List.mem_of_getElem? (i := 0) rfl) | exact Or.inl (List.mem_of_getElem? (i := 1) rfl) )
  show OwnGoes p e below _ (T1.setTop (mkF m 76 #[.val (.ref b), .val (.int (0 : Int32)), .val (.int (0 : Int32)), .val (.int (2 : Int32)), .val (.int (2 : Int32)), .unset, .unset] []))
  exact own_retV X1 hx Bd.returns Bd.notSynchronized (hb hby d8_76) ⟨rfl, N1, KK1, _, _, V1q⟩ (by decide) (by decide)
set_option maxRecDepth 65536 in
set_option maxHeartbeats 40000000 in
theorem rmSo2 (l : Launch) (Z : State) (a0 : Array Value) (hw : ∀ d ∈ tables_1, d.before a0 Z = true) (ws : List Jvm.Cond) (b : Addr) (x0 x1 : Int64) (tl : List Value) (h0 : Heap) (n0 : Nat) (Z0 : n0 ≤ h0.size) (V : OwnA Z h0 b .long (.long x0 :: .long x1 :: tl)) (ht : tl.length = 62) (g_b : n0 ≤ b) :
    MetFree l (⟨"java/util/Arrays", "sort", "([JII)V"⟩ : MethodName) (head1 (Jvm.Cond.code (⟨"java/util/Arrays", "sort", "([JII)V"⟩ : MethodName) jdk_65_method_5_code 3 none :: ws) ({ frames := 3, cells := 0, slots := 0, locals := 72 } : Room)) (fun a U => a = #[(.ref b), (.int (0 : Int32)), (.int (2 : Int32))] ∧ Z.Warmed39 U.vm ∧ U.heap = h0) (fun _ _ _ _ _ => True) (fun _ Uw_ ow_ Ue_ => ∃ vw_ Lw_, ow_ = .returned vw_ ∧ QM Z b tl h0 n0 vw_ Ue_.heap Lw_ ∧ FrameEnd Uw_ ow_ Ue_ Lw_ ({ frames := 3, cells := 0, slots := 0, locals := 72 } : Room).cells ({ frames := 3, cells := 0, slots := 0, locals := 72 } : Room).slots) := by
  refine MetFree.of_bodySF (plainFor_of_name (by first | (simp [plainName, overriddenIn]; done) | decide +kernel)) hisR ?_
  intro p e s m args below meth c s₁ Bd hml0 hP hK
  obtain ⟨rfl, hZ, hh⟩ := hP
  have hx := Bd.exec
  have hby := Bd.bytes
  have hml : c.maxLocals = 3 := hml0
  have hown : s.vm.findClass "java/util/Arrays" = some m.cls := findClass_of_methodNamed Bd.named
  have hnm := (name_of_methodNamed Bd.named Bd.method).1
  have X0 : Stand p l e ({ frames := 3, cells := 0, slots := 0, locals := 72 } : Room) s m #[(.ref b), (.int (0 : Int32)), (.int (2 : Int32))] below meth c s₁ [] 0 0 := Stand.of_body Bd
  have e0 : s₁.heap = h0 := by rw [← hh, Bd.state]; rfl
  have N0 := Fr.nil n0
  have ef : entryFrame m #[(.ref b), (.int (0 : Int32)), (.int (2 : Int32))] 3 = (mkF m 0 #[.val (.ref b), .val (.int (0 : Int32)), .val (.int (2 : Int32))] []) := by first | (simp [entryFrame, mkF, argsToLocals, Value.category]; done) | rfl
  show OwnGoes p e below (fun ow_ Ue_ => ∃ vw_ Lw_, ow_ = .returned vw_ ∧ QM Z b tl h0 n0 vw_ Ue_.heap Lw_ ∧ FrameEnd s ow_ Ue_ Lw_ ({ frames := 3, cells := 0, slots := 0, locals := 72 } : Room).cells ({ frames := 3, cells := 0, slots := 0, locals := 72 } : Room).slots) (s₁.setTop (entryFrame m #[(.ref b), (.int (0 : Int32)), (.int (2 : Int32))] 3))
  refine own_pre (fun t k => castTop ef k) ?_
  show OwnGoes p e below _ (s₁.setTop (mkF m 0 #[.val (.ref b), .val (.int (0 : Int32)), .val (.int (2 : Int32))] []))
  refine own_pre (fun _ kz_ => XS.aloadN X0.here hx rfl (hb hby d6_0) rfl rfl kz_) ?_
  show OwnGoes p e below _ (s₁.setTop (mkF m 1 #[.val (.ref b), .val (.int (0 : Int32)), .val (.int (2 : Int32))] [(.ref b)]))
  refine own_pre (own_alen X0 hx hZ e0 V (n := (64 : Int32)) (by show (64 : Int32) = Int32.ofNat (tl.length + 1 + 1); rw [ht]; rfl) (g := (mkF m 1 #[.val (.ref b), .val (.int (0 : Int32)), .val (.int (2 : Int32))] [(.ref b)])) rfl rfl (hb hby d6_1)) ?_
  show OwnGoes p e below _ (s₁.setTop (mkF m 2 #[.val (.ref b), .val (.int (0 : Int32)), .val (.int (2 : Int32))] [(.int (64 : Int32))]))
  refine own_pre (fun _ kz_ => XS.iloadN X0.here hx rfl (hb hby d6_2) rfl kz_) ?_
  show OwnGoes p e below _ (s₁.setTop (mkF m 3 #[.val (.ref b), .val (.int (0 : Int32)), .val (.int (2 : Int32))] [(.int (0 : Int32)), (.int (64 : Int32))]))
  refine own_pre (fun _ kz_ => XS.iloadN X0.here hx rfl (hb hby d6_3) rfl kz_) ?_
  show OwnGoes p e below _ (s₁.setTop (mkF m 4 #[.val (.ref b), .val (.int (0 : Int32)), .val (.int (2 : Int32))] [(.int (2 : Int32)), (.int (0 : Int32)), (.int (64 : Int32))]))
  obtain ⟨_, _, ⟨T1, L1, k1, n1⟩, -, X1, ⟨Lc1, hQ1, l1, y1, z1⟩, st1⟩ := Jvm.LawKit.callS X0 hx (y := (⟨"java/util/Arrays", "rangeCheck", "(III)V"⟩ : MethodName)) hown (mvT hZ (hw _ (List.mem_of_getElem? (i := 38) rfl))) (mvT hZ (hw _ (List.mem_of_getElem? (i := 39) rfl))) (mvT hZ (hw _ (List.mem_of_getElem? (i := 36) rfl))) (mvT hZ (hw _ (List.mem_of_getElem? (i := 40) rfl))) (by decide) (backOf (W := 0) (rmRg2 l Z a0 hw [] h0 n0 Z0) hZ (hw _ (List.mem_of_getElem? (i := 40) rfl)) (hw _ (List.mem_of_getElem? (i := 36) rfl)) (by decide) (by decide)) (g := (mkF m 4 #[.val (.ref b), .val (.int (0 : Int32)), .val (.int (2 : Int32))] [(.int (2 : Int32)), (.int (0 : Int32)), (.int (64 : Int32))])) rfl (by rw [hml]; rfl) (argsL := [(.int (64 : Int32)), (.int (0 : Int32)), (.int (2 : Int32))]) (rest := []) (lenOf (d := "(III)V") (ps := [.int, .int, .int]) (r := none) (by decide +kernel) rfl) rfl (by show 2 * 0 + _ ≤ _; exact Nat.le_of_eq rfl) (hb hby d6_4) (fun _ _ => ⟨rfl, e0, (by decide : 0 + 0 ≤ _), (by decide : 0 + 0 ≤ _)⟩)
  dsimp only [Pt.U, Pt.locs, Pt.cells, Pt.slots] at X1 l1 y1 z1 st1 hQ1
  subst l1 y1 z1
  obtain ⟨rfl, N1q, e1⟩ := hQ1
  have N1 := Fr.app N0 N1q
  refine own_pre st1 ?_
  show OwnGoes p e below _ (T1.setTop (mkF m 7 #[.val (.ref b), .val (.int (0 : Int32)), .val (.int (2 : Int32))] []))
  refine own_pre (fun _ kz_ => XS.aloadN X1.here hx rfl (hb hby d6_7) rfl rfl kz_) ?_
  show OwnGoes p e below _ (T1.setTop (mkF m 8 #[.val (.ref b), .val (.int (0 : Int32)), .val (.int (2 : Int32))] [(.ref b)]))
  refine own_pre (fun _ kz_ => XS.iconst X1.here hx rfl (hb hby d6_8) kz_) ?_
  show OwnGoes p e below _ (T1.setTop (mkF m 9 #[.val (.ref b), .val (.int (0 : Int32)), .val (.int (2 : Int32))] [(.int (0 : Int32)), (.ref b)]))
  refine own_pre (fun _ kz_ => XS.iloadN X1.here hx rfl (hb hby d6_9) rfl kz_) ?_
  show OwnGoes p e below _ (T1.setTop (mkF m 10 #[.val (.ref b), .val (.int (0 : Int32)), .val (.int (2 : Int32))] [(.int (0 : Int32)), (.int (0 : Int32)), (.ref b)]))
  refine own_pre (fun _ kz_ => XS.iloadN X1.here hx rfl (hb hby d6_10) rfl kz_) ?_
  show OwnGoes p e below _ (T1.setTop (mkF m 11 #[.val (.ref b), .val (.int (0 : Int32)), .val (.int (2 : Int32))] [(.int (2 : Int32)), (.int (0 : Int32)), (.int (0 : Int32)), (.ref b)]))
  obtain ⟨_, _, ⟨T2, L2, k2, n2⟩, -, X2, ⟨Lc2, hQ2, l2, y2, z2⟩, st2⟩ := Jvm.LawKit.callS X1 hx (y := (⟨"java/util/DualPivotQuicksort", "sort", "([JIII)V"⟩ : MethodName)) hown (mvT hZ (hw _ (List.mem_of_getElem? (i := 41) rfl))) (mvT hZ (hw _ (List.mem_of_getElem? (i := 42) rfl))) (mvT hZ (hw _ (List.mem_of_getElem? (i := 43) rfl))) (mvT hZ (hw _ (List.mem_of_getElem? (i := 44) rfl))) (by decide) (backOf (W := 0) (rmD1_2 l Z a0 hw [] b x0 x1 tl h0 n0 Z0 V ht g_b) hZ (hw _ (List.mem_of_getElem? (i := 44) rfl)) (hw _ (List.mem_of_getElem? (i := 43) rfl)) (by decide) (by decide)) (g := (mkF m 11 #[.val (.ref b), .val (.int (0 : Int32)), .val (.int (2 : Int32))] [(.int (2 : Int32)), (.int (0 : Int32)), (.int (0 : Int32)), (.ref b)])) rfl (by rw [hml]; rfl) (argsL := [(.ref b), (.int (0 : Int32)), (.int (0 : Int32)), (.int (2 : Int32))]) (rest := []) (lenOf (d := "([JIII)V") (ps := [(.array .long), .int, .int, .int]) (r := none) (by decide +kernel) rfl) rfl (by show 2 * 0 + _ ≤ _; exact Nat.le_of_eq rfl) (hb hby d6_11) (fun _ _ => ⟨rfl, e1, (by decide : 0 + 0 ≤ _), (by decide : 0 + 0 ≤ _)⟩)
  dsimp only [Pt.U, Pt.locs, Pt.cells, Pt.slots] at X2 l2 y2 z2 st2 hQ2
  subst l2 y2 z2
  obtain ⟨rfl, N2q, K2q, y0_, y1_, V2q⟩ := hQ2
  have N2 := Fr.app N1 N2q
  refine own_pre st2 ?_
  have Z2 := Nat.le_trans Z0 K2q.1
  have KK2 := ((Keep.refl h0 [b])).trans K2q (fun x hx => by simp only [List.mem_cons, List.not_mem_nil, or_false] at hx; rcases hx with rfl <;> first | exact Or.inl (List.mem_of_getElem? (i := 0) rfl) | exact Or.inl (List.mem_of_getElem? (i := 1) rfl) )
  show OwnGoes p e below _ (T2.setTop (mkF m 14 #[.val (.ref b), .val (.int (0 : Int32)), .val (.int (2 : Int32))] []))
  exact own_retV X2 hx Bd.returns Bd.notSynchronized (hb hby d6_14) ⟨rfl, N2, KK2, _, _, V2q⟩ (by decide) (by decide)
set_option maxRecDepth 65536 in
set_option maxHeartbeats 40000000 in
theorem rmB0_0 (l : Launch) (Z : State) (a0 : Array Value) (hw : ∀ d ∈ tables_1, d.before a0 Z = true) (ws : List Jvm.Cond) (b : Addr) (x0 x1 : Int64) (tl : List Value) (k_ : Int64) (h0 : Heap) (n0 : Nat) (Z0 : n0 ≤ h0.size) (V : OwnA Z h0 b .long (.long x0 :: .long x1 :: tl)) (ht : tl.length = 62) (g_b : n0 ≤ b) :
    MetFree l (⟨"java/util/Arrays", "binarySearch0", "([JIIJ)I"⟩ : MethodName) (head1 (Jvm.Cond.code (⟨"java/util/Arrays", "binarySearch0", "([JIIJ)I"⟩ : MethodName) jdk_65_method_56_code 10 (some .int) :: ws) ({ frames := 0, cells := 0, slots := 0, locals := 0 } : Room)) (fun a U => a = #[(.ref b), (.int (0 : Int32)), (.int (0 : Int32)), (.long k_)] ∧ Z.Warmed39 U.vm ∧ U.heap = h0) (fun _ _ _ _ _ => True) (fun _ Uw_ ow_ Ue_ => ∃ vw_ Lw_, ow_ = .returned vw_ ∧ QI (-1 : Int32) h0 n0 vw_ Ue_.heap Lw_ ∧ FrameEnd Uw_ ow_ Ue_ Lw_ ({ frames := 0, cells := 0, slots := 0, locals := 0 } : Room).cells ({ frames := 0, cells := 0, slots := 0, locals := 0 } : Room).slots) := by
  refine MetFree.of_bodySF (plainFor_of_name (by first | (simp [plainName, overriddenIn]; done) | decide +kernel)) hisR ?_
  intro p e s m args below meth c s₁ Bd hml0 hP hK
  obtain ⟨rfl, hZ, hh⟩ := hP
  have hx := Bd.exec
  have hby := Bd.bytes
  have hml : c.maxLocals = 10 := hml0
  have hown : s.vm.findClass "java/util/Arrays" = some m.cls := findClass_of_methodNamed Bd.named
  have hnm := (name_of_methodNamed Bd.named Bd.method).1
  have X0 : Stand p l e ({ frames := 0, cells := 0, slots := 0, locals := 0 } : Room) s m #[(.ref b), (.int (0 : Int32)), (.int (0 : Int32)), (.long k_)] below meth c s₁ [] 0 0 := Stand.of_body Bd
  have e0 : s₁.heap = h0 := by rw [← hh, Bd.state]; rfl
  have N0 := Fr.nil n0
  have ef : entryFrame m #[(.ref b), (.int (0 : Int32)), (.int (0 : Int32)), (.long k_)] 10 = (mkF m 0 #[.val (.ref b), .val (.int (0 : Int32)), .val (.int (0 : Int32)), .val (.long k_), .second, .unset, .unset, .unset, .unset, .unset] []) := by first | (simp [entryFrame, mkF, argsToLocals, Value.category]; done) | rfl
  show OwnGoes p e below (fun ow_ Ue_ => ∃ vw_ Lw_, ow_ = .returned vw_ ∧ QI (-1 : Int32) h0 n0 vw_ Ue_.heap Lw_ ∧ FrameEnd s ow_ Ue_ Lw_ ({ frames := 0, cells := 0, slots := 0, locals := 0 } : Room).cells ({ frames := 0, cells := 0, slots := 0, locals := 0 } : Room).slots) (s₁.setTop (entryFrame m #[(.ref b), (.int (0 : Int32)), (.int (0 : Int32)), (.long k_)] 10))
  refine own_pre (fun t k => castTop ef k) ?_
  show OwnGoes p e below _ (s₁.setTop (mkF m 0 #[.val (.ref b), .val (.int (0 : Int32)), .val (.int (0 : Int32)), .val (.long k_), .second, .unset, .unset, .unset, .unset, .unset] []))
  refine own_pre (fun _ kz_ => XS.iloadN X0.here hx rfl (hb hby d12_0) rfl kz_) ?_
  show OwnGoes p e below _ (s₁.setTop (mkF m 1 #[.val (.ref b), .val (.int (0 : Int32)), .val (.int (0 : Int32)), .val (.long k_), .second, .unset, .unset, .unset, .unset, .unset] [(.int (0 : Int32))]))
  refine own_pre (fun _ kz_ => XS.istore X0.here hx rfl (hb hby d12_1) rfl (l' := #[.val (.ref b), .val (.int (0 : Int32)), .val (.int (0 : Int32)), .val (.long k_), .second, .val (.int (0 : Int32)), .unset, .unset, .unset, .unset]) rfl kz_) ?_
  show OwnGoes p e below _ (s₁.setTop (mkF m 3 #[.val (.ref b), .val (.int (0 : Int32)), .val (.int (0 : Int32)), .val (.long k_), .second, .val (.int (0 : Int32)), .unset, .unset, .unset, .unset] []))
  refine own_pre (fun _ kz_ => XS.iloadN X0.here hx rfl (hb hby d12_3) rfl kz_) ?_
  show OwnGoes p e below _ (s₁.setTop (mkF m 4 #[.val (.ref b), .val (.int (0 : Int32)), .val (.int (0 : Int32)), .val (.long k_), .second, .val (.int (0 : Int32)), .unset, .unset, .unset, .unset] [(.int (0 : Int32))]))
  refine own_pre (fun _ kz_ => XS.iconst X0.here hx rfl (hb hby d12_4) kz_) ?_
  show OwnGoes p e below _ (s₁.setTop (mkF m 5 #[.val (.ref b), .val (.int (0 : Int32)), .val (.int (0 : Int32)), .val (.long k_), .second, .val (.int (0 : Int32)), .unset, .unset, .unset, .unset] [(.int (1 : Int32)), (.int (0 : Int32))]))
  refine own_pre (fun _ kz_ => XS.isub X0.here hx rfl (hb hby d12_5) rfl kz_) ?_
  show OwnGoes p e below _ (s₁.setTop (mkF m 6 #[.val (.ref b), .val (.int (0 : Int32)), .val (.int (0 : Int32)), .val (.long k_), .second, .val (.int (0 : Int32)), .unset, .unset, .unset, .unset] [(.int ((0 : Int32) - (1 : Int32)))]))
  rw [show ((0 : Int32) - (1 : Int32)) = (-1 : Int32) from by decide]
  show OwnGoes p e below _ (s₁.setTop (mkF m 6 #[.val (.ref b), .val (.int (0 : Int32)), .val (.int (0 : Int32)), .val (.long k_), .second, .val (.int (0 : Int32)), .unset, .unset, .unset, .unset] [(.int (-1 : Int32))]))
  refine own_pre (fun _ kz_ => XS.istore X0.here hx rfl (hb hby d12_6) rfl (l' := #[.val (.ref b), .val (.int (0 : Int32)), .val (.int (0 : Int32)), .val (.long k_), .second, .val (.int (0 : Int32)), .val (.int (-1 : Int32)), .unset, .unset, .unset]) rfl kz_) ?_
  show OwnGoes p e below _ (s₁.setTop (mkF m 8 #[.val (.ref b), .val (.int (0 : Int32)), .val (.int (0 : Int32)), .val (.long k_), .second, .val (.int (0 : Int32)), .val (.int (-1 : Int32)), .unset, .unset, .unset] []))
  refine own_pre (fun _ kz_ => XS.iload X0.here hx rfl (hb hby d12_8) rfl kz_) ?_
  show OwnGoes p e below _ (s₁.setTop (mkF m 10 #[.val (.ref b), .val (.int (0 : Int32)), .val (.int (0 : Int32)), .val (.long k_), .second, .val (.int (0 : Int32)), .val (.int (-1 : Int32)), .unset, .unset, .unset] [(.int (0 : Int32))]))
  refine own_pre (fun _ kz_ => XS.iload X0.here hx rfl (hb hby d12_10) rfl kz_) ?_
  show OwnGoes p e below _ (s₁.setTop (mkF m 12 #[.val (.ref b), .val (.int (0 : Int32)), .val (.int (0 : Int32)), .val (.long k_), .second, .val (.int (0 : Int32)), .val (.int (-1 : Int32)), .unset, .unset, .unset] [(.int (-1 : Int32)), (.int (0 : Int32))]))
  refine own_pre (fun _ kz_ => XS.icmpYes X0.here hx rfl (pc0 := 12) (pc' := 68) rfl (hb hby d12_12) rfl (tlt (by decide : (-1 : Int32) < (0 : Int32))).2.2.1 (by decide) (by decide) kz_) ?_
  show OwnGoes p e below _ (s₁.setTop (mkF m 68 #[.val (.ref b), .val (.int (0 : Int32)), .val (.int (0 : Int32)), .val (.long k_), .second, .val (.int (0 : Int32)), .val (.int (-1 : Int32)), .unset, .unset, .unset] []))
  refine own_pre (fun _ kz_ => XS.iload X0.here hx rfl (hb hby d12_68) rfl kz_) ?_
  show OwnGoes p e below _ (s₁.setTop (mkF m 70 #[.val (.ref b), .val (.int (0 : Int32)), .val (.int (0 : Int32)), .val (.long k_), .second, .val (.int (0 : Int32)), .val (.int (-1 : Int32)), .unset, .unset, .unset] [(.int (0 : Int32))]))
  refine own_pre (fun _ kz_ => XS.iconst X0.here hx rfl (hb hby d12_70) kz_) ?_
  show OwnGoes p e below _ (s₁.setTop (mkF m 71 #[.val (.ref b), .val (.int (0 : Int32)), .val (.int (0 : Int32)), .val (.long k_), .second, .val (.int (0 : Int32)), .val (.int (-1 : Int32)), .unset, .unset, .unset] [(.int (1 : Int32)), (.int (0 : Int32))]))
  refine own_pre (fun _ kz_ => XS.iadd X0.here hx rfl (hb hby d12_71) rfl kz_) ?_
  show OwnGoes p e below _ (s₁.setTop (mkF m 72 #[.val (.ref b), .val (.int (0 : Int32)), .val (.int (0 : Int32)), .val (.long k_), .second, .val (.int (0 : Int32)), .val (.int (-1 : Int32)), .unset, .unset, .unset] [(.int ((0 : Int32) + (1 : Int32)))]))
  rw [show ((0 : Int32) + (1 : Int32)) = (1 : Int32) from by decide]
  show OwnGoes p e below _ (s₁.setTop (mkF m 72 #[.val (.ref b), .val (.int (0 : Int32)), .val (.int (0 : Int32)), .val (.long k_), .second, .val (.int (0 : Int32)), .val (.int (-1 : Int32)), .unset, .unset, .unset] [(.int (1 : Int32))]))
  refine own_pre (fun _ kz_ => XS.ineg X0.here hx rfl (hb hby d12_72) rfl kz_) ?_
  show OwnGoes p e below _ (s₁.setTop (mkF m 73 #[.val (.ref b), .val (.int (0 : Int32)), .val (.int (0 : Int32)), .val (.long k_), .second, .val (.int (0 : Int32)), .val (.int (-1 : Int32)), .unset, .unset, .unset] [(.int (-(1 : Int32)))]))
  rw [show (-(1 : Int32)) = (-1 : Int32) from by decide]
  show OwnGoes p e below _ (s₁.setTop (mkF m 73 #[.val (.ref b), .val (.int (0 : Int32)), .val (.int (0 : Int32)), .val (.long k_), .second, .val (.int (0 : Int32)), .val (.int (-1 : Int32)), .unset, .unset, .unset] [(.int (-1 : Int32))]))
  exact own_ret X0 hx Bd.returns (rfl) (Or.inl ⟨rfl, by simp, _, rfl⟩) Bd.notSynchronized (hb hby d12_73) ⟨rfl, N0, e0⟩ (by decide) (by decide)
set_option maxRecDepth 65536 in
set_option maxHeartbeats 40000000 in
theorem rmBS0 (l : Launch) (Z : State) (a0 : Array Value) (hw : ∀ d ∈ tables_1, d.before a0 Z = true) (ws : List Jvm.Cond) (b : Addr) (x0 x1 : Int64) (tl : List Value) (k_ : Int64) (h0 : Heap) (n0 : Nat) (Z0 : n0 ≤ h0.size) (V : OwnA Z h0 b .long (.long x0 :: .long x1 :: tl)) (ht : tl.length = 62) (g_b : n0 ≤ b) :
    MetFree l (⟨"java/util/Arrays", "binarySearch", "([JIIJ)I"⟩ : MethodName) (head1 (Jvm.Cond.code (⟨"java/util/Arrays", "binarySearch", "([JIIJ)I"⟩ : MethodName) jdk_65_method_55_code 5 (some .int) :: ws) ({ frames := 1, cells := 0, slots := 0, locals := 21 } : Room)) (fun a U => a = #[(.ref b), (.int (0 : Int32)), (.int (0 : Int32)), (.long k_)] ∧ Z.Warmed39 U.vm ∧ U.heap = h0) (fun _ _ _ _ _ => True) (fun _ Uw_ ow_ Ue_ => ∃ vw_ Lw_, ow_ = .returned vw_ ∧ QI (-1 : Int32) h0 n0 vw_ Ue_.heap Lw_ ∧ FrameEnd Uw_ ow_ Ue_ Lw_ ({ frames := 1, cells := 0, slots := 0, locals := 21 } : Room).cells ({ frames := 1, cells := 0, slots := 0, locals := 21 } : Room).slots) := by
  refine MetFree.of_bodySF (plainFor_of_name (by first | (simp [plainName, overriddenIn]; done) | decide +kernel)) hisR ?_
  intro p e s m args below meth c s₁ Bd hml0 hP hK
  obtain ⟨rfl, hZ, hh⟩ := hP
  have hx := Bd.exec
  have hby := Bd.bytes
  have hml : c.maxLocals = 5 := hml0
  have hown : s.vm.findClass "java/util/Arrays" = some m.cls := findClass_of_methodNamed Bd.named
  have hnm := (name_of_methodNamed Bd.named Bd.method).1
  have X0 : Stand p l e ({ frames := 1, cells := 0, slots := 0, locals := 21 } : Room) s m #[(.ref b), (.int (0 : Int32)), (.int (0 : Int32)), (.long k_)] below meth c s₁ [] 0 0 := Stand.of_body Bd
  have e0 : s₁.heap = h0 := by rw [← hh, Bd.state]; rfl
  have N0 := Fr.nil n0
  have ef : entryFrame m #[(.ref b), (.int (0 : Int32)), (.int (0 : Int32)), (.long k_)] 5 = (mkF m 0 #[.val (.ref b), .val (.int (0 : Int32)), .val (.int (0 : Int32)), .val (.long k_), .second] []) := by first | (simp [entryFrame, mkF, argsToLocals, Value.category]; done) | rfl
  show OwnGoes p e below (fun ow_ Ue_ => ∃ vw_ Lw_, ow_ = .returned vw_ ∧ QI (-1 : Int32) h0 n0 vw_ Ue_.heap Lw_ ∧ FrameEnd s ow_ Ue_ Lw_ ({ frames := 1, cells := 0, slots := 0, locals := 21 } : Room).cells ({ frames := 1, cells := 0, slots := 0, locals := 21 } : Room).slots) (s₁.setTop (entryFrame m #[(.ref b), (.int (0 : Int32)), (.int (0 : Int32)), (.long k_)] 5))
  refine own_pre (fun t k => castTop ef k) ?_
  show OwnGoes p e below _ (s₁.setTop (mkF m 0 #[.val (.ref b), .val (.int (0 : Int32)), .val (.int (0 : Int32)), .val (.long k_), .second] []))
  refine own_pre (fun _ kz_ => XS.aloadN X0.here hx rfl (hb hby d11_0) rfl rfl kz_) ?_
  show OwnGoes p e below _ (s₁.setTop (mkF m 1 #[.val (.ref b), .val (.int (0 : Int32)), .val (.int (0 : Int32)), .val (.long k_), .second] [(.ref b)]))
  refine own_pre (own_alen X0 hx hZ e0 V (n := (64 : Int32)) (by show (64 : Int32) = Int32.ofNat (tl.length + 1 + 1); rw [ht]; rfl) (g := (mkF m 1 #[.val (.ref b), .val (.int (0 : Int32)), .val (.int (0 : Int32)), .val (.long k_), .second] [(.ref b)])) rfl rfl (hb hby d11_1)) ?_
  show OwnGoes p e below _ (s₁.setTop (mkF m 2 #[.val (.ref b), .val (.int (0 : Int32)), .val (.int (0 : Int32)), .val (.long k_), .second] [(.int (64 : Int32))]))
  refine own_pre (fun _ kz_ => XS.iloadN X0.here hx rfl (hb hby d11_2) rfl kz_) ?_
  show OwnGoes p e below _ (s₁.setTop (mkF m 3 #[.val (.ref b), .val (.int (0 : Int32)), .val (.int (0 : Int32)), .val (.long k_), .second] [(.int (0 : Int32)), (.int (64 : Int32))]))
  refine own_pre (fun _ kz_ => XS.iloadN X0.here hx rfl (hb hby d11_3) rfl kz_) ?_
  show OwnGoes p e below _ (s₁.setTop (mkF m 4 #[.val (.ref b), .val (.int (0 : Int32)), .val (.int (0 : Int32)), .val (.long k_), .second] [(.int (0 : Int32)), (.int (0 : Int32)), (.int (64 : Int32))]))
  obtain ⟨_, _, ⟨T1, L1, k1, n1⟩, -, X1, ⟨Lc1, hQ1, l1, y1, z1⟩, st1⟩ := Jvm.LawKit.callS X0 hx (y := (⟨"java/util/Arrays", "rangeCheck", "(III)V"⟩ : MethodName)) hown (mvT hZ (hw _ (List.mem_of_getElem? (i := 38) rfl))) (mvT hZ (hw _ (List.mem_of_getElem? (i := 39) rfl))) (mvT hZ (hw _ (List.mem_of_getElem? (i := 36) rfl))) (mvT hZ (hw _ (List.mem_of_getElem? (i := 40) rfl))) (by decide) (backOf (W := 0) (rmRg0 l Z a0 hw [] h0 n0 Z0) hZ (hw _ (List.mem_of_getElem? (i := 40) rfl)) (hw _ (List.mem_of_getElem? (i := 36) rfl)) (by decide) (by decide)) (g := (mkF m 4 #[.val (.ref b), .val (.int (0 : Int32)), .val (.int (0 : Int32)), .val (.long k_), .second] [(.int (0 : Int32)), (.int (0 : Int32)), (.int (64 : Int32))])) rfl (by rw [hml]; rfl) (argsL := [(.int (64 : Int32)), (.int (0 : Int32)), (.int (0 : Int32))]) (rest := []) (lenOf (d := "(III)V") (ps := [.int, .int, .int]) (r := none) (by decide +kernel) rfl) rfl (by show 2 * 0 + _ ≤ _; exact Nat.le_of_eq rfl) (hb hby d11_4) (fun _ _ => ⟨rfl, e0, (by decide : 0 + 0 ≤ _), (by decide : 0 + 0 ≤ _)⟩)
  dsimp only [Pt.U, Pt.locs, Pt.cells, Pt.slots] at X1 l1 y1 z1 st1 hQ1
  subst l1 y1 z1
  obtain ⟨rfl, N1q, e1⟩ := hQ1
  have N1 := Fr.app N0 N1q
  refine own_pre st1 ?_
  show OwnGoes p e below _ (T1.setTop (mkF m 7 #[.val (.ref b), .val (.int (0 : Int32)), .val (.int (0 : Int32)), .val (.long k_), .second] []))
  refine own_pre (fun _ kz_ => XS.aloadN X1.here hx rfl (hb hby d11_7) rfl rfl kz_) ?_
  show OwnGoes p e below _ (T1.setTop (mkF m 8 #[.val (.ref b), .val (.int (0 : Int32)), .val (.int (0 : Int32)), .val (.long k_), .second] [(.ref b)]))
  refine own_pre (fun _ kz_ => XS.iloadN X1.here hx rfl (hb hby d11_8) rfl kz_) ?_
  show OwnGoes p e below _ (T1.setTop (mkF m 9 #[.val (.ref b), .val (.int (0 : Int32)), .val (.int (0 : Int32)), .val (.long k_), .second] [(.int (0 : Int32)), (.ref b)]))
  refine own_pre (fun _ kz_ => XS.iloadN X1.here hx rfl (hb hby d11_9) rfl kz_) ?_
  show OwnGoes p e below _ (T1.setTop (mkF m 10 #[.val (.ref b), .val (.int (0 : Int32)), .val (.int (0 : Int32)), .val (.long k_), .second] [(.int (0 : Int32)), (.int (0 : Int32)), (.ref b)]))
  refine own_pre (fun _ kz_ => XS.lloadN X1.here hx rfl (hb hby d11_10) rfl kz_) ?_
  show OwnGoes p e below _ (T1.setTop (mkF m 11 #[.val (.ref b), .val (.int (0 : Int32)), .val (.int (0 : Int32)), .val (.long k_), .second] [(.long k_), (.int (0 : Int32)), (.int (0 : Int32)), (.ref b)]))
  obtain ⟨_, _, ⟨T2, L2, k2, n2⟩, -, X2, ⟨Lc2, hQ2, l2, y2, z2⟩, st2⟩ := Jvm.LawKit.callS X1 hx (y := (⟨"java/util/Arrays", "binarySearch0", "([JIIJ)I"⟩ : MethodName)) hown (mvT hZ (hw _ (List.mem_of_getElem? (i := 54) rfl))) (mvT hZ (hw _ (List.mem_of_getElem? (i := 55) rfl))) (mvT hZ (hw _ (List.mem_of_getElem? (i := 36) rfl))) (mvT hZ (hw _ (List.mem_of_getElem? (i := 56) rfl))) (by decide) (backOf (W := 0) (rmB0_0 l Z a0 hw [] b x0 x1 tl k_ h0 n0 Z0 V ht g_b) hZ (hw _ (List.mem_of_getElem? (i := 56) rfl)) (hw _ (List.mem_of_getElem? (i := 36) rfl)) (by decide) (by decide)) (g := (mkF m 11 #[.val (.ref b), .val (.int (0 : Int32)), .val (.int (0 : Int32)), .val (.long k_), .second] [(.long k_), (.int (0 : Int32)), (.int (0 : Int32)), (.ref b)])) rfl (by rw [hml]; rfl) (argsL := [(.ref b), (.int (0 : Int32)), (.int (0 : Int32)), (.long k_)]) (rest := []) (lenOf (d := "([JIIJ)I") (ps := [(.array .long), .int, .int, .long]) (r := some .int) (by decide +kernel) rfl) rfl (by show 2 * 0 + _ ≤ _; exact Nat.le_of_eq rfl) (hb hby d11_11) (fun _ _ => ⟨rfl, e1, (by decide : 0 + 0 ≤ _), (by decide : 0 + 0 ≤ _)⟩)
  dsimp only [Pt.U, Pt.locs, Pt.cells, Pt.slots] at X2 l2 y2 z2 st2 hQ2
  subst l2 y2 z2
  obtain ⟨rfl, N2q, e2⟩ := hQ2
  have N2 := Fr.app N1 N2q
  refine own_pre st2 ?_
  show OwnGoes p e below _ (T2.setTop (mkF m 14 #[.val (.ref b), .val (.int (0 : Int32)), .val (.int (0 : Int32)), .val (.long k_), .second] [(.int (-1 : Int32))]))
  exact own_ret X2 hx Bd.returns (rfl) (Or.inl ⟨rfl, by simp, _, rfl⟩) Bd.notSynchronized (hb hby d11_14) ⟨rfl, N2, e2⟩ (by decide) (by decide)
set_option maxRecDepth 65536 in
set_option maxHeartbeats 40000000 in
theorem rmB0_1 (l : Launch) (Z : State) (a0 : Array Value) (hw : ∀ d ∈ tables_1, d.before a0 Z = true) (ws : List Jvm.Cond) (b : Addr) (x0 x1 : Int64) (tl : List Value) (k_ : Int64) (h0 : Heap) (n0 : Nat) (Z0 : n0 ≤ h0.size) (V : OwnA Z h0 b .long (.long x0 :: .long x1 :: tl)) (ht : tl.length = 62) (g_b : n0 ≤ b) :
    MetFree l (⟨"java/util/Arrays", "binarySearch0", "([JIIJ)I"⟩ : MethodName) (head1 (Jvm.Cond.code (⟨"java/util/Arrays", "binarySearch0", "([JIIJ)I"⟩ : MethodName) jdk_65_method_56_code 10 (some .int) :: ws) ({ frames := 0, cells := 0, slots := 0, locals := 0 } : Room)) (fun a U => a = #[(.ref b), (.int (0 : Int32)), (.int (1 : Int32)), (.long k_)] ∧ Z.Warmed39 U.vm ∧ U.heap = h0) (fun _ _ _ _ _ => True) (fun _ Uw_ ow_ Ue_ => ∃ vw_ Lw_, ow_ = .returned vw_ ∧ QI (own_bs x0 k_) h0 n0 vw_ Ue_.heap Lw_ ∧ FrameEnd Uw_ ow_ Ue_ Lw_ ({ frames := 0, cells := 0, slots := 0, locals := 0 } : Room).cells ({ frames := 0, cells := 0, slots := 0, locals := 0 } : Room).slots) := by
  refine MetFree.of_bodySF (plainFor_of_name (by first | (simp [plainName, overriddenIn]; done) | decide +kernel)) hisR ?_
  intro p e s m args below meth c s₁ Bd hml0 hP hK
  obtain ⟨rfl, hZ, hh⟩ := hP
  have hx := Bd.exec
  have hby := Bd.bytes
  have hml : c.maxLocals = 10 := hml0
  have hown : s.vm.findClass "java/util/Arrays" = some m.cls := findClass_of_methodNamed Bd.named
  have hnm := (name_of_methodNamed Bd.named Bd.method).1
  have X0 : Stand p l e ({ frames := 0, cells := 0, slots := 0, locals := 0 } : Room) s m #[(.ref b), (.int (0 : Int32)), (.int (1 : Int32)), (.long k_)] below meth c s₁ [] 0 0 := Stand.of_body Bd
  have e0 : s₁.heap = h0 := by rw [← hh, Bd.state]; rfl
  have N0 := Fr.nil n0
  have ef : entryFrame m #[(.ref b), (.int (0 : Int32)), (.int (1 : Int32)), (.long k_)] 10 = (mkF m 0 #[.val (.ref b), .val (.int (0 : Int32)), .val (.int (1 : Int32)), .val (.long k_), .second, .unset, .unset, .unset, .unset, .unset] []) := by first | (simp [entryFrame, mkF, argsToLocals, Value.category]; done) | rfl
  show OwnGoes p e below (fun ow_ Ue_ => ∃ vw_ Lw_, ow_ = .returned vw_ ∧ QI (own_bs x0 k_) h0 n0 vw_ Ue_.heap Lw_ ∧ FrameEnd s ow_ Ue_ Lw_ ({ frames := 0, cells := 0, slots := 0, locals := 0 } : Room).cells ({ frames := 0, cells := 0, slots := 0, locals := 0 } : Room).slots) (s₁.setTop (entryFrame m #[(.ref b), (.int (0 : Int32)), (.int (1 : Int32)), (.long k_)] 10))
  refine own_pre (fun t k => castTop ef k) ?_
  show OwnGoes p e below _ (s₁.setTop (mkF m 0 #[.val (.ref b), .val (.int (0 : Int32)), .val (.int (1 : Int32)), .val (.long k_), .second, .unset, .unset, .unset, .unset, .unset] []))
  refine own_pre (fun _ kz_ => XS.iloadN X0.here hx rfl (hb hby d12_0) rfl kz_) ?_
  show OwnGoes p e below _ (s₁.setTop (mkF m 1 #[.val (.ref b), .val (.int (0 : Int32)), .val (.int (1 : Int32)), .val (.long k_), .second, .unset, .unset, .unset, .unset, .unset] [(.int (0 : Int32))]))
  refine own_pre (fun _ kz_ => XS.istore X0.here hx rfl (hb hby d12_1) rfl (l' := #[.val (.ref b), .val (.int (0 : Int32)), .val (.int (1 : Int32)), .val (.long k_), .second, .val (.int (0 : Int32)), .unset, .unset, .unset, .unset]) rfl kz_) ?_
  show OwnGoes p e below _ (s₁.setTop (mkF m 3 #[.val (.ref b), .val (.int (0 : Int32)), .val (.int (1 : Int32)), .val (.long k_), .second, .val (.int (0 : Int32)), .unset, .unset, .unset, .unset] []))
  refine own_pre (fun _ kz_ => XS.iloadN X0.here hx rfl (hb hby d12_3) rfl kz_) ?_
  show OwnGoes p e below _ (s₁.setTop (mkF m 4 #[.val (.ref b), .val (.int (0 : Int32)), .val (.int (1 : Int32)), .val (.long k_), .second, .val (.int (0 : Int32)), .unset, .unset, .unset, .unset] [(.int (1 : Int32))]))
  refine own_pre (fun _ kz_ => XS.iconst X0.here hx rfl (hb hby d12_4) kz_) ?_
  show OwnGoes p e below _ (s₁.setTop (mkF m 5 #[.val (.ref b), .val (.int (0 : Int32)), .val (.int (1 : Int32)), .val (.long k_), .second, .val (.int (0 : Int32)), .unset, .unset, .unset, .unset] [(.int (1 : Int32)), (.int (1 : Int32))]))
  refine own_pre (fun _ kz_ => XS.isub X0.here hx rfl (hb hby d12_5) rfl kz_) ?_
  show OwnGoes p e below _ (s₁.setTop (mkF m 6 #[.val (.ref b), .val (.int (0 : Int32)), .val (.int (1 : Int32)), .val (.long k_), .second, .val (.int (0 : Int32)), .unset, .unset, .unset, .unset] [(.int ((1 : Int32) - (1 : Int32)))]))
  rw [show ((1 : Int32) - (1 : Int32)) = (0 : Int32) from by decide]
  show OwnGoes p e below _ (s₁.setTop (mkF m 6 #[.val (.ref b), .val (.int (0 : Int32)), .val (.int (1 : Int32)), .val (.long k_), .second, .val (.int (0 : Int32)), .unset, .unset, .unset, .unset] [(.int (0 : Int32))]))
  refine own_pre (fun _ kz_ => XS.istore X0.here hx rfl (hb hby d12_6) rfl (l' := #[.val (.ref b), .val (.int (0 : Int32)), .val (.int (1 : Int32)), .val (.long k_), .second, .val (.int (0 : Int32)), .val (.int (0 : Int32)), .unset, .unset, .unset]) rfl kz_) ?_
  show OwnGoes p e below _ (s₁.setTop (mkF m 8 #[.val (.ref b), .val (.int (0 : Int32)), .val (.int (1 : Int32)), .val (.long k_), .second, .val (.int (0 : Int32)), .val (.int (0 : Int32)), .unset, .unset, .unset] []))
  refine own_pre (fun _ kz_ => XS.iload X0.here hx rfl (hb hby d12_8) rfl kz_) ?_
  show OwnGoes p e below _ (s₁.setTop (mkF m 10 #[.val (.ref b), .val (.int (0 : Int32)), .val (.int (1 : Int32)), .val (.long k_), .second, .val (.int (0 : Int32)), .val (.int (0 : Int32)), .unset, .unset, .unset] [(.int (0 : Int32))]))
  refine own_pre (fun _ kz_ => XS.iload X0.here hx rfl (hb hby d12_10) rfl kz_) ?_
  show OwnGoes p e below _ (s₁.setTop (mkF m 12 #[.val (.ref b), .val (.int (0 : Int32)), .val (.int (1 : Int32)), .val (.long k_), .second, .val (.int (0 : Int32)), .val (.int (0 : Int32)), .unset, .unset, .unset] [(.int (0 : Int32)), (.int (0 : Int32))]))
  refine own_pre (fun _ kz_ => XS.icmpNo X0.here hx rfl (hb hby d12_12) rfl (flt (by decide : ¬ ((0 : Int32) < (0 : Int32)))).2.2.1 kz_) ?_
  show OwnGoes p e below _ (s₁.setTop (mkF m 15 #[.val (.ref b), .val (.int (0 : Int32)), .val (.int (1 : Int32)), .val (.long k_), .second, .val (.int (0 : Int32)), .val (.int (0 : Int32)), .unset, .unset, .unset] []))
  refine own_pre (fun _ kz_ => XS.iload X0.here hx rfl (hb hby d12_15) rfl kz_) ?_
  show OwnGoes p e below _ (s₁.setTop (mkF m 17 #[.val (.ref b), .val (.int (0 : Int32)), .val (.int (1 : Int32)), .val (.long k_), .second, .val (.int (0 : Int32)), .val (.int (0 : Int32)), .unset, .unset, .unset] [(.int (0 : Int32))]))
  refine own_pre (fun _ kz_ => XS.iload X0.here hx rfl (hb hby d12_17) rfl kz_) ?_
  show OwnGoes p e below _ (s₁.setTop (mkF m 19 #[.val (.ref b), .val (.int (0 : Int32)), .val (.int (1 : Int32)), .val (.long k_), .second, .val (.int (0 : Int32)), .val (.int (0 : Int32)), .unset, .unset, .unset] [(.int (0 : Int32)), (.int (0 : Int32))]))
  refine own_pre (fun _ kz_ => XS.iadd X0.here hx rfl (hb hby d12_19) rfl kz_) ?_
  show OwnGoes p e below _ (s₁.setTop (mkF m 20 #[.val (.ref b), .val (.int (0 : Int32)), .val (.int (1 : Int32)), .val (.long k_), .second, .val (.int (0 : Int32)), .val (.int (0 : Int32)), .unset, .unset, .unset] [(.int ((0 : Int32) + (0 : Int32)))]))
  rw [show ((0 : Int32) + (0 : Int32)) = (0 : Int32) from by decide]
  show OwnGoes p e below _ (s₁.setTop (mkF m 20 #[.val (.ref b), .val (.int (0 : Int32)), .val (.int (1 : Int32)), .val (.long k_), .second, .val (.int (0 : Int32)), .val (.int (0 : Int32)), .unset, .unset, .unset] [(.int (0 : Int32))]))
  refine own_pre (fun _ kz_ => XS.iconst X0.here hx rfl (hb hby d12_20) kz_) ?_
  show OwnGoes p e below _ (s₁.setTop (mkF m 21 #[.val (.ref b), .val (.int (0 : Int32)), .val (.int (1 : Int32)), .val (.long k_), .second, .val (.int (0 : Int32)), .val (.int (0 : Int32)), .unset, .unset, .unset] [(.int (1 : Int32)), (.int (0 : Int32))]))
  refine own_pre (fun _ kz_ => XS.iushr X0.here hx rfl (hb hby d12_21) rfl kz_) ?_
  show OwnGoes p e below _ (s₁.setTop (mkF m 22 #[.val (.ref b), .val (.int (0 : Int32)), .val (.int (1 : Int32)), .val (.long k_), .second, .val (.int (0 : Int32)), .val (.int (0 : Int32)), .unset, .unset, .unset] [(.int (((0 : Int32).toUInt32 >>> ((1 : Int32) &&& 31).toUInt32).toInt32))]))
  rw [show (((0 : Int32).toUInt32 >>> ((1 : Int32) &&& 31).toUInt32).toInt32) = (0 : Int32) from by decide]
  show OwnGoes p e below _ (s₁.setTop (mkF m 22 #[.val (.ref b), .val (.int (0 : Int32)), .val (.int (1 : Int32)), .val (.long k_), .second, .val (.int (0 : Int32)), .val (.int (0 : Int32)), .unset, .unset, .unset] [(.int (0 : Int32))]))
  refine own_pre (fun _ kz_ => XS.istore X0.here hx rfl (hb hby d12_22) rfl (l' := #[.val (.ref b), .val (.int (0 : Int32)), .val (.int (1 : Int32)), .val (.long k_), .second, .val (.int (0 : Int32)), .val (.int (0 : Int32)), .val (.int (0 : Int32)), .unset, .unset]) rfl kz_) ?_
  show OwnGoes p e below _ (s₁.setTop (mkF m 24 #[.val (.ref b), .val (.int (0 : Int32)), .val (.int (1 : Int32)), .val (.long k_), .second, .val (.int (0 : Int32)), .val (.int (0 : Int32)), .val (.int (0 : Int32)), .unset, .unset] []))
  refine own_pre (fun _ kz_ => XS.aloadN X0.here hx rfl (hb hby d12_24) rfl rfl kz_) ?_
  show OwnGoes p e below _ (s₁.setTop (mkF m 25 #[.val (.ref b), .val (.int (0 : Int32)), .val (.int (1 : Int32)), .val (.long k_), .second, .val (.int (0 : Int32)), .val (.int (0 : Int32)), .val (.int (0 : Int32)), .unset, .unset] [(.ref b)]))
  refine own_pre (fun _ kz_ => XS.iload X0.here hx rfl (hb hby d12_25) rfl kz_) ?_
  show OwnGoes p e below _ (s₁.setTop (mkF m 27 #[.val (.ref b), .val (.int (0 : Int32)), .val (.int (1 : Int32)), .val (.long k_), .second, .val (.int (0 : Int32)), .val (.int (0 : Int32)), .val (.int (0 : Int32)), .unset, .unset] [(.int (0 : Int32)), (.ref b)]))
  refine own_pre (own_lald X0 hx hZ e0 V (j := (0 : Int32)) (v := (.long x0)) (by decide) rfl (g := (mkF m 27 #[.val (.ref b), .val (.int (0 : Int32)), .val (.int (1 : Int32)), .val (.long k_), .second, .val (.int (0 : Int32)), .val (.int (0 : Int32)), .val (.int (0 : Int32)), .unset, .unset] [(.int (0 : Int32)), (.ref b)])) rfl rfl (hb hby d12_27)) ?_
  show OwnGoes p e below _ (s₁.setTop (mkF m 28 #[.val (.ref b), .val (.int (0 : Int32)), .val (.int (1 : Int32)), .val (.long k_), .second, .val (.int (0 : Int32)), .val (.int (0 : Int32)), .val (.int (0 : Int32)), .unset, .unset] [(.long x0)]))
  refine own_pre (fun _ kz_ => XS.lstore X0.here hx rfl (hb hby d12_28) rfl (l' := #[.val (.ref b), .val (.int (0 : Int32)), .val (.int (1 : Int32)), .val (.long k_), .second, .val (.int (0 : Int32)), .val (.int (0 : Int32)), .val (.int (0 : Int32)), .val (.long x0), .second]) rfl kz_) ?_
  show OwnGoes p e below _ (s₁.setTop (mkF m 30 #[.val (.ref b), .val (.int (0 : Int32)), .val (.int (1 : Int32)), .val (.long k_), .second, .val (.int (0 : Int32)), .val (.int (0 : Int32)), .val (.int (0 : Int32)), .val (.long x0), .second] []))
  refine own_pre (fun _ kz_ => XS.lload X0.here hx rfl (hb hby d12_30) rfl kz_) ?_
  show OwnGoes p e below _ (s₁.setTop (mkF m 32 #[.val (.ref b), .val (.int (0 : Int32)), .val (.int (1 : Int32)), .val (.long k_), .second, .val (.int (0 : Int32)), .val (.int (0 : Int32)), .val (.int (0 : Int32)), .val (.long x0), .second] [(.long x0)]))
  refine own_pre (fun _ kz_ => XS.lloadN X0.here hx rfl (hb hby d12_32) rfl kz_) ?_
  show OwnGoes p e below _ (s₁.setTop (mkF m 33 #[.val (.ref b), .val (.int (0 : Int32)), .val (.int (1 : Int32)), .val (.long k_), .second, .val (.int (0 : Int32)), .val (.int (0 : Int32)), .val (.int (0 : Int32)), .val (.long x0), .second] [(.long k_), (.long x0)]))
  refine own_pre (fun _ kz_ => XS.lcmp X0.here hx rfl (hb hby d12_33) rfl kz_) ?_
  show OwnGoes p e below _ (s₁.setTop (mkF m 34 #[.val (.ref b), .val (.int (0 : Int32)), .val (.int (1 : Int32)), .val (.long k_), .second, .val (.int (0 : Int32)), .val (.int (0 : Int32)), .val (.int (0 : Int32)), .val (.long x0), .second] [(.int (lcmpW x0 k_))]))
  by_cases h34 : x0 < k_
  · refine own_pre (fun _ kz_ => XS.ifNo X0.here hx rfl (hb hby d12_34) rfl ((if0 _ _).trans (tlt ((lw_lt x0 k_).mpr h34)).2.1) kz_) ?_
    show OwnGoes p e below _ (s₁.setTop (mkF m 37 #[.val (.ref b), .val (.int (0 : Int32)), .val (.int (1 : Int32)), .val (.long k_), .second, .val (.int (0 : Int32)), .val (.int (0 : Int32)), .val (.int (0 : Int32)), .val (.long x0), .second] []))
    refine own_pre (fun _ kz_ => XS.iload X0.here hx rfl (hb hby d12_37) rfl kz_) ?_
    show OwnGoes p e below _ (s₁.setTop (mkF m 39 #[.val (.ref b), .val (.int (0 : Int32)), .val (.int (1 : Int32)), .val (.long k_), .second, .val (.int (0 : Int32)), .val (.int (0 : Int32)), .val (.int (0 : Int32)), .val (.long x0), .second] [(.int (0 : Int32))]))
    refine own_pre (fun _ kz_ => XS.iconst X0.here hx rfl (hb hby d12_39) kz_) ?_
    show OwnGoes p e below _ (s₁.setTop (mkF m 40 #[.val (.ref b), .val (.int (0 : Int32)), .val (.int (1 : Int32)), .val (.long k_), .second, .val (.int (0 : Int32)), .val (.int (0 : Int32)), .val (.int (0 : Int32)), .val (.long x0), .second] [(.int (1 : Int32)), (.int (0 : Int32))]))
    refine own_pre (fun _ kz_ => XS.iadd X0.here hx rfl (hb hby d12_40) rfl kz_) ?_
    show OwnGoes p e below _ (s₁.setTop (mkF m 41 #[.val (.ref b), .val (.int (0 : Int32)), .val (.int (1 : Int32)), .val (.long k_), .second, .val (.int (0 : Int32)), .val (.int (0 : Int32)), .val (.int (0 : Int32)), .val (.long x0), .second] [(.int ((0 : Int32) + (1 : Int32)))]))
    rw [show ((0 : Int32) + (1 : Int32)) = (1 : Int32) from by decide]
    show OwnGoes p e below _ (s₁.setTop (mkF m 41 #[.val (.ref b), .val (.int (0 : Int32)), .val (.int (1 : Int32)), .val (.long k_), .second, .val (.int (0 : Int32)), .val (.int (0 : Int32)), .val (.int (0 : Int32)), .val (.long x0), .second] [(.int (1 : Int32))]))
    refine own_pre (fun _ kz_ => XS.istore X0.here hx rfl (hb hby d12_41) rfl (l' := #[.val (.ref b), .val (.int (0 : Int32)), .val (.int (1 : Int32)), .val (.long k_), .second, .val (.int (1 : Int32)), .val (.int (0 : Int32)), .val (.int (0 : Int32)), .val (.long x0), .second]) rfl kz_) ?_
    show OwnGoes p e below _ (s₁.setTop (mkF m 43 #[.val (.ref b), .val (.int (0 : Int32)), .val (.int (1 : Int32)), .val (.long k_), .second, .val (.int (1 : Int32)), .val (.int (0 : Int32)), .val (.int (0 : Int32)), .val (.long x0), .second] []))
    refine own_pre (fun _ kz_ => XS.goto X0.here hx rfl (pc0 := 43) (pc' := 65) rfl (hb hby d12_43) (by decide) (by decide) kz_) ?_
    show OwnGoes p e below _ (s₁.setTop (mkF m 65 #[.val (.ref b), .val (.int (0 : Int32)), .val (.int (1 : Int32)), .val (.long k_), .second, .val (.int (1 : Int32)), .val (.int (0 : Int32)), .val (.int (0 : Int32)), .val (.long x0), .second] []))
    refine own_pre (fun _ kz_ => XS.goto X0.here hx rfl (pc0 := 65) (pc' := 8) rfl (hb hby d12_65) (by decide) (by decide) kz_) ?_
    show OwnGoes p e below _ (s₁.setTop (mkF m 8 #[.val (.ref b), .val (.int (0 : Int32)), .val (.int (1 : Int32)), .val (.long k_), .second, .val (.int (1 : Int32)), .val (.int (0 : Int32)), .val (.int (0 : Int32)), .val (.long x0), .second] []))
    refine own_pre (fun _ kz_ => XS.iload X0.here hx rfl (hb hby d12_8) rfl kz_) ?_
    show OwnGoes p e below _ (s₁.setTop (mkF m 10 #[.val (.ref b), .val (.int (0 : Int32)), .val (.int (1 : Int32)), .val (.long k_), .second, .val (.int (1 : Int32)), .val (.int (0 : Int32)), .val (.int (0 : Int32)), .val (.long x0), .second] [(.int (1 : Int32))]))
    refine own_pre (fun _ kz_ => XS.iload X0.here hx rfl (hb hby d12_10) rfl kz_) ?_
    show OwnGoes p e below _ (s₁.setTop (mkF m 12 #[.val (.ref b), .val (.int (0 : Int32)), .val (.int (1 : Int32)), .val (.long k_), .second, .val (.int (1 : Int32)), .val (.int (0 : Int32)), .val (.int (0 : Int32)), .val (.long x0), .second] [(.int (0 : Int32)), (.int (1 : Int32))]))
    refine own_pre (fun _ kz_ => XS.icmpYes X0.here hx rfl (pc0 := 12) (pc' := 68) rfl (hb hby d12_12) rfl (tlt (by decide : (0 : Int32) < (1 : Int32))).2.2.1 (by decide) (by decide) kz_) ?_
    show OwnGoes p e below _ (s₁.setTop (mkF m 68 #[.val (.ref b), .val (.int (0 : Int32)), .val (.int (1 : Int32)), .val (.long k_), .second, .val (.int (1 : Int32)), .val (.int (0 : Int32)), .val (.int (0 : Int32)), .val (.long x0), .second] []))
    refine own_pre (fun _ kz_ => XS.iload X0.here hx rfl (hb hby d12_68) rfl kz_) ?_
    show OwnGoes p e below _ (s₁.setTop (mkF m 70 #[.val (.ref b), .val (.int (0 : Int32)), .val (.int (1 : Int32)), .val (.long k_), .second, .val (.int (1 : Int32)), .val (.int (0 : Int32)), .val (.int (0 : Int32)), .val (.long x0), .second] [(.int (1 : Int32))]))
    refine own_pre (fun _ kz_ => XS.iconst X0.here hx rfl (hb hby d12_70) kz_) ?_
    show OwnGoes p e below _ (s₁.setTop (mkF m 71 #[.val (.ref b), .val (.int (0 : Int32)), .val (.int (1 : Int32)), .val (.long k_), .second, .val (.int (1 : Int32)), .val (.int (0 : Int32)), .val (.int (0 : Int32)), .val (.long x0), .second] [(.int (1 : Int32)), (.int (1 : Int32))]))
    refine own_pre (fun _ kz_ => XS.iadd X0.here hx rfl (hb hby d12_71) rfl kz_) ?_
    show OwnGoes p e below _ (s₁.setTop (mkF m 72 #[.val (.ref b), .val (.int (0 : Int32)), .val (.int (1 : Int32)), .val (.long k_), .second, .val (.int (1 : Int32)), .val (.int (0 : Int32)), .val (.int (0 : Int32)), .val (.long x0), .second] [(.int ((1 : Int32) + (1 : Int32)))]))
    rw [show ((1 : Int32) + (1 : Int32)) = (2 : Int32) from by decide]
    show OwnGoes p e below _ (s₁.setTop (mkF m 72 #[.val (.ref b), .val (.int (0 : Int32)), .val (.int (1 : Int32)), .val (.long k_), .second, .val (.int (1 : Int32)), .val (.int (0 : Int32)), .val (.int (0 : Int32)), .val (.long x0), .second] [(.int (2 : Int32))]))
    refine own_pre (fun _ kz_ => XS.ineg X0.here hx rfl (hb hby d12_72) rfl kz_) ?_
    show OwnGoes p e below _ (s₁.setTop (mkF m 73 #[.val (.ref b), .val (.int (0 : Int32)), .val (.int (1 : Int32)), .val (.long k_), .second, .val (.int (1 : Int32)), .val (.int (0 : Int32)), .val (.int (0 : Int32)), .val (.long x0), .second] [(.int (-(2 : Int32)))]))
    rw [show (-(2 : Int32)) = (-2 : Int32) from by decide]
    show OwnGoes p e below _ (s₁.setTop (mkF m 73 #[.val (.ref b), .val (.int (0 : Int32)), .val (.int (1 : Int32)), .val (.long k_), .second, .val (.int (1 : Int32)), .val (.int (0 : Int32)), .val (.int (0 : Int32)), .val (.long x0), .second] [(.int (-2 : Int32))]))
    exact own_ret X0 hx Bd.returns (rfl) (Or.inl ⟨rfl, by simp, _, rfl⟩) Bd.notSynchronized (hb hby d12_73) ⟨by unfold own_bs; rw [if_pos h34], N0, e0⟩ (by decide) (by decide)
  · refine own_pre (fun _ kz_ => XS.ifYes X0.here hx rfl (pc0 := 34) (pc' := 46) rfl (hb hby d12_34) rfl ((if0 _ _).trans (flt (fun qz_ => h34 ((lw_lt x0 k_).mp qz_))).2.1) (by decide) (by decide) kz_) ?_
    show OwnGoes p e below _ (s₁.setTop (mkF m 46 #[.val (.ref b), .val (.int (0 : Int32)), .val (.int (1 : Int32)), .val (.long k_), .second, .val (.int (0 : Int32)), .val (.int (0 : Int32)), .val (.int (0 : Int32)), .val (.long x0), .second] []))
    refine own_pre (fun _ kz_ => XS.lload X0.here hx rfl (hb hby d12_46) rfl kz_) ?_
    show OwnGoes p e below _ (s₁.setTop (mkF m 48 #[.val (.ref b), .val (.int (0 : Int32)), .val (.int (1 : Int32)), .val (.long k_), .second, .val (.int (0 : Int32)), .val (.int (0 : Int32)), .val (.int (0 : Int32)), .val (.long x0), .second] [(.long x0)]))
    refine own_pre (fun _ kz_ => XS.lloadN X0.here hx rfl (hb hby d12_48) rfl kz_) ?_
    show OwnGoes p e below _ (s₁.setTop (mkF m 49 #[.val (.ref b), .val (.int (0 : Int32)), .val (.int (1 : Int32)), .val (.long k_), .second, .val (.int (0 : Int32)), .val (.int (0 : Int32)), .val (.int (0 : Int32)), .val (.long x0), .second] [(.long k_), (.long x0)]))
    refine own_pre (fun _ kz_ => XS.lcmp X0.here hx rfl (hb hby d12_49) rfl kz_) ?_
    show OwnGoes p e below _ (s₁.setTop (mkF m 50 #[.val (.ref b), .val (.int (0 : Int32)), .val (.int (1 : Int32)), .val (.long k_), .second, .val (.int (0 : Int32)), .val (.int (0 : Int32)), .val (.int (0 : Int32)), .val (.long x0), .second] [(.int (lcmpW x0 k_))]))
    by_cases h50 : k_ < x0
    · refine own_pre (fun _ kz_ => XS.ifNo X0.here hx rfl (hb hby d12_50) rfl ((if0 _ _).trans (tlt ((lw_gt x0 k_).mpr h50)).2.2.2) kz_) ?_
      show OwnGoes p e below _ (s₁.setTop (mkF m 53 #[.val (.ref b), .val (.int (0 : Int32)), .val (.int (1 : Int32)), .val (.long k_), .second, .val (.int (0 : Int32)), .val (.int (0 : Int32)), .val (.int (0 : Int32)), .val (.long x0), .second] []))
      refine own_pre (fun _ kz_ => XS.iload X0.here hx rfl (hb hby d12_53) rfl kz_) ?_
      show OwnGoes p e below _ (s₁.setTop (mkF m 55 #[.val (.ref b), .val (.int (0 : Int32)), .val (.int (1 : Int32)), .val (.long k_), .second, .val (.int (0 : Int32)), .val (.int (0 : Int32)), .val (.int (0 : Int32)), .val (.long x0), .second] [(.int (0 : Int32))]))
      refine own_pre (fun _ kz_ => XS.iconst X0.here hx rfl (hb hby d12_55) kz_) ?_
      show OwnGoes p e below _ (s₁.setTop (mkF m 56 #[.val (.ref b), .val (.int (0 : Int32)), .val (.int (1 : Int32)), .val (.long k_), .second, .val (.int (0 : Int32)), .val (.int (0 : Int32)), .val (.int (0 : Int32)), .val (.long x0), .second] [(.int (1 : Int32)), (.int (0 : Int32))]))
      refine own_pre (fun _ kz_ => XS.isub X0.here hx rfl (hb hby d12_56) rfl kz_) ?_
      show OwnGoes p e below _ (s₁.setTop (mkF m 57 #[.val (.ref b), .val (.int (0 : Int32)), .val (.int (1 : Int32)), .val (.long k_), .second, .val (.int (0 : Int32)), .val (.int (0 : Int32)), .val (.int (0 : Int32)), .val (.long x0), .second] [(.int ((0 : Int32) - (1 : Int32)))]))
      rw [show ((0 : Int32) - (1 : Int32)) = (-1 : Int32) from by decide]
      show OwnGoes p e below _ (s₁.setTop (mkF m 57 #[.val (.ref b), .val (.int (0 : Int32)), .val (.int (1 : Int32)), .val (.long k_), .second, .val (.int (0 : Int32)), .val (.int (0 : Int32)), .val (.int (0 : Int32)), .val (.long x0), .second] [(.int (-1 : Int32))]))
      refine own_pre (fun _ kz_ => XS.istore X0.here hx rfl (hb hby d12_57) rfl (l' := #[.val (.ref b), .val (.int (0 : Int32)), .val (.int (1 : Int32)), .val (.long k_), .second, .val (.int (0 : Int32)), .val (.int (-1 : Int32)), .val (.int (0 : Int32)), .val (.long x0), .second]) rfl kz_) ?_
      show OwnGoes p e below _ (s₁.setTop (mkF m 59 #[.val (.ref b), .val (.int (0 : Int32)), .val (.int (1 : Int32)), .val (.long k_), .second, .val (.int (0 : Int32)), .val (.int (-1 : Int32)), .val (.int (0 : Int32)), .val (.long x0), .second] []))
      refine own_pre (fun _ kz_ => XS.goto X0.here hx rfl (pc0 := 59) (pc' := 65) rfl (hb hby d12_59) (by decide) (by decide) kz_) ?_
      show OwnGoes p e below _ (s₁.setTop (mkF m 65 #[.val (.ref b), .val (.int (0 : Int32)), .val (.int (1 : Int32)), .val (.long k_), .second, .val (.int (0 : Int32)), .val (.int (-1 : Int32)), .val (.int (0 : Int32)), .val (.long x0), .second] []))
      refine own_pre (fun _ kz_ => XS.goto X0.here hx rfl (pc0 := 65) (pc' := 8) rfl (hb hby d12_65) (by decide) (by decide) kz_) ?_
      show OwnGoes p e below _ (s₁.setTop (mkF m 8 #[.val (.ref b), .val (.int (0 : Int32)), .val (.int (1 : Int32)), .val (.long k_), .second, .val (.int (0 : Int32)), .val (.int (-1 : Int32)), .val (.int (0 : Int32)), .val (.long x0), .second] []))
      refine own_pre (fun _ kz_ => XS.iload X0.here hx rfl (hb hby d12_8) rfl kz_) ?_
      show OwnGoes p e below _ (s₁.setTop (mkF m 10 #[.val (.ref b), .val (.int (0 : Int32)), .val (.int (1 : Int32)), .val (.long k_), .second, .val (.int (0 : Int32)), .val (.int (-1 : Int32)), .val (.int (0 : Int32)), .val (.long x0), .second] [(.int (0 : Int32))]))
      refine own_pre (fun _ kz_ => XS.iload X0.here hx rfl (hb hby d12_10) rfl kz_) ?_
      show OwnGoes p e below _ (s₁.setTop (mkF m 12 #[.val (.ref b), .val (.int (0 : Int32)), .val (.int (1 : Int32)), .val (.long k_), .second, .val (.int (0 : Int32)), .val (.int (-1 : Int32)), .val (.int (0 : Int32)), .val (.long x0), .second] [(.int (-1 : Int32)), (.int (0 : Int32))]))
      refine own_pre (fun _ kz_ => XS.icmpYes X0.here hx rfl (pc0 := 12) (pc' := 68) rfl (hb hby d12_12) rfl (tlt (by decide : (-1 : Int32) < (0 : Int32))).2.2.1 (by decide) (by decide) kz_) ?_
      show OwnGoes p e below _ (s₁.setTop (mkF m 68 #[.val (.ref b), .val (.int (0 : Int32)), .val (.int (1 : Int32)), .val (.long k_), .second, .val (.int (0 : Int32)), .val (.int (-1 : Int32)), .val (.int (0 : Int32)), .val (.long x0), .second] []))
      refine own_pre (fun _ kz_ => XS.iload X0.here hx rfl (hb hby d12_68) rfl kz_) ?_
      show OwnGoes p e below _ (s₁.setTop (mkF m 70 #[.val (.ref b), .val (.int (0 : Int32)), .val (.int (1 : Int32)), .val (.long k_), .second, .val (.int (0 : Int32)), .val (.int (-1 : Int32)), .val (.int (0 : Int32)), .val (.long x0), .second] [(.int (0 : Int32))]))
      refine own_pre (fun _ kz_ => XS.iconst X0.here hx rfl (hb hby d12_70) kz_) ?_
      show OwnGoes p e below _ (s₁.setTop (mkF m 71 #[.val (.ref b), .val (.int (0 : Int32)), .val (.int (1 : Int32)), .val (.long k_), .second, .val (.int (0 : Int32)), .val (.int (-1 : Int32)), .val (.int (0 : Int32)), .val (.long x0), .second] [(.int (1 : Int32)), (.int (0 : Int32))]))
      refine own_pre (fun _ kz_ => XS.iadd X0.here hx rfl (hb hby d12_71) rfl kz_) ?_
      show OwnGoes p e below _ (s₁.setTop (mkF m 72 #[.val (.ref b), .val (.int (0 : Int32)), .val (.int (1 : Int32)), .val (.long k_), .second, .val (.int (0 : Int32)), .val (.int (-1 : Int32)), .val (.int (0 : Int32)), .val (.long x0), .second] [(.int ((0 : Int32) + (1 : Int32)))]))
      rw [show ((0 : Int32) + (1 : Int32)) = (1 : Int32) from by decide]
      show OwnGoes p e below _ (s₁.setTop (mkF m 72 #[.val (.ref b), .val (.int (0 : Int32)), .val (.int (1 : Int32)), .val (.long k_), .second, .val (.int (0 : Int32)), .val (.int (-1 : Int32)), .val (.int (0 : Int32)), .val (.long x0), .second] [(.int (1 : Int32))]))
      refine own_pre (fun _ kz_ => XS.ineg X0.here hx rfl (hb hby d12_72) rfl kz_) ?_
      show OwnGoes p e below _ (s₁.setTop (mkF m 73 #[.val (.ref b), .val (.int (0 : Int32)), .val (.int (1 : Int32)), .val (.long k_), .second, .val (.int (0 : Int32)), .val (.int (-1 : Int32)), .val (.int (0 : Int32)), .val (.long x0), .second] [(.int (-(1 : Int32)))]))
      rw [show (-(1 : Int32)) = (-1 : Int32) from by decide]
      show OwnGoes p e below _ (s₁.setTop (mkF m 73 #[.val (.ref b), .val (.int (0 : Int32)), .val (.int (1 : Int32)), .val (.long k_), .second, .val (.int (0 : Int32)), .val (.int (-1 : Int32)), .val (.int (0 : Int32)), .val (.long x0), .second] [(.int (-1 : Int32))]))
      exact own_ret X0 hx Bd.returns (rfl) (Or.inl ⟨rfl, by simp, _, rfl⟩) Bd.notSynchronized (hb hby d12_73) ⟨by unfold own_bs; rw [if_neg h34, if_pos h50], N0, e0⟩ (by decide) (by decide)
    · refine own_pre (fun _ kz_ => XS.ifYes X0.here hx rfl (pc0 := 50) (pc' := 62) rfl (hb hby d12_50) rfl ((if0 _ _).trans (flt (fun qz_ => h50 ((lw_gt x0 k_).mp qz_))).2.2.2) (by decide) (by decide) kz_) ?_
      show OwnGoes p e below _ (s₁.setTop (mkF m 62 #[.val (.ref b), .val (.int (0 : Int32)), .val (.int (1 : Int32)), .val (.long k_), .second, .val (.int (0 : Int32)), .val (.int (0 : Int32)), .val (.int (0 : Int32)), .val (.long x0), .second] []))
      refine own_pre (fun _ kz_ => XS.iload X0.here hx rfl (hb hby d12_62) rfl kz_) ?_
      show OwnGoes p e below _ (s₁.setTop (mkF m 64 #[.val (.ref b), .val (.int (0 : Int32)), .val (.int (1 : Int32)), .val (.long k_), .second, .val (.int (0 : Int32)), .val (.int (0 : Int32)), .val (.int (0 : Int32)), .val (.long x0), .second] [(.int (0 : Int32))]))
      exact own_ret X0 hx Bd.returns (rfl) (Or.inl ⟨rfl, by simp, _, rfl⟩) Bd.notSynchronized (hb hby d12_64) ⟨by unfold own_bs; rw [if_neg h34, if_neg h50], N0, e0⟩ (by decide) (by decide)
set_option maxRecDepth 65536 in
set_option maxHeartbeats 40000000 in
theorem rmBS1 (l : Launch) (Z : State) (a0 : Array Value) (hw : ∀ d ∈ tables_1, d.before a0 Z = true) (ws : List Jvm.Cond) (b : Addr) (x0 x1 : Int64) (tl : List Value) (k_ : Int64) (h0 : Heap) (n0 : Nat) (Z0 : n0 ≤ h0.size) (V : OwnA Z h0 b .long (.long x0 :: .long x1 :: tl)) (ht : tl.length = 62) (g_b : n0 ≤ b) :
    MetFree l (⟨"java/util/Arrays", "binarySearch", "([JIIJ)I"⟩ : MethodName) (head1 (Jvm.Cond.code (⟨"java/util/Arrays", "binarySearch", "([JIIJ)I"⟩ : MethodName) jdk_65_method_55_code 5 (some .int) :: ws) ({ frames := 1, cells := 0, slots := 0, locals := 21 } : Room)) (fun a U => a = #[(.ref b), (.int (0 : Int32)), (.int (1 : Int32)), (.long k_)] ∧ Z.Warmed39 U.vm ∧ U.heap = h0) (fun _ _ _ _ _ => True) (fun _ Uw_ ow_ Ue_ => ∃ vw_ Lw_, ow_ = .returned vw_ ∧ QI (own_bs x0 k_) h0 n0 vw_ Ue_.heap Lw_ ∧ FrameEnd Uw_ ow_ Ue_ Lw_ ({ frames := 1, cells := 0, slots := 0, locals := 21 } : Room).cells ({ frames := 1, cells := 0, slots := 0, locals := 21 } : Room).slots) := by
  refine MetFree.of_bodySF (plainFor_of_name (by first | (simp [plainName, overriddenIn]; done) | decide +kernel)) hisR ?_
  intro p e s m args below meth c s₁ Bd hml0 hP hK
  obtain ⟨rfl, hZ, hh⟩ := hP
  have hx := Bd.exec
  have hby := Bd.bytes
  have hml : c.maxLocals = 5 := hml0
  have hown : s.vm.findClass "java/util/Arrays" = some m.cls := findClass_of_methodNamed Bd.named
  have hnm := (name_of_methodNamed Bd.named Bd.method).1
  have X0 : Stand p l e ({ frames := 1, cells := 0, slots := 0, locals := 21 } : Room) s m #[(.ref b), (.int (0 : Int32)), (.int (1 : Int32)), (.long k_)] below meth c s₁ [] 0 0 := Stand.of_body Bd
  have e0 : s₁.heap = h0 := by rw [← hh, Bd.state]; rfl
  have N0 := Fr.nil n0
  have ef : entryFrame m #[(.ref b), (.int (0 : Int32)), (.int (1 : Int32)), (.long k_)] 5 = (mkF m 0 #[.val (.ref b), .val (.int (0 : Int32)), .val (.int (1 : Int32)), .val (.long k_), .second] []) := by first | (simp [entryFrame, mkF, argsToLocals, Value.category]; done) | rfl
  show OwnGoes p e below (fun ow_ Ue_ => ∃ vw_ Lw_, ow_ = .returned vw_ ∧ QI (own_bs x0 k_) h0 n0 vw_ Ue_.heap Lw_ ∧ FrameEnd s ow_ Ue_ Lw_ ({ frames := 1, cells := 0, slots := 0, locals := 21 } : Room).cells ({ frames := 1, cells := 0, slots := 0, locals := 21 } : Room).slots) (s₁.setTop (entryFrame m #[(.ref b), (.int (0 : Int32)), (.int (1 : Int32)), (.long k_)] 5))
  refine own_pre (fun t k => castTop ef k) ?_
  show OwnGoes p e below _ (s₁.setTop (mkF m 0 #[.val (.ref b), .val (.int (0 : Int32)), .val (.int (1 : Int32)), .val (.long k_), .second] []))
  refine own_pre (fun _ kz_ => XS.aloadN X0.here hx rfl (hb hby d11_0) rfl rfl kz_) ?_
  show OwnGoes p e below _ (s₁.setTop (mkF m 1 #[.val (.ref b), .val (.int (0 : Int32)), .val (.int (1 : Int32)), .val (.long k_), .second] [(.ref b)]))
  refine own_pre (own_alen X0 hx hZ e0 V (n := (64 : Int32)) (by show (64 : Int32) = Int32.ofNat (tl.length + 1 + 1); rw [ht]; rfl) (g := (mkF m 1 #[.val (.ref b), .val (.int (0 : Int32)), .val (.int (1 : Int32)), .val (.long k_), .second] [(.ref b)])) rfl rfl (hb hby d11_1)) ?_
  show OwnGoes p e below _ (s₁.setTop (mkF m 2 #[.val (.ref b), .val (.int (0 : Int32)), .val (.int (1 : Int32)), .val (.long k_), .second] [(.int (64 : Int32))]))
  refine own_pre (fun _ kz_ => XS.iloadN X0.here hx rfl (hb hby d11_2) rfl kz_) ?_
  show OwnGoes p e below _ (s₁.setTop (mkF m 3 #[.val (.ref b), .val (.int (0 : Int32)), .val (.int (1 : Int32)), .val (.long k_), .second] [(.int (0 : Int32)), (.int (64 : Int32))]))
  refine own_pre (fun _ kz_ => XS.iloadN X0.here hx rfl (hb hby d11_3) rfl kz_) ?_
  show OwnGoes p e below _ (s₁.setTop (mkF m 4 #[.val (.ref b), .val (.int (0 : Int32)), .val (.int (1 : Int32)), .val (.long k_), .second] [(.int (1 : Int32)), (.int (0 : Int32)), (.int (64 : Int32))]))
  obtain ⟨_, _, ⟨T1, L1, k1, n1⟩, -, X1, ⟨Lc1, hQ1, l1, y1, z1⟩, st1⟩ := Jvm.LawKit.callS X0 hx (y := (⟨"java/util/Arrays", "rangeCheck", "(III)V"⟩ : MethodName)) hown (mvT hZ (hw _ (List.mem_of_getElem? (i := 38) rfl))) (mvT hZ (hw _ (List.mem_of_getElem? (i := 39) rfl))) (mvT hZ (hw _ (List.mem_of_getElem? (i := 36) rfl))) (mvT hZ (hw _ (List.mem_of_getElem? (i := 40) rfl))) (by decide) (backOf (W := 0) (rmRg1 l Z a0 hw [] h0 n0 Z0) hZ (hw _ (List.mem_of_getElem? (i := 40) rfl)) (hw _ (List.mem_of_getElem? (i := 36) rfl)) (by decide) (by decide)) (g := (mkF m 4 #[.val (.ref b), .val (.int (0 : Int32)), .val (.int (1 : Int32)), .val (.long k_), .second] [(.int (1 : Int32)), (.int (0 : Int32)), (.int (64 : Int32))])) rfl (by rw [hml]; rfl) (argsL := [(.int (64 : Int32)), (.int (0 : Int32)), (.int (1 : Int32))]) (rest := []) (lenOf (d := "(III)V") (ps := [.int, .int, .int]) (r := none) (by decide +kernel) rfl) rfl (by show 2 * 0 + _ ≤ _; exact Nat.le_of_eq rfl) (hb hby d11_4) (fun _ _ => ⟨rfl, e0, (by decide : 0 + 0 ≤ _), (by decide : 0 + 0 ≤ _)⟩)
  dsimp only [Pt.U, Pt.locs, Pt.cells, Pt.slots] at X1 l1 y1 z1 st1 hQ1
  subst l1 y1 z1
  obtain ⟨rfl, N1q, e1⟩ := hQ1
  have N1 := Fr.app N0 N1q
  refine own_pre st1 ?_
  show OwnGoes p e below _ (T1.setTop (mkF m 7 #[.val (.ref b), .val (.int (0 : Int32)), .val (.int (1 : Int32)), .val (.long k_), .second] []))
  refine own_pre (fun _ kz_ => XS.aloadN X1.here hx rfl (hb hby d11_7) rfl rfl kz_) ?_
  show OwnGoes p e below _ (T1.setTop (mkF m 8 #[.val (.ref b), .val (.int (0 : Int32)), .val (.int (1 : Int32)), .val (.long k_), .second] [(.ref b)]))
  refine own_pre (fun _ kz_ => XS.iloadN X1.here hx rfl (hb hby d11_8) rfl kz_) ?_
  show OwnGoes p e below _ (T1.setTop (mkF m 9 #[.val (.ref b), .val (.int (0 : Int32)), .val (.int (1 : Int32)), .val (.long k_), .second] [(.int (0 : Int32)), (.ref b)]))
  refine own_pre (fun _ kz_ => XS.iloadN X1.here hx rfl (hb hby d11_9) rfl kz_) ?_
  show OwnGoes p e below _ (T1.setTop (mkF m 10 #[.val (.ref b), .val (.int (0 : Int32)), .val (.int (1 : Int32)), .val (.long k_), .second] [(.int (1 : Int32)), (.int (0 : Int32)), (.ref b)]))
  refine own_pre (fun _ kz_ => XS.lloadN X1.here hx rfl (hb hby d11_10) rfl kz_) ?_
  show OwnGoes p e below _ (T1.setTop (mkF m 11 #[.val (.ref b), .val (.int (0 : Int32)), .val (.int (1 : Int32)), .val (.long k_), .second] [(.long k_), (.int (1 : Int32)), (.int (0 : Int32)), (.ref b)]))
  obtain ⟨_, _, ⟨T2, L2, k2, n2⟩, -, X2, ⟨Lc2, hQ2, l2, y2, z2⟩, st2⟩ := Jvm.LawKit.callS X1 hx (y := (⟨"java/util/Arrays", "binarySearch0", "([JIIJ)I"⟩ : MethodName)) hown (mvT hZ (hw _ (List.mem_of_getElem? (i := 54) rfl))) (mvT hZ (hw _ (List.mem_of_getElem? (i := 55) rfl))) (mvT hZ (hw _ (List.mem_of_getElem? (i := 36) rfl))) (mvT hZ (hw _ (List.mem_of_getElem? (i := 56) rfl))) (by decide) (backOf (W := 0) (rmB0_1 l Z a0 hw [] b x0 x1 tl k_ h0 n0 Z0 V ht g_b) hZ (hw _ (List.mem_of_getElem? (i := 56) rfl)) (hw _ (List.mem_of_getElem? (i := 36) rfl)) (by decide) (by decide)) (g := (mkF m 11 #[.val (.ref b), .val (.int (0 : Int32)), .val (.int (1 : Int32)), .val (.long k_), .second] [(.long k_), (.int (1 : Int32)), (.int (0 : Int32)), (.ref b)])) rfl (by rw [hml]; rfl) (argsL := [(.ref b), (.int (0 : Int32)), (.int (1 : Int32)), (.long k_)]) (rest := []) (lenOf (d := "([JIIJ)I") (ps := [(.array .long), .int, .int, .long]) (r := some .int) (by decide +kernel) rfl) rfl (by show 2 * 0 + _ ≤ _; exact Nat.le_of_eq rfl) (hb hby d11_11) (fun _ _ => ⟨rfl, e1, (by decide : 0 + 0 ≤ _), (by decide : 0 + 0 ≤ _)⟩)
  dsimp only [Pt.U, Pt.locs, Pt.cells, Pt.slots] at X2 l2 y2 z2 st2 hQ2
  subst l2 y2 z2
  obtain ⟨rfl, N2q, e2⟩ := hQ2
  have N2 := Fr.app N1 N2q
  refine own_pre st2 ?_
  show OwnGoes p e below _ (T2.setTop (mkF m 14 #[.val (.ref b), .val (.int (0 : Int32)), .val (.int (1 : Int32)), .val (.long k_), .second] [(.int (own_bs x0 k_))]))
  exact own_ret X2 hx Bd.returns (rfl) (Or.inl ⟨rfl, by simp, _, rfl⟩) Bd.notSynchronized (hb hby d11_14) ⟨rfl, N2, e2⟩ (by decide) (by decide)
set_option maxRecDepth 65536 in
set_option maxHeartbeats 40000000 in
theorem rmB0_2 (l : Launch) (Z : State) (a0 : Array Value) (hw : ∀ d ∈ tables_1, d.before a0 Z = true) (ws : List Jvm.Cond) (b : Addr) (x0 x1 : Int64) (tl : List Value) (k_ : Int64) (h0 : Heap) (n0 : Nat) (Z0 : n0 ≤ h0.size) (V : OwnA Z h0 b .long (.long x0 :: .long x1 :: tl)) (ht : tl.length = 62) (g_b : n0 ≤ b) :
    MetFree l (⟨"java/util/Arrays", "binarySearch0", "([JIIJ)I"⟩ : MethodName) (head1 (Jvm.Cond.code (⟨"java/util/Arrays", "binarySearch0", "([JIIJ)I"⟩ : MethodName) jdk_65_method_56_code 10 (some .int) :: ws) ({ frames := 0, cells := 0, slots := 0, locals := 0 } : Room)) (fun a U => a = #[(.ref b), (.int (0 : Int32)), (.int (2 : Int32)), (.long k_)] ∧ Z.Warmed39 U.vm ∧ U.heap = h0) (fun _ _ _ _ _ => True) (fun _ Uw_ ow_ Ue_ => ∃ vw_ Lw_, ow_ = .returned vw_ ∧ QB2 h0 n0 vw_ Ue_.heap Lw_ ∧ FrameEnd Uw_ ow_ Ue_ Lw_ ({ frames := 0, cells := 0, slots := 0, locals := 0 } : Room).cells ({ frames := 0, cells := 0, slots := 0, locals := 0 } : Room).slots) := by
  refine MetFree.of_bodySF (plainFor_of_name (by first | (simp [plainName, overriddenIn]; done) | decide +kernel)) hisR ?_
  intro p e s m args below meth c s₁ Bd hml0 hP hK
  obtain ⟨rfl, hZ, hh⟩ := hP
  have hx := Bd.exec
  have hby := Bd.bytes
  have hml : c.maxLocals = 10 := hml0
  have hown : s.vm.findClass "java/util/Arrays" = some m.cls := findClass_of_methodNamed Bd.named
  have hnm := (name_of_methodNamed Bd.named Bd.method).1
  have X0 : Stand p l e ({ frames := 0, cells := 0, slots := 0, locals := 0 } : Room) s m #[(.ref b), (.int (0 : Int32)), (.int (2 : Int32)), (.long k_)] below meth c s₁ [] 0 0 := Stand.of_body Bd
  have e0 : s₁.heap = h0 := by rw [← hh, Bd.state]; rfl
  have N0 := Fr.nil n0
  have ef : entryFrame m #[(.ref b), (.int (0 : Int32)), (.int (2 : Int32)), (.long k_)] 10 = (mkF m 0 #[.val (.ref b), .val (.int (0 : Int32)), .val (.int (2 : Int32)), .val (.long k_), .second, .unset, .unset, .unset, .unset, .unset] []) := by first | (simp [entryFrame, mkF, argsToLocals, Value.category]; done) | rfl
  show OwnGoes p e below (fun ow_ Ue_ => ∃ vw_ Lw_, ow_ = .returned vw_ ∧ QB2 h0 n0 vw_ Ue_.heap Lw_ ∧ FrameEnd s ow_ Ue_ Lw_ ({ frames := 0, cells := 0, slots := 0, locals := 0 } : Room).cells ({ frames := 0, cells := 0, slots := 0, locals := 0 } : Room).slots) (s₁.setTop (entryFrame m #[(.ref b), (.int (0 : Int32)), (.int (2 : Int32)), (.long k_)] 10))
  refine own_pre (fun t k => castTop ef k) ?_
  show OwnGoes p e below _ (s₁.setTop (mkF m 0 #[.val (.ref b), .val (.int (0 : Int32)), .val (.int (2 : Int32)), .val (.long k_), .second, .unset, .unset, .unset, .unset, .unset] []))
  refine own_pre (fun _ kz_ => XS.iloadN X0.here hx rfl (hb hby d12_0) rfl kz_) ?_
  show OwnGoes p e below _ (s₁.setTop (mkF m 1 #[.val (.ref b), .val (.int (0 : Int32)), .val (.int (2 : Int32)), .val (.long k_), .second, .unset, .unset, .unset, .unset, .unset] [(.int (0 : Int32))]))
  refine own_pre (fun _ kz_ => XS.istore X0.here hx rfl (hb hby d12_1) rfl (l' := #[.val (.ref b), .val (.int (0 : Int32)), .val (.int (2 : Int32)), .val (.long k_), .second, .val (.int (0 : Int32)), .unset, .unset, .unset, .unset]) rfl kz_) ?_
  show OwnGoes p e below _ (s₁.setTop (mkF m 3 #[.val (.ref b), .val (.int (0 : Int32)), .val (.int (2 : Int32)), .val (.long k_), .second, .val (.int (0 : Int32)), .unset, .unset, .unset, .unset] []))
  refine own_pre (fun _ kz_ => XS.iloadN X0.here hx rfl (hb hby d12_3) rfl kz_) ?_
  show OwnGoes p e below _ (s₁.setTop (mkF m 4 #[.val (.ref b), .val (.int (0 : Int32)), .val (.int (2 : Int32)), .val (.long k_), .second, .val (.int (0 : Int32)), .unset, .unset, .unset, .unset] [(.int (2 : Int32))]))
  refine own_pre (fun _ kz_ => XS.iconst X0.here hx rfl (hb hby d12_4) kz_) ?_
  show OwnGoes p e below _ (s₁.setTop (mkF m 5 #[.val (.ref b), .val (.int (0 : Int32)), .val (.int (2 : Int32)), .val (.long k_), .second, .val (.int (0 : Int32)), .unset, .unset, .unset, .unset] [(.int (1 : Int32)), (.int (2 : Int32))]))
  refine own_pre (fun _ kz_ => XS.isub X0.here hx rfl (hb hby d12_5) rfl kz_) ?_
  show OwnGoes p e below _ (s₁.setTop (mkF m 6 #[.val (.ref b), .val (.int (0 : Int32)), .val (.int (2 : Int32)), .val (.long k_), .second, .val (.int (0 : Int32)), .unset, .unset, .unset, .unset] [(.int ((2 : Int32) - (1 : Int32)))]))
  rw [show ((2 : Int32) - (1 : Int32)) = (1 : Int32) from by decide]
  show OwnGoes p e below _ (s₁.setTop (mkF m 6 #[.val (.ref b), .val (.int (0 : Int32)), .val (.int (2 : Int32)), .val (.long k_), .second, .val (.int (0 : Int32)), .unset, .unset, .unset, .unset] [(.int (1 : Int32))]))
  refine own_pre (fun _ kz_ => XS.istore X0.here hx rfl (hb hby d12_6) rfl (l' := #[.val (.ref b), .val (.int (0 : Int32)), .val (.int (2 : Int32)), .val (.long k_), .second, .val (.int (0 : Int32)), .val (.int (1 : Int32)), .unset, .unset, .unset]) rfl kz_) ?_
  show OwnGoes p e below _ (s₁.setTop (mkF m 8 #[.val (.ref b), .val (.int (0 : Int32)), .val (.int (2 : Int32)), .val (.long k_), .second, .val (.int (0 : Int32)), .val (.int (1 : Int32)), .unset, .unset, .unset] []))
  refine own_pre (fun _ kz_ => XS.iload X0.here hx rfl (hb hby d12_8) rfl kz_) ?_
  show OwnGoes p e below _ (s₁.setTop (mkF m 10 #[.val (.ref b), .val (.int (0 : Int32)), .val (.int (2 : Int32)), .val (.long k_), .second, .val (.int (0 : Int32)), .val (.int (1 : Int32)), .unset, .unset, .unset] [(.int (0 : Int32))]))
  refine own_pre (fun _ kz_ => XS.iload X0.here hx rfl (hb hby d12_10) rfl kz_) ?_
  show OwnGoes p e below _ (s₁.setTop (mkF m 12 #[.val (.ref b), .val (.int (0 : Int32)), .val (.int (2 : Int32)), .val (.long k_), .second, .val (.int (0 : Int32)), .val (.int (1 : Int32)), .unset, .unset, .unset] [(.int (1 : Int32)), (.int (0 : Int32))]))
  refine own_pre (fun _ kz_ => XS.icmpNo X0.here hx rfl (hb hby d12_12) rfl (flt (by decide : ¬ ((1 : Int32) < (0 : Int32)))).2.2.1 kz_) ?_
  show OwnGoes p e below _ (s₁.setTop (mkF m 15 #[.val (.ref b), .val (.int (0 : Int32)), .val (.int (2 : Int32)), .val (.long k_), .second, .val (.int (0 : Int32)), .val (.int (1 : Int32)), .unset, .unset, .unset] []))
  refine own_pre (fun _ kz_ => XS.iload X0.here hx rfl (hb hby d12_15) rfl kz_) ?_
  show OwnGoes p e below _ (s₁.setTop (mkF m 17 #[.val (.ref b), .val (.int (0 : Int32)), .val (.int (2 : Int32)), .val (.long k_), .second, .val (.int (0 : Int32)), .val (.int (1 : Int32)), .unset, .unset, .unset] [(.int (0 : Int32))]))
  refine own_pre (fun _ kz_ => XS.iload X0.here hx rfl (hb hby d12_17) rfl kz_) ?_
  show OwnGoes p e below _ (s₁.setTop (mkF m 19 #[.val (.ref b), .val (.int (0 : Int32)), .val (.int (2 : Int32)), .val (.long k_), .second, .val (.int (0 : Int32)), .val (.int (1 : Int32)), .unset, .unset, .unset] [(.int (1 : Int32)), (.int (0 : Int32))]))
  refine own_pre (fun _ kz_ => XS.iadd X0.here hx rfl (hb hby d12_19) rfl kz_) ?_
  show OwnGoes p e below _ (s₁.setTop (mkF m 20 #[.val (.ref b), .val (.int (0 : Int32)), .val (.int (2 : Int32)), .val (.long k_), .second, .val (.int (0 : Int32)), .val (.int (1 : Int32)), .unset, .unset, .unset] [(.int ((0 : Int32) + (1 : Int32)))]))
  rw [show ((0 : Int32) + (1 : Int32)) = (1 : Int32) from by decide]
  show OwnGoes p e below _ (s₁.setTop (mkF m 20 #[.val (.ref b), .val (.int (0 : Int32)), .val (.int (2 : Int32)), .val (.long k_), .second, .val (.int (0 : Int32)), .val (.int (1 : Int32)), .unset, .unset, .unset] [(.int (1 : Int32))]))
  refine own_pre (fun _ kz_ => XS.iconst X0.here hx rfl (hb hby d12_20) kz_) ?_
  show OwnGoes p e below _ (s₁.setTop (mkF m 21 #[.val (.ref b), .val (.int (0 : Int32)), .val (.int (2 : Int32)), .val (.long k_), .second, .val (.int (0 : Int32)), .val (.int (1 : Int32)), .unset, .unset, .unset] [(.int (1 : Int32)), (.int (1 : Int32))]))
  refine own_pre (fun _ kz_ => XS.iushr X0.here hx rfl (hb hby d12_21) rfl kz_) ?_
  show OwnGoes p e below _ (s₁.setTop (mkF m 22 #[.val (.ref b), .val (.int (0 : Int32)), .val (.int (2 : Int32)), .val (.long k_), .second, .val (.int (0 : Int32)), .val (.int (1 : Int32)), .unset, .unset, .unset] [(.int (((1 : Int32).toUInt32 >>> ((1 : Int32) &&& 31).toUInt32).toInt32))]))
  rw [show (((1 : Int32).toUInt32 >>> ((1 : Int32) &&& 31).toUInt32).toInt32) = (0 : Int32) from by decide]
  show OwnGoes p e below _ (s₁.setTop (mkF m 22 #[.val (.ref b), .val (.int (0 : Int32)), .val (.int (2 : Int32)), .val (.long k_), .second, .val (.int (0 : Int32)), .val (.int (1 : Int32)), .unset, .unset, .unset] [(.int (0 : Int32))]))
  refine own_pre (fun _ kz_ => XS.istore X0.here hx rfl (hb hby d12_22) rfl (l' := #[.val (.ref b), .val (.int (0 : Int32)), .val (.int (2 : Int32)), .val (.long k_), .second, .val (.int (0 : Int32)), .val (.int (1 : Int32)), .val (.int (0 : Int32)), .unset, .unset]) rfl kz_) ?_
  show OwnGoes p e below _ (s₁.setTop (mkF m 24 #[.val (.ref b), .val (.int (0 : Int32)), .val (.int (2 : Int32)), .val (.long k_), .second, .val (.int (0 : Int32)), .val (.int (1 : Int32)), .val (.int (0 : Int32)), .unset, .unset] []))
  refine own_pre (fun _ kz_ => XS.aloadN X0.here hx rfl (hb hby d12_24) rfl rfl kz_) ?_
  show OwnGoes p e below _ (s₁.setTop (mkF m 25 #[.val (.ref b), .val (.int (0 : Int32)), .val (.int (2 : Int32)), .val (.long k_), .second, .val (.int (0 : Int32)), .val (.int (1 : Int32)), .val (.int (0 : Int32)), .unset, .unset] [(.ref b)]))
  refine own_pre (fun _ kz_ => XS.iload X0.here hx rfl (hb hby d12_25) rfl kz_) ?_
  show OwnGoes p e below _ (s₁.setTop (mkF m 27 #[.val (.ref b), .val (.int (0 : Int32)), .val (.int (2 : Int32)), .val (.long k_), .second, .val (.int (0 : Int32)), .val (.int (1 : Int32)), .val (.int (0 : Int32)), .unset, .unset] [(.int (0 : Int32)), (.ref b)]))
  refine own_pre (own_lald X0 hx hZ e0 V (j := (0 : Int32)) (v := (.long x0)) (by decide) rfl (g := (mkF m 27 #[.val (.ref b), .val (.int (0 : Int32)), .val (.int (2 : Int32)), .val (.long k_), .second, .val (.int (0 : Int32)), .val (.int (1 : Int32)), .val (.int (0 : Int32)), .unset, .unset] [(.int (0 : Int32)), (.ref b)])) rfl rfl (hb hby d12_27)) ?_
  show OwnGoes p e below _ (s₁.setTop (mkF m 28 #[.val (.ref b), .val (.int (0 : Int32)), .val (.int (2 : Int32)), .val (.long k_), .second, .val (.int (0 : Int32)), .val (.int (1 : Int32)), .val (.int (0 : Int32)), .unset, .unset] [(.long x0)]))
  refine own_pre (fun _ kz_ => XS.lstore X0.here hx rfl (hb hby d12_28) rfl (l' := #[.val (.ref b), .val (.int (0 : Int32)), .val (.int (2 : Int32)), .val (.long k_), .second, .val (.int (0 : Int32)), .val (.int (1 : Int32)), .val (.int (0 : Int32)), .val (.long x0), .second]) rfl kz_) ?_
  show OwnGoes p e below _ (s₁.setTop (mkF m 30 #[.val (.ref b), .val (.int (0 : Int32)), .val (.int (2 : Int32)), .val (.long k_), .second, .val (.int (0 : Int32)), .val (.int (1 : Int32)), .val (.int (0 : Int32)), .val (.long x0), .second] []))
  refine own_pre (fun _ kz_ => XS.lload X0.here hx rfl (hb hby d12_30) rfl kz_) ?_
  show OwnGoes p e below _ (s₁.setTop (mkF m 32 #[.val (.ref b), .val (.int (0 : Int32)), .val (.int (2 : Int32)), .val (.long k_), .second, .val (.int (0 : Int32)), .val (.int (1 : Int32)), .val (.int (0 : Int32)), .val (.long x0), .second] [(.long x0)]))
  refine own_pre (fun _ kz_ => XS.lloadN X0.here hx rfl (hb hby d12_32) rfl kz_) ?_
  show OwnGoes p e below _ (s₁.setTop (mkF m 33 #[.val (.ref b), .val (.int (0 : Int32)), .val (.int (2 : Int32)), .val (.long k_), .second, .val (.int (0 : Int32)), .val (.int (1 : Int32)), .val (.int (0 : Int32)), .val (.long x0), .second] [(.long k_), (.long x0)]))
  refine own_pre (fun _ kz_ => XS.lcmp X0.here hx rfl (hb hby d12_33) rfl kz_) ?_
  show OwnGoes p e below _ (s₁.setTop (mkF m 34 #[.val (.ref b), .val (.int (0 : Int32)), .val (.int (2 : Int32)), .val (.long k_), .second, .val (.int (0 : Int32)), .val (.int (1 : Int32)), .val (.int (0 : Int32)), .val (.long x0), .second] [(.int (lcmpW x0 k_))]))
  by_cases h34 : x0 < k_
  · refine own_pre (fun _ kz_ => XS.ifNo X0.here hx rfl (hb hby d12_34) rfl ((if0 _ _).trans (tlt ((lw_lt x0 k_).mpr h34)).2.1) kz_) ?_
    show OwnGoes p e below _ (s₁.setTop (mkF m 37 #[.val (.ref b), .val (.int (0 : Int32)), .val (.int (2 : Int32)), .val (.long k_), .second, .val (.int (0 : Int32)), .val (.int (1 : Int32)), .val (.int (0 : Int32)), .val (.long x0), .second] []))
    refine own_pre (fun _ kz_ => XS.iload X0.here hx rfl (hb hby d12_37) rfl kz_) ?_
    show OwnGoes p e below _ (s₁.setTop (mkF m 39 #[.val (.ref b), .val (.int (0 : Int32)), .val (.int (2 : Int32)), .val (.long k_), .second, .val (.int (0 : Int32)), .val (.int (1 : Int32)), .val (.int (0 : Int32)), .val (.long x0), .second] [(.int (0 : Int32))]))
    refine own_pre (fun _ kz_ => XS.iconst X0.here hx rfl (hb hby d12_39) kz_) ?_
    show OwnGoes p e below _ (s₁.setTop (mkF m 40 #[.val (.ref b), .val (.int (0 : Int32)), .val (.int (2 : Int32)), .val (.long k_), .second, .val (.int (0 : Int32)), .val (.int (1 : Int32)), .val (.int (0 : Int32)), .val (.long x0), .second] [(.int (1 : Int32)), (.int (0 : Int32))]))
    refine own_pre (fun _ kz_ => XS.iadd X0.here hx rfl (hb hby d12_40) rfl kz_) ?_
    show OwnGoes p e below _ (s₁.setTop (mkF m 41 #[.val (.ref b), .val (.int (0 : Int32)), .val (.int (2 : Int32)), .val (.long k_), .second, .val (.int (0 : Int32)), .val (.int (1 : Int32)), .val (.int (0 : Int32)), .val (.long x0), .second] [(.int ((0 : Int32) + (1 : Int32)))]))
    rw [show ((0 : Int32) + (1 : Int32)) = (1 : Int32) from by decide]
    show OwnGoes p e below _ (s₁.setTop (mkF m 41 #[.val (.ref b), .val (.int (0 : Int32)), .val (.int (2 : Int32)), .val (.long k_), .second, .val (.int (0 : Int32)), .val (.int (1 : Int32)), .val (.int (0 : Int32)), .val (.long x0), .second] [(.int (1 : Int32))]))
    refine own_pre (fun _ kz_ => XS.istore X0.here hx rfl (hb hby d12_41) rfl (l' := #[.val (.ref b), .val (.int (0 : Int32)), .val (.int (2 : Int32)), .val (.long k_), .second, .val (.int (1 : Int32)), .val (.int (1 : Int32)), .val (.int (0 : Int32)), .val (.long x0), .second]) rfl kz_) ?_
    show OwnGoes p e below _ (s₁.setTop (mkF m 43 #[.val (.ref b), .val (.int (0 : Int32)), .val (.int (2 : Int32)), .val (.long k_), .second, .val (.int (1 : Int32)), .val (.int (1 : Int32)), .val (.int (0 : Int32)), .val (.long x0), .second] []))
    refine own_pre (fun _ kz_ => XS.goto X0.here hx rfl (pc0 := 43) (pc' := 65) rfl (hb hby d12_43) (by decide) (by decide) kz_) ?_
    show OwnGoes p e below _ (s₁.setTop (mkF m 65 #[.val (.ref b), .val (.int (0 : Int32)), .val (.int (2 : Int32)), .val (.long k_), .second, .val (.int (1 : Int32)), .val (.int (1 : Int32)), .val (.int (0 : Int32)), .val (.long x0), .second] []))
    refine own_pre (fun _ kz_ => XS.goto X0.here hx rfl (pc0 := 65) (pc' := 8) rfl (hb hby d12_65) (by decide) (by decide) kz_) ?_
    show OwnGoes p e below _ (s₁.setTop (mkF m 8 #[.val (.ref b), .val (.int (0 : Int32)), .val (.int (2 : Int32)), .val (.long k_), .second, .val (.int (1 : Int32)), .val (.int (1 : Int32)), .val (.int (0 : Int32)), .val (.long x0), .second] []))
    refine own_pre (fun _ kz_ => XS.iload X0.here hx rfl (hb hby d12_8) rfl kz_) ?_
    show OwnGoes p e below _ (s₁.setTop (mkF m 10 #[.val (.ref b), .val (.int (0 : Int32)), .val (.int (2 : Int32)), .val (.long k_), .second, .val (.int (1 : Int32)), .val (.int (1 : Int32)), .val (.int (0 : Int32)), .val (.long x0), .second] [(.int (1 : Int32))]))
    refine own_pre (fun _ kz_ => XS.iload X0.here hx rfl (hb hby d12_10) rfl kz_) ?_
    show OwnGoes p e below _ (s₁.setTop (mkF m 12 #[.val (.ref b), .val (.int (0 : Int32)), .val (.int (2 : Int32)), .val (.long k_), .second, .val (.int (1 : Int32)), .val (.int (1 : Int32)), .val (.int (0 : Int32)), .val (.long x0), .second] [(.int (1 : Int32)), (.int (1 : Int32))]))
    refine own_pre (fun _ kz_ => XS.icmpNo X0.here hx rfl (hb hby d12_12) rfl (flt (by decide : ¬ ((1 : Int32) < (1 : Int32)))).2.2.1 kz_) ?_
    show OwnGoes p e below _ (s₁.setTop (mkF m 15 #[.val (.ref b), .val (.int (0 : Int32)), .val (.int (2 : Int32)), .val (.long k_), .second, .val (.int (1 : Int32)), .val (.int (1 : Int32)), .val (.int (0 : Int32)), .val (.long x0), .second] []))
    refine own_pre (fun _ kz_ => XS.iload X0.here hx rfl (hb hby d12_15) rfl kz_) ?_
    show OwnGoes p e below _ (s₁.setTop (mkF m 17 #[.val (.ref b), .val (.int (0 : Int32)), .val (.int (2 : Int32)), .val (.long k_), .second, .val (.int (1 : Int32)), .val (.int (1 : Int32)), .val (.int (0 : Int32)), .val (.long x0), .second] [(.int (1 : Int32))]))
    refine own_pre (fun _ kz_ => XS.iload X0.here hx rfl (hb hby d12_17) rfl kz_) ?_
    show OwnGoes p e below _ (s₁.setTop (mkF m 19 #[.val (.ref b), .val (.int (0 : Int32)), .val (.int (2 : Int32)), .val (.long k_), .second, .val (.int (1 : Int32)), .val (.int (1 : Int32)), .val (.int (0 : Int32)), .val (.long x0), .second] [(.int (1 : Int32)), (.int (1 : Int32))]))
    refine own_pre (fun _ kz_ => XS.iadd X0.here hx rfl (hb hby d12_19) rfl kz_) ?_
    show OwnGoes p e below _ (s₁.setTop (mkF m 20 #[.val (.ref b), .val (.int (0 : Int32)), .val (.int (2 : Int32)), .val (.long k_), .second, .val (.int (1 : Int32)), .val (.int (1 : Int32)), .val (.int (0 : Int32)), .val (.long x0), .second] [(.int ((1 : Int32) + (1 : Int32)))]))
    rw [show ((1 : Int32) + (1 : Int32)) = (2 : Int32) from by decide]
    show OwnGoes p e below _ (s₁.setTop (mkF m 20 #[.val (.ref b), .val (.int (0 : Int32)), .val (.int (2 : Int32)), .val (.long k_), .second, .val (.int (1 : Int32)), .val (.int (1 : Int32)), .val (.int (0 : Int32)), .val (.long x0), .second] [(.int (2 : Int32))]))
    refine own_pre (fun _ kz_ => XS.iconst X0.here hx rfl (hb hby d12_20) kz_) ?_
    show OwnGoes p e below _ (s₁.setTop (mkF m 21 #[.val (.ref b), .val (.int (0 : Int32)), .val (.int (2 : Int32)), .val (.long k_), .second, .val (.int (1 : Int32)), .val (.int (1 : Int32)), .val (.int (0 : Int32)), .val (.long x0), .second] [(.int (1 : Int32)), (.int (2 : Int32))]))
    refine own_pre (fun _ kz_ => XS.iushr X0.here hx rfl (hb hby d12_21) rfl kz_) ?_
    show OwnGoes p e below _ (s₁.setTop (mkF m 22 #[.val (.ref b), .val (.int (0 : Int32)), .val (.int (2 : Int32)), .val (.long k_), .second, .val (.int (1 : Int32)), .val (.int (1 : Int32)), .val (.int (0 : Int32)), .val (.long x0), .second] [(.int (((2 : Int32).toUInt32 >>> ((1 : Int32) &&& 31).toUInt32).toInt32))]))
    rw [show (((2 : Int32).toUInt32 >>> ((1 : Int32) &&& 31).toUInt32).toInt32) = (1 : Int32) from by decide]
    show OwnGoes p e below _ (s₁.setTop (mkF m 22 #[.val (.ref b), .val (.int (0 : Int32)), .val (.int (2 : Int32)), .val (.long k_), .second, .val (.int (1 : Int32)), .val (.int (1 : Int32)), .val (.int (0 : Int32)), .val (.long x0), .second] [(.int (1 : Int32))]))
    refine own_pre (fun _ kz_ => XS.istore X0.here hx rfl (hb hby d12_22) rfl (l' := #[.val (.ref b), .val (.int (0 : Int32)), .val (.int (2 : Int32)), .val (.long k_), .second, .val (.int (1 : Int32)), .val (.int (1 : Int32)), .val (.int (1 : Int32)), .val (.long x0), .second]) rfl kz_) ?_
    show OwnGoes p e below _ (s₁.setTop (mkF m 24 #[.val (.ref b), .val (.int (0 : Int32)), .val (.int (2 : Int32)), .val (.long k_), .second, .val (.int (1 : Int32)), .val (.int (1 : Int32)), .val (.int (1 : Int32)), .val (.long x0), .second] []))
    refine own_pre (fun _ kz_ => XS.aloadN X0.here hx rfl (hb hby d12_24) rfl rfl kz_) ?_
    show OwnGoes p e below _ (s₁.setTop (mkF m 25 #[.val (.ref b), .val (.int (0 : Int32)), .val (.int (2 : Int32)), .val (.long k_), .second, .val (.int (1 : Int32)), .val (.int (1 : Int32)), .val (.int (1 : Int32)), .val (.long x0), .second] [(.ref b)]))
    refine own_pre (fun _ kz_ => XS.iload X0.here hx rfl (hb hby d12_25) rfl kz_) ?_
    show OwnGoes p e below _ (s₁.setTop (mkF m 27 #[.val (.ref b), .val (.int (0 : Int32)), .val (.int (2 : Int32)), .val (.long k_), .second, .val (.int (1 : Int32)), .val (.int (1 : Int32)), .val (.int (1 : Int32)), .val (.long x0), .second] [(.int (1 : Int32)), (.ref b)]))
    refine own_pre (own_lald X0 hx hZ e0 V (j := (1 : Int32)) (v := (.long x1)) (by decide) rfl (g := (mkF m 27 #[.val (.ref b), .val (.int (0 : Int32)), .val (.int (2 : Int32)), .val (.long k_), .second, .val (.int (1 : Int32)), .val (.int (1 : Int32)), .val (.int (1 : Int32)), .val (.long x0), .second] [(.int (1 : Int32)), (.ref b)])) rfl rfl (hb hby d12_27)) ?_
    show OwnGoes p e below _ (s₁.setTop (mkF m 28 #[.val (.ref b), .val (.int (0 : Int32)), .val (.int (2 : Int32)), .val (.long k_), .second, .val (.int (1 : Int32)), .val (.int (1 : Int32)), .val (.int (1 : Int32)), .val (.long x0), .second] [(.long x1)]))
    refine own_pre (fun _ kz_ => XS.lstore X0.here hx rfl (hb hby d12_28) rfl (l' := #[.val (.ref b), .val (.int (0 : Int32)), .val (.int (2 : Int32)), .val (.long k_), .second, .val (.int (1 : Int32)), .val (.int (1 : Int32)), .val (.int (1 : Int32)), .val (.long x1), .second]) rfl kz_) ?_
    show OwnGoes p e below _ (s₁.setTop (mkF m 30 #[.val (.ref b), .val (.int (0 : Int32)), .val (.int (2 : Int32)), .val (.long k_), .second, .val (.int (1 : Int32)), .val (.int (1 : Int32)), .val (.int (1 : Int32)), .val (.long x1), .second] []))
    refine own_pre (fun _ kz_ => XS.lload X0.here hx rfl (hb hby d12_30) rfl kz_) ?_
    show OwnGoes p e below _ (s₁.setTop (mkF m 32 #[.val (.ref b), .val (.int (0 : Int32)), .val (.int (2 : Int32)), .val (.long k_), .second, .val (.int (1 : Int32)), .val (.int (1 : Int32)), .val (.int (1 : Int32)), .val (.long x1), .second] [(.long x1)]))
    refine own_pre (fun _ kz_ => XS.lloadN X0.here hx rfl (hb hby d12_32) rfl kz_) ?_
    show OwnGoes p e below _ (s₁.setTop (mkF m 33 #[.val (.ref b), .val (.int (0 : Int32)), .val (.int (2 : Int32)), .val (.long k_), .second, .val (.int (1 : Int32)), .val (.int (1 : Int32)), .val (.int (1 : Int32)), .val (.long x1), .second] [(.long k_), (.long x1)]))
    refine own_pre (fun _ kz_ => XS.lcmp X0.here hx rfl (hb hby d12_33) rfl kz_) ?_
    show OwnGoes p e below _ (s₁.setTop (mkF m 34 #[.val (.ref b), .val (.int (0 : Int32)), .val (.int (2 : Int32)), .val (.long k_), .second, .val (.int (1 : Int32)), .val (.int (1 : Int32)), .val (.int (1 : Int32)), .val (.long x1), .second] [(.int (lcmpW x1 k_))]))
    by_cases h34 : x1 < k_
    · refine own_pre (fun _ kz_ => XS.ifNo X0.here hx rfl (hb hby d12_34) rfl ((if0 _ _).trans (tlt ((lw_lt x1 k_).mpr h34)).2.1) kz_) ?_
      show OwnGoes p e below _ (s₁.setTop (mkF m 37 #[.val (.ref b), .val (.int (0 : Int32)), .val (.int (2 : Int32)), .val (.long k_), .second, .val (.int (1 : Int32)), .val (.int (1 : Int32)), .val (.int (1 : Int32)), .val (.long x1), .second] []))
      refine own_pre (fun _ kz_ => XS.iload X0.here hx rfl (hb hby d12_37) rfl kz_) ?_
      show OwnGoes p e below _ (s₁.setTop (mkF m 39 #[.val (.ref b), .val (.int (0 : Int32)), .val (.int (2 : Int32)), .val (.long k_), .second, .val (.int (1 : Int32)), .val (.int (1 : Int32)), .val (.int (1 : Int32)), .val (.long x1), .second] [(.int (1 : Int32))]))
      refine own_pre (fun _ kz_ => XS.iconst X0.here hx rfl (hb hby d12_39) kz_) ?_
      show OwnGoes p e below _ (s₁.setTop (mkF m 40 #[.val (.ref b), .val (.int (0 : Int32)), .val (.int (2 : Int32)), .val (.long k_), .second, .val (.int (1 : Int32)), .val (.int (1 : Int32)), .val (.int (1 : Int32)), .val (.long x1), .second] [(.int (1 : Int32)), (.int (1 : Int32))]))
      refine own_pre (fun _ kz_ => XS.iadd X0.here hx rfl (hb hby d12_40) rfl kz_) ?_
      show OwnGoes p e below _ (s₁.setTop (mkF m 41 #[.val (.ref b), .val (.int (0 : Int32)), .val (.int (2 : Int32)), .val (.long k_), .second, .val (.int (1 : Int32)), .val (.int (1 : Int32)), .val (.int (1 : Int32)), .val (.long x1), .second] [(.int ((1 : Int32) + (1 : Int32)))]))
      rw [show ((1 : Int32) + (1 : Int32)) = (2 : Int32) from by decide]
      show OwnGoes p e below _ (s₁.setTop (mkF m 41 #[.val (.ref b), .val (.int (0 : Int32)), .val (.int (2 : Int32)), .val (.long k_), .second, .val (.int (1 : Int32)), .val (.int (1 : Int32)), .val (.int (1 : Int32)), .val (.long x1), .second] [(.int (2 : Int32))]))
      refine own_pre (fun _ kz_ => XS.istore X0.here hx rfl (hb hby d12_41) rfl (l' := #[.val (.ref b), .val (.int (0 : Int32)), .val (.int (2 : Int32)), .val (.long k_), .second, .val (.int (2 : Int32)), .val (.int (1 : Int32)), .val (.int (1 : Int32)), .val (.long x1), .second]) rfl kz_) ?_
      show OwnGoes p e below _ (s₁.setTop (mkF m 43 #[.val (.ref b), .val (.int (0 : Int32)), .val (.int (2 : Int32)), .val (.long k_), .second, .val (.int (2 : Int32)), .val (.int (1 : Int32)), .val (.int (1 : Int32)), .val (.long x1), .second] []))
      refine own_pre (fun _ kz_ => XS.goto X0.here hx rfl (pc0 := 43) (pc' := 65) rfl (hb hby d12_43) (by decide) (by decide) kz_) ?_
      show OwnGoes p e below _ (s₁.setTop (mkF m 65 #[.val (.ref b), .val (.int (0 : Int32)), .val (.int (2 : Int32)), .val (.long k_), .second, .val (.int (2 : Int32)), .val (.int (1 : Int32)), .val (.int (1 : Int32)), .val (.long x1), .second] []))
      refine own_pre (fun _ kz_ => XS.goto X0.here hx rfl (pc0 := 65) (pc' := 8) rfl (hb hby d12_65) (by decide) (by decide) kz_) ?_
      show OwnGoes p e below _ (s₁.setTop (mkF m 8 #[.val (.ref b), .val (.int (0 : Int32)), .val (.int (2 : Int32)), .val (.long k_), .second, .val (.int (2 : Int32)), .val (.int (1 : Int32)), .val (.int (1 : Int32)), .val (.long x1), .second] []))
      refine own_pre (fun _ kz_ => XS.iload X0.here hx rfl (hb hby d12_8) rfl kz_) ?_
      show OwnGoes p e below _ (s₁.setTop (mkF m 10 #[.val (.ref b), .val (.int (0 : Int32)), .val (.int (2 : Int32)), .val (.long k_), .second, .val (.int (2 : Int32)), .val (.int (1 : Int32)), .val (.int (1 : Int32)), .val (.long x1), .second] [(.int (2 : Int32))]))
      refine own_pre (fun _ kz_ => XS.iload X0.here hx rfl (hb hby d12_10) rfl kz_) ?_
      show OwnGoes p e below _ (s₁.setTop (mkF m 12 #[.val (.ref b), .val (.int (0 : Int32)), .val (.int (2 : Int32)), .val (.long k_), .second, .val (.int (2 : Int32)), .val (.int (1 : Int32)), .val (.int (1 : Int32)), .val (.long x1), .second] [(.int (1 : Int32)), (.int (2 : Int32))]))
      refine own_pre (fun _ kz_ => XS.icmpYes X0.here hx rfl (pc0 := 12) (pc' := 68) rfl (hb hby d12_12) rfl (tlt (by decide : (1 : Int32) < (2 : Int32))).2.2.1 (by decide) (by decide) kz_) ?_
      show OwnGoes p e below _ (s₁.setTop (mkF m 68 #[.val (.ref b), .val (.int (0 : Int32)), .val (.int (2 : Int32)), .val (.long k_), .second, .val (.int (2 : Int32)), .val (.int (1 : Int32)), .val (.int (1 : Int32)), .val (.long x1), .second] []))
      refine own_pre (fun _ kz_ => XS.iload X0.here hx rfl (hb hby d12_68) rfl kz_) ?_
      show OwnGoes p e below _ (s₁.setTop (mkF m 70 #[.val (.ref b), .val (.int (0 : Int32)), .val (.int (2 : Int32)), .val (.long k_), .second, .val (.int (2 : Int32)), .val (.int (1 : Int32)), .val (.int (1 : Int32)), .val (.long x1), .second] [(.int (2 : Int32))]))
      refine own_pre (fun _ kz_ => XS.iconst X0.here hx rfl (hb hby d12_70) kz_) ?_
      show OwnGoes p e below _ (s₁.setTop (mkF m 71 #[.val (.ref b), .val (.int (0 : Int32)), .val (.int (2 : Int32)), .val (.long k_), .second, .val (.int (2 : Int32)), .val (.int (1 : Int32)), .val (.int (1 : Int32)), .val (.long x1), .second] [(.int (1 : Int32)), (.int (2 : Int32))]))
      refine own_pre (fun _ kz_ => XS.iadd X0.here hx rfl (hb hby d12_71) rfl kz_) ?_
      show OwnGoes p e below _ (s₁.setTop (mkF m 72 #[.val (.ref b), .val (.int (0 : Int32)), .val (.int (2 : Int32)), .val (.long k_), .second, .val (.int (2 : Int32)), .val (.int (1 : Int32)), .val (.int (1 : Int32)), .val (.long x1), .second] [(.int ((2 : Int32) + (1 : Int32)))]))
      rw [show ((2 : Int32) + (1 : Int32)) = (3 : Int32) from by decide]
      show OwnGoes p e below _ (s₁.setTop (mkF m 72 #[.val (.ref b), .val (.int (0 : Int32)), .val (.int (2 : Int32)), .val (.long k_), .second, .val (.int (2 : Int32)), .val (.int (1 : Int32)), .val (.int (1 : Int32)), .val (.long x1), .second] [(.int (3 : Int32))]))
      refine own_pre (fun _ kz_ => XS.ineg X0.here hx rfl (hb hby d12_72) rfl kz_) ?_
      show OwnGoes p e below _ (s₁.setTop (mkF m 73 #[.val (.ref b), .val (.int (0 : Int32)), .val (.int (2 : Int32)), .val (.long k_), .second, .val (.int (2 : Int32)), .val (.int (1 : Int32)), .val (.int (1 : Int32)), .val (.long x1), .second] [(.int (-(3 : Int32)))]))
      rw [show (-(3 : Int32)) = (-3 : Int32) from by decide]
      show OwnGoes p e below _ (s₁.setTop (mkF m 73 #[.val (.ref b), .val (.int (0 : Int32)), .val (.int (2 : Int32)), .val (.long k_), .second, .val (.int (2 : Int32)), .val (.int (1 : Int32)), .val (.int (1 : Int32)), .val (.long x1), .second] [(.int (-3 : Int32))]))
      exact own_ret X0 hx Bd.returns (rfl) (Or.inl ⟨rfl, by simp, _, rfl⟩) Bd.notSynchronized (hb hby d12_73) ⟨_, rfl, N0, e0, by simp⟩ (by decide) (by decide)
    · refine own_pre (fun _ kz_ => XS.ifYes X0.here hx rfl (pc0 := 34) (pc' := 46) rfl (hb hby d12_34) rfl ((if0 _ _).trans (flt (fun qz_ => h34 ((lw_lt x1 k_).mp qz_))).2.1) (by decide) (by decide) kz_) ?_
      show OwnGoes p e below _ (s₁.setTop (mkF m 46 #[.val (.ref b), .val (.int (0 : Int32)), .val (.int (2 : Int32)), .val (.long k_), .second, .val (.int (1 : Int32)), .val (.int (1 : Int32)), .val (.int (1 : Int32)), .val (.long x1), .second] []))
      refine own_pre (fun _ kz_ => XS.lload X0.here hx rfl (hb hby d12_46) rfl kz_) ?_
      show OwnGoes p e below _ (s₁.setTop (mkF m 48 #[.val (.ref b), .val (.int (0 : Int32)), .val (.int (2 : Int32)), .val (.long k_), .second, .val (.int (1 : Int32)), .val (.int (1 : Int32)), .val (.int (1 : Int32)), .val (.long x1), .second] [(.long x1)]))
      refine own_pre (fun _ kz_ => XS.lloadN X0.here hx rfl (hb hby d12_48) rfl kz_) ?_
      show OwnGoes p e below _ (s₁.setTop (mkF m 49 #[.val (.ref b), .val (.int (0 : Int32)), .val (.int (2 : Int32)), .val (.long k_), .second, .val (.int (1 : Int32)), .val (.int (1 : Int32)), .val (.int (1 : Int32)), .val (.long x1), .second] [(.long k_), (.long x1)]))
      refine own_pre (fun _ kz_ => XS.lcmp X0.here hx rfl (hb hby d12_49) rfl kz_) ?_
      show OwnGoes p e below _ (s₁.setTop (mkF m 50 #[.val (.ref b), .val (.int (0 : Int32)), .val (.int (2 : Int32)), .val (.long k_), .second, .val (.int (1 : Int32)), .val (.int (1 : Int32)), .val (.int (1 : Int32)), .val (.long x1), .second] [(.int (lcmpW x1 k_))]))
      by_cases h50 : k_ < x1
      · refine own_pre (fun _ kz_ => XS.ifNo X0.here hx rfl (hb hby d12_50) rfl ((if0 _ _).trans (tlt ((lw_gt x1 k_).mpr h50)).2.2.2) kz_) ?_
        show OwnGoes p e below _ (s₁.setTop (mkF m 53 #[.val (.ref b), .val (.int (0 : Int32)), .val (.int (2 : Int32)), .val (.long k_), .second, .val (.int (1 : Int32)), .val (.int (1 : Int32)), .val (.int (1 : Int32)), .val (.long x1), .second] []))
        refine own_pre (fun _ kz_ => XS.iload X0.here hx rfl (hb hby d12_53) rfl kz_) ?_
        show OwnGoes p e below _ (s₁.setTop (mkF m 55 #[.val (.ref b), .val (.int (0 : Int32)), .val (.int (2 : Int32)), .val (.long k_), .second, .val (.int (1 : Int32)), .val (.int (1 : Int32)), .val (.int (1 : Int32)), .val (.long x1), .second] [(.int (1 : Int32))]))
        refine own_pre (fun _ kz_ => XS.iconst X0.here hx rfl (hb hby d12_55) kz_) ?_
        show OwnGoes p e below _ (s₁.setTop (mkF m 56 #[.val (.ref b), .val (.int (0 : Int32)), .val (.int (2 : Int32)), .val (.long k_), .second, .val (.int (1 : Int32)), .val (.int (1 : Int32)), .val (.int (1 : Int32)), .val (.long x1), .second] [(.int (1 : Int32)), (.int (1 : Int32))]))
        refine own_pre (fun _ kz_ => XS.isub X0.here hx rfl (hb hby d12_56) rfl kz_) ?_
        show OwnGoes p e below _ (s₁.setTop (mkF m 57 #[.val (.ref b), .val (.int (0 : Int32)), .val (.int (2 : Int32)), .val (.long k_), .second, .val (.int (1 : Int32)), .val (.int (1 : Int32)), .val (.int (1 : Int32)), .val (.long x1), .second] [(.int ((1 : Int32) - (1 : Int32)))]))
        rw [show ((1 : Int32) - (1 : Int32)) = (0 : Int32) from by decide]
        show OwnGoes p e below _ (s₁.setTop (mkF m 57 #[.val (.ref b), .val (.int (0 : Int32)), .val (.int (2 : Int32)), .val (.long k_), .second, .val (.int (1 : Int32)), .val (.int (1 : Int32)), .val (.int (1 : Int32)), .val (.long x1), .second] [(.int (0 : Int32))]))
        refine own_pre (fun _ kz_ => XS.istore X0.here hx rfl (hb hby d12_57) rfl (l' := #[.val (.ref b), .val (.int (0 : Int32)), .val (.int (2 : Int32)), .val (.long k_), .second, .val (.int (1 : Int32)), .val (.int (0 : Int32)), .val (.int (1 : Int32)), .val (.long x1), .second]) rfl kz_) ?_
        show OwnGoes p e below _ (s₁.setTop (mkF m 59 #[.val (.ref b), .val (.int (0 : Int32)), .val (.int (2 : Int32)), .val (.long k_), .second, .val (.int (1 : Int32)), .val (.int (0 : Int32)), .val (.int (1 : Int32)), .val (.long x1), .second] []))
        refine own_pre (fun _ kz_ => XS.goto X0.here hx rfl (pc0 := 59) (pc' := 65) rfl (hb hby d12_59) (by decide) (by decide) kz_) ?_
        show OwnGoes p e below _ (s₁.setTop (mkF m 65 #[.val (.ref b), .val (.int (0 : Int32)), .val (.int (2 : Int32)), .val (.long k_), .second, .val (.int (1 : Int32)), .val (.int (0 : Int32)), .val (.int (1 : Int32)), .val (.long x1), .second] []))
        refine own_pre (fun _ kz_ => XS.goto X0.here hx rfl (pc0 := 65) (pc' := 8) rfl (hb hby d12_65) (by decide) (by decide) kz_) ?_
        show OwnGoes p e below _ (s₁.setTop (mkF m 8 #[.val (.ref b), .val (.int (0 : Int32)), .val (.int (2 : Int32)), .val (.long k_), .second, .val (.int (1 : Int32)), .val (.int (0 : Int32)), .val (.int (1 : Int32)), .val (.long x1), .second] []))
        refine own_pre (fun _ kz_ => XS.iload X0.here hx rfl (hb hby d12_8) rfl kz_) ?_
        show OwnGoes p e below _ (s₁.setTop (mkF m 10 #[.val (.ref b), .val (.int (0 : Int32)), .val (.int (2 : Int32)), .val (.long k_), .second, .val (.int (1 : Int32)), .val (.int (0 : Int32)), .val (.int (1 : Int32)), .val (.long x1), .second] [(.int (1 : Int32))]))
        refine own_pre (fun _ kz_ => XS.iload X0.here hx rfl (hb hby d12_10) rfl kz_) ?_
        show OwnGoes p e below _ (s₁.setTop (mkF m 12 #[.val (.ref b), .val (.int (0 : Int32)), .val (.int (2 : Int32)), .val (.long k_), .second, .val (.int (1 : Int32)), .val (.int (0 : Int32)), .val (.int (1 : Int32)), .val (.long x1), .second] [(.int (0 : Int32)), (.int (1 : Int32))]))
        refine own_pre (fun _ kz_ => XS.icmpYes X0.here hx rfl (pc0 := 12) (pc' := 68) rfl (hb hby d12_12) rfl (tlt (by decide : (0 : Int32) < (1 : Int32))).2.2.1 (by decide) (by decide) kz_) ?_
        show OwnGoes p e below _ (s₁.setTop (mkF m 68 #[.val (.ref b), .val (.int (0 : Int32)), .val (.int (2 : Int32)), .val (.long k_), .second, .val (.int (1 : Int32)), .val (.int (0 : Int32)), .val (.int (1 : Int32)), .val (.long x1), .second] []))
        refine own_pre (fun _ kz_ => XS.iload X0.here hx rfl (hb hby d12_68) rfl kz_) ?_
        show OwnGoes p e below _ (s₁.setTop (mkF m 70 #[.val (.ref b), .val (.int (0 : Int32)), .val (.int (2 : Int32)), .val (.long k_), .second, .val (.int (1 : Int32)), .val (.int (0 : Int32)), .val (.int (1 : Int32)), .val (.long x1), .second] [(.int (1 : Int32))]))
        refine own_pre (fun _ kz_ => XS.iconst X0.here hx rfl (hb hby d12_70) kz_) ?_
        show OwnGoes p e below _ (s₁.setTop (mkF m 71 #[.val (.ref b), .val (.int (0 : Int32)), .val (.int (2 : Int32)), .val (.long k_), .second, .val (.int (1 : Int32)), .val (.int (0 : Int32)), .val (.int (1 : Int32)), .val (.long x1), .second] [(.int (1 : Int32)), (.int (1 : Int32))]))
        refine own_pre (fun _ kz_ => XS.iadd X0.here hx rfl (hb hby d12_71) rfl kz_) ?_
        show OwnGoes p e below _ (s₁.setTop (mkF m 72 #[.val (.ref b), .val (.int (0 : Int32)), .val (.int (2 : Int32)), .val (.long k_), .second, .val (.int (1 : Int32)), .val (.int (0 : Int32)), .val (.int (1 : Int32)), .val (.long x1), .second] [(.int ((1 : Int32) + (1 : Int32)))]))
        rw [show ((1 : Int32) + (1 : Int32)) = (2 : Int32) from by decide]
        show OwnGoes p e below _ (s₁.setTop (mkF m 72 #[.val (.ref b), .val (.int (0 : Int32)), .val (.int (2 : Int32)), .val (.long k_), .second, .val (.int (1 : Int32)), .val (.int (0 : Int32)), .val (.int (1 : Int32)), .val (.long x1), .second] [(.int (2 : Int32))]))
        refine own_pre (fun _ kz_ => XS.ineg X0.here hx rfl (hb hby d12_72) rfl kz_) ?_
        show OwnGoes p e below _ (s₁.setTop (mkF m 73 #[.val (.ref b), .val (.int (0 : Int32)), .val (.int (2 : Int32)), .val (.long k_), .second, .val (.int (1 : Int32)), .val (.int (0 : Int32)), .val (.int (1 : Int32)), .val (.long x1), .second] [(.int (-(2 : Int32)))]))
        rw [show (-(2 : Int32)) = (-2 : Int32) from by decide]
        show OwnGoes p e below _ (s₁.setTop (mkF m 73 #[.val (.ref b), .val (.int (0 : Int32)), .val (.int (2 : Int32)), .val (.long k_), .second, .val (.int (1 : Int32)), .val (.int (0 : Int32)), .val (.int (1 : Int32)), .val (.long x1), .second] [(.int (-2 : Int32))]))
        exact own_ret X0 hx Bd.returns (rfl) (Or.inl ⟨rfl, by simp, _, rfl⟩) Bd.notSynchronized (hb hby d12_73) ⟨_, rfl, N0, e0, by simp⟩ (by decide) (by decide)
      · refine own_pre (fun _ kz_ => XS.ifYes X0.here hx rfl (pc0 := 50) (pc' := 62) rfl (hb hby d12_50) rfl ((if0 _ _).trans (flt (fun qz_ => h50 ((lw_gt x1 k_).mp qz_))).2.2.2) (by decide) (by decide) kz_) ?_
        show OwnGoes p e below _ (s₁.setTop (mkF m 62 #[.val (.ref b), .val (.int (0 : Int32)), .val (.int (2 : Int32)), .val (.long k_), .second, .val (.int (1 : Int32)), .val (.int (1 : Int32)), .val (.int (1 : Int32)), .val (.long x1), .second] []))
        refine own_pre (fun _ kz_ => XS.iload X0.here hx rfl (hb hby d12_62) rfl kz_) ?_
        show OwnGoes p e below _ (s₁.setTop (mkF m 64 #[.val (.ref b), .val (.int (0 : Int32)), .val (.int (2 : Int32)), .val (.long k_), .second, .val (.int (1 : Int32)), .val (.int (1 : Int32)), .val (.int (1 : Int32)), .val (.long x1), .second] [(.int (1 : Int32))]))
        exact own_ret X0 hx Bd.returns (rfl) (Or.inl ⟨rfl, by simp, _, rfl⟩) Bd.notSynchronized (hb hby d12_64) ⟨_, rfl, N0, e0, by simp⟩ (by decide) (by decide)
  · refine own_pre (fun _ kz_ => XS.ifYes X0.here hx rfl (pc0 := 34) (pc' := 46) rfl (hb hby d12_34) rfl ((if0 _ _).trans (flt (fun qz_ => h34 ((lw_lt x0 k_).mp qz_))).2.1) (by decide) (by decide) kz_) ?_
    show OwnGoes p e below _ (s₁.setTop (mkF m 46 #[.val (.ref b), .val (.int (0 : Int32)), .val (.int (2 : Int32)), .val (.long k_), .second, .val (.int (0 : Int32)), .val (.int (1 : Int32)), .val (.int (0 : Int32)), .val (.long x0), .second] []))
    refine own_pre (fun _ kz_ => XS.lload X0.here hx rfl (hb hby d12_46) rfl kz_) ?_
    show OwnGoes p e below _ (s₁.setTop (mkF m 48 #[.val (.ref b), .val (.int (0 : Int32)), .val (.int (2 : Int32)), .val (.long k_), .second, .val (.int (0 : Int32)), .val (.int (1 : Int32)), .val (.int (0 : Int32)), .val (.long x0), .second] [(.long x0)]))
    refine own_pre (fun _ kz_ => XS.lloadN X0.here hx rfl (hb hby d12_48) rfl kz_) ?_
    show OwnGoes p e below _ (s₁.setTop (mkF m 49 #[.val (.ref b), .val (.int (0 : Int32)), .val (.int (2 : Int32)), .val (.long k_), .second, .val (.int (0 : Int32)), .val (.int (1 : Int32)), .val (.int (0 : Int32)), .val (.long x0), .second] [(.long k_), (.long x0)]))
    refine own_pre (fun _ kz_ => XS.lcmp X0.here hx rfl (hb hby d12_49) rfl kz_) ?_
    show OwnGoes p e below _ (s₁.setTop (mkF m 50 #[.val (.ref b), .val (.int (0 : Int32)), .val (.int (2 : Int32)), .val (.long k_), .second, .val (.int (0 : Int32)), .val (.int (1 : Int32)), .val (.int (0 : Int32)), .val (.long x0), .second] [(.int (lcmpW x0 k_))]))
    by_cases h50 : k_ < x0
    · refine own_pre (fun _ kz_ => XS.ifNo X0.here hx rfl (hb hby d12_50) rfl ((if0 _ _).trans (tlt ((lw_gt x0 k_).mpr h50)).2.2.2) kz_) ?_
      show OwnGoes p e below _ (s₁.setTop (mkF m 53 #[.val (.ref b), .val (.int (0 : Int32)), .val (.int (2 : Int32)), .val (.long k_), .second, .val (.int (0 : Int32)), .val (.int (1 : Int32)), .val (.int (0 : Int32)), .val (.long x0), .second] []))
      refine own_pre (fun _ kz_ => XS.iload X0.here hx rfl (hb hby d12_53) rfl kz_) ?_
      show OwnGoes p e below _ (s₁.setTop (mkF m 55 #[.val (.ref b), .val (.int (0 : Int32)), .val (.int (2 : Int32)), .val (.long k_), .second, .val (.int (0 : Int32)), .val (.int (1 : Int32)), .val (.int (0 : Int32)), .val (.long x0), .second] [(.int (0 : Int32))]))
      refine own_pre (fun _ kz_ => XS.iconst X0.here hx rfl (hb hby d12_55) kz_) ?_
      show OwnGoes p e below _ (s₁.setTop (mkF m 56 #[.val (.ref b), .val (.int (0 : Int32)), .val (.int (2 : Int32)), .val (.long k_), .second, .val (.int (0 : Int32)), .val (.int (1 : Int32)), .val (.int (0 : Int32)), .val (.long x0), .second] [(.int (1 : Int32)), (.int (0 : Int32))]))
      refine own_pre (fun _ kz_ => XS.isub X0.here hx rfl (hb hby d12_56) rfl kz_) ?_
      show OwnGoes p e below _ (s₁.setTop (mkF m 57 #[.val (.ref b), .val (.int (0 : Int32)), .val (.int (2 : Int32)), .val (.long k_), .second, .val (.int (0 : Int32)), .val (.int (1 : Int32)), .val (.int (0 : Int32)), .val (.long x0), .second] [(.int ((0 : Int32) - (1 : Int32)))]))
      rw [show ((0 : Int32) - (1 : Int32)) = (-1 : Int32) from by decide]
      show OwnGoes p e below _ (s₁.setTop (mkF m 57 #[.val (.ref b), .val (.int (0 : Int32)), .val (.int (2 : Int32)), .val (.long k_), .second, .val (.int (0 : Int32)), .val (.int (1 : Int32)), .val (.int (0 : Int32)), .val (.long x0), .second] [(.int (-1 : Int32))]))
      refine own_pre (fun _ kz_ => XS.istore X0.here hx rfl (hb hby d12_57) rfl (l' := #[.val (.ref b), .val (.int (0 : Int32)), .val (.int (2 : Int32)), .val (.long k_), .second, .val (.int (0 : Int32)), .val (.int (-1 : Int32)), .val (.int (0 : Int32)), .val (.long x0), .second]) rfl kz_) ?_
      show OwnGoes p e below _ (s₁.setTop (mkF m 59 #[.val (.ref b), .val (.int (0 : Int32)), .val (.int (2 : Int32)), .val (.long k_), .second, .val (.int (0 : Int32)), .val (.int (-1 : Int32)), .val (.int (0 : Int32)), .val (.long x0), .second] []))
      refine own_pre (fun _ kz_ => XS.goto X0.here hx rfl (pc0 := 59) (pc' := 65) rfl (hb hby d12_59) (by decide) (by decide) kz_) ?_
      show OwnGoes p e below _ (s₁.setTop (mkF m 65 #[.val (.ref b), .val (.int (0 : Int32)), .val (.int (2 : Int32)), .val (.long k_), .second, .val (.int (0 : Int32)), .val (.int (-1 : Int32)), .val (.int (0 : Int32)), .val (.long x0), .second] []))
      refine own_pre (fun _ kz_ => XS.goto X0.here hx rfl (pc0 := 65) (pc' := 8) rfl (hb hby d12_65) (by decide) (by decide) kz_) ?_
      show OwnGoes p e below _ (s₁.setTop (mkF m 8 #[.val (.ref b), .val (.int (0 : Int32)), .val (.int (2 : Int32)), .val (.long k_), .second, .val (.int (0 : Int32)), .val (.int (-1 : Int32)), .val (.int (0 : Int32)), .val (.long x0), .second] []))
      refine own_pre (fun _ kz_ => XS.iload X0.here hx rfl (hb hby d12_8) rfl kz_) ?_
      show OwnGoes p e below _ (s₁.setTop (mkF m 10 #[.val (.ref b), .val (.int (0 : Int32)), .val (.int (2 : Int32)), .val (.long k_), .second, .val (.int (0 : Int32)), .val (.int (-1 : Int32)), .val (.int (0 : Int32)), .val (.long x0), .second] [(.int (0 : Int32))]))
      refine own_pre (fun _ kz_ => XS.iload X0.here hx rfl (hb hby d12_10) rfl kz_) ?_
      show OwnGoes p e below _ (s₁.setTop (mkF m 12 #[.val (.ref b), .val (.int (0 : Int32)), .val (.int (2 : Int32)), .val (.long k_), .second, .val (.int (0 : Int32)), .val (.int (-1 : Int32)), .val (.int (0 : Int32)), .val (.long x0), .second] [(.int (-1 : Int32)), (.int (0 : Int32))]))
      refine own_pre (fun _ kz_ => XS.icmpYes X0.here hx rfl (pc0 := 12) (pc' := 68) rfl (hb hby d12_12) rfl (tlt (by decide : (-1 : Int32) < (0 : Int32))).2.2.1 (by decide) (by decide) kz_) ?_
      show OwnGoes p e below _ (s₁.setTop (mkF m 68 #[.val (.ref b), .val (.int (0 : Int32)), .val (.int (2 : Int32)), .val (.long k_), .second, .val (.int (0 : Int32)), .val (.int (-1 : Int32)), .val (.int (0 : Int32)), .val (.long x0), .second] []))
      refine own_pre (fun _ kz_ => XS.iload X0.here hx rfl (hb hby d12_68) rfl kz_) ?_
      show OwnGoes p e below _ (s₁.setTop (mkF m 70 #[.val (.ref b), .val (.int (0 : Int32)), .val (.int (2 : Int32)), .val (.long k_), .second, .val (.int (0 : Int32)), .val (.int (-1 : Int32)), .val (.int (0 : Int32)), .val (.long x0), .second] [(.int (0 : Int32))]))
      refine own_pre (fun _ kz_ => XS.iconst X0.here hx rfl (hb hby d12_70) kz_) ?_
      show OwnGoes p e below _ (s₁.setTop (mkF m 71 #[.val (.ref b), .val (.int (0 : Int32)), .val (.int (2 : Int32)), .val (.long k_), .second, .val (.int (0 : Int32)), .val (.int (-1 : Int32)), .val (.int (0 : Int32)), .val (.long x0), .second] [(.int (1 : Int32)), (.int (0 : Int32))]))
      refine own_pre (fun _ kz_ => XS.iadd X0.here hx rfl (hb hby d12_71) rfl kz_) ?_
      show OwnGoes p e below _ (s₁.setTop (mkF m 72 #[.val (.ref b), .val (.int (0 : Int32)), .val (.int (2 : Int32)), .val (.long k_), .second, .val (.int (0 : Int32)), .val (.int (-1 : Int32)), .val (.int (0 : Int32)), .val (.long x0), .second] [(.int ((0 : Int32) + (1 : Int32)))]))
      rw [show ((0 : Int32) + (1 : Int32)) = (1 : Int32) from by decide]
      show OwnGoes p e below _ (s₁.setTop (mkF m 72 #[.val (.ref b), .val (.int (0 : Int32)), .val (.int (2 : Int32)), .val (.long k_), .second, .val (.int (0 : Int32)), .val (.int (-1 : Int32)), .val (.int (0 : Int32)), .val (.long x0), .second] [(.int (1 : Int32))]))
      refine own_pre (fun _ kz_ => XS.ineg X0.here hx rfl (hb hby d12_72) rfl kz_) ?_
      show OwnGoes p e below _ (s₁.setTop (mkF m 73 #[.val (.ref b), .val (.int (0 : Int32)), .val (.int (2 : Int32)), .val (.long k_), .second, .val (.int (0 : Int32)), .val (.int (-1 : Int32)), .val (.int (0 : Int32)), .val (.long x0), .second] [(.int (-(1 : Int32)))]))
      rw [show (-(1 : Int32)) = (-1 : Int32) from by decide]
      show OwnGoes p e below _ (s₁.setTop (mkF m 73 #[.val (.ref b), .val (.int (0 : Int32)), .val (.int (2 : Int32)), .val (.long k_), .second, .val (.int (0 : Int32)), .val (.int (-1 : Int32)), .val (.int (0 : Int32)), .val (.long x0), .second] [(.int (-1 : Int32))]))
      exact own_ret X0 hx Bd.returns (rfl) (Or.inl ⟨rfl, by simp, _, rfl⟩) Bd.notSynchronized (hb hby d12_73) ⟨_, rfl, N0, e0, by simp⟩ (by decide) (by decide)
    · refine own_pre (fun _ kz_ => XS.ifYes X0.here hx rfl (pc0 := 50) (pc' := 62) rfl (hb hby d12_50) rfl ((if0 _ _).trans (flt (fun qz_ => h50 ((lw_gt x0 k_).mp qz_))).2.2.2) (by decide) (by decide) kz_) ?_
      show OwnGoes p e below _ (s₁.setTop (mkF m 62 #[.val (.ref b), .val (.int (0 : Int32)), .val (.int (2 : Int32)), .val (.long k_), .second, .val (.int (0 : Int32)), .val (.int (1 : Int32)), .val (.int (0 : Int32)), .val (.long x0), .second] []))
      refine own_pre (fun _ kz_ => XS.iload X0.here hx rfl (hb hby d12_62) rfl kz_) ?_
      show OwnGoes p e below _ (s₁.setTop (mkF m 64 #[.val (.ref b), .val (.int (0 : Int32)), .val (.int (2 : Int32)), .val (.long k_), .second, .val (.int (0 : Int32)), .val (.int (1 : Int32)), .val (.int (0 : Int32)), .val (.long x0), .second] [(.int (0 : Int32))]))
      exact own_ret X0 hx Bd.returns (rfl) (Or.inl ⟨rfl, by simp, _, rfl⟩) Bd.notSynchronized (hb hby d12_64) ⟨_, rfl, N0, e0, by simp⟩ (by decide) (by decide)
set_option maxRecDepth 65536 in
set_option maxHeartbeats 40000000 in
theorem rmBS2 (l : Launch) (Z : State) (a0 : Array Value) (hw : ∀ d ∈ tables_1, d.before a0 Z = true) (ws : List Jvm.Cond) (b : Addr) (x0 x1 : Int64) (tl : List Value) (k_ : Int64) (h0 : Heap) (n0 : Nat) (Z0 : n0 ≤ h0.size) (V : OwnA Z h0 b .long (.long x0 :: .long x1 :: tl)) (ht : tl.length = 62) (g_b : n0 ≤ b) :
    MetFree l (⟨"java/util/Arrays", "binarySearch", "([JIIJ)I"⟩ : MethodName) (head1 (Jvm.Cond.code (⟨"java/util/Arrays", "binarySearch", "([JIIJ)I"⟩ : MethodName) jdk_65_method_55_code 5 (some .int) :: ws) ({ frames := 1, cells := 0, slots := 0, locals := 21 } : Room)) (fun a U => a = #[(.ref b), (.int (0 : Int32)), (.int (2 : Int32)), (.long k_)] ∧ Z.Warmed39 U.vm ∧ U.heap = h0) (fun _ _ _ _ _ => True) (fun _ Uw_ ow_ Ue_ => ∃ vw_ Lw_, ow_ = .returned vw_ ∧ QB2 h0 n0 vw_ Ue_.heap Lw_ ∧ FrameEnd Uw_ ow_ Ue_ Lw_ ({ frames := 1, cells := 0, slots := 0, locals := 21 } : Room).cells ({ frames := 1, cells := 0, slots := 0, locals := 21 } : Room).slots) := by
  refine MetFree.of_bodySF (plainFor_of_name (by first | (simp [plainName, overriddenIn]; done) | decide +kernel)) hisR ?_
  intro p e s m args below meth c s₁ Bd hml0 hP hK
  obtain ⟨rfl, hZ, hh⟩ := hP
  have hx := Bd.exec
  have hby := Bd.bytes
  have hml : c.maxLocals = 5 := hml0
  have hown : s.vm.findClass "java/util/Arrays" = some m.cls := findClass_of_methodNamed Bd.named
  have hnm := (name_of_methodNamed Bd.named Bd.method).1
  have X0 : Stand p l e ({ frames := 1, cells := 0, slots := 0, locals := 21 } : Room) s m #[(.ref b), (.int (0 : Int32)), (.int (2 : Int32)), (.long k_)] below meth c s₁ [] 0 0 := Stand.of_body Bd
  have e0 : s₁.heap = h0 := by rw [← hh, Bd.state]; rfl
  have N0 := Fr.nil n0
  have ef : entryFrame m #[(.ref b), (.int (0 : Int32)), (.int (2 : Int32)), (.long k_)] 5 = (mkF m 0 #[.val (.ref b), .val (.int (0 : Int32)), .val (.int (2 : Int32)), .val (.long k_), .second] []) := by first | (simp [entryFrame, mkF, argsToLocals, Value.category]; done) | rfl
  show OwnGoes p e below (fun ow_ Ue_ => ∃ vw_ Lw_, ow_ = .returned vw_ ∧ QB2 h0 n0 vw_ Ue_.heap Lw_ ∧ FrameEnd s ow_ Ue_ Lw_ ({ frames := 1, cells := 0, slots := 0, locals := 21 } : Room).cells ({ frames := 1, cells := 0, slots := 0, locals := 21 } : Room).slots) (s₁.setTop (entryFrame m #[(.ref b), (.int (0 : Int32)), (.int (2 : Int32)), (.long k_)] 5))
  refine own_pre (fun t k => castTop ef k) ?_
  show OwnGoes p e below _ (s₁.setTop (mkF m 0 #[.val (.ref b), .val (.int (0 : Int32)), .val (.int (2 : Int32)), .val (.long k_), .second] []))
  refine own_pre (fun _ kz_ => XS.aloadN X0.here hx rfl (hb hby d11_0) rfl rfl kz_) ?_
  show OwnGoes p e below _ (s₁.setTop (mkF m 1 #[.val (.ref b), .val (.int (0 : Int32)), .val (.int (2 : Int32)), .val (.long k_), .second] [(.ref b)]))
  refine own_pre (own_alen X0 hx hZ e0 V (n := (64 : Int32)) (by show (64 : Int32) = Int32.ofNat (tl.length + 1 + 1); rw [ht]; rfl) (g := (mkF m 1 #[.val (.ref b), .val (.int (0 : Int32)), .val (.int (2 : Int32)), .val (.long k_), .second] [(.ref b)])) rfl rfl (hb hby d11_1)) ?_
  show OwnGoes p e below _ (s₁.setTop (mkF m 2 #[.val (.ref b), .val (.int (0 : Int32)), .val (.int (2 : Int32)), .val (.long k_), .second] [(.int (64 : Int32))]))
  refine own_pre (fun _ kz_ => XS.iloadN X0.here hx rfl (hb hby d11_2) rfl kz_) ?_
  show OwnGoes p e below _ (s₁.setTop (mkF m 3 #[.val (.ref b), .val (.int (0 : Int32)), .val (.int (2 : Int32)), .val (.long k_), .second] [(.int (0 : Int32)), (.int (64 : Int32))]))
  refine own_pre (fun _ kz_ => XS.iloadN X0.here hx rfl (hb hby d11_3) rfl kz_) ?_
  show OwnGoes p e below _ (s₁.setTop (mkF m 4 #[.val (.ref b), .val (.int (0 : Int32)), .val (.int (2 : Int32)), .val (.long k_), .second] [(.int (2 : Int32)), (.int (0 : Int32)), (.int (64 : Int32))]))
  obtain ⟨_, _, ⟨T1, L1, k1, n1⟩, -, X1, ⟨Lc1, hQ1, l1, y1, z1⟩, st1⟩ := Jvm.LawKit.callS X0 hx (y := (⟨"java/util/Arrays", "rangeCheck", "(III)V"⟩ : MethodName)) hown (mvT hZ (hw _ (List.mem_of_getElem? (i := 38) rfl))) (mvT hZ (hw _ (List.mem_of_getElem? (i := 39) rfl))) (mvT hZ (hw _ (List.mem_of_getElem? (i := 36) rfl))) (mvT hZ (hw _ (List.mem_of_getElem? (i := 40) rfl))) (by decide) (backOf (W := 0) (rmRg2 l Z a0 hw [] h0 n0 Z0) hZ (hw _ (List.mem_of_getElem? (i := 40) rfl)) (hw _ (List.mem_of_getElem? (i := 36) rfl)) (by decide) (by decide)) (g := (mkF m 4 #[.val (.ref b), .val (.int (0 : Int32)), .val (.int (2 : Int32)), .val (.long k_), .second] [(.int (2 : Int32)), (.int (0 : Int32)), (.int (64 : Int32))])) rfl (by rw [hml]; rfl) (argsL := [(.int (64 : Int32)), (.int (0 : Int32)), (.int (2 : Int32))]) (rest := []) (lenOf (d := "(III)V") (ps := [.int, .int, .int]) (r := none) (by decide +kernel) rfl) rfl (by show 2 * 0 + _ ≤ _; exact Nat.le_of_eq rfl) (hb hby d11_4) (fun _ _ => ⟨rfl, e0, (by decide : 0 + 0 ≤ _), (by decide : 0 + 0 ≤ _)⟩)
  dsimp only [Pt.U, Pt.locs, Pt.cells, Pt.slots] at X1 l1 y1 z1 st1 hQ1
  subst l1 y1 z1
  obtain ⟨rfl, N1q, e1⟩ := hQ1
  have N1 := Fr.app N0 N1q
  refine own_pre st1 ?_
  show OwnGoes p e below _ (T1.setTop (mkF m 7 #[.val (.ref b), .val (.int (0 : Int32)), .val (.int (2 : Int32)), .val (.long k_), .second] []))
  refine own_pre (fun _ kz_ => XS.aloadN X1.here hx rfl (hb hby d11_7) rfl rfl kz_) ?_
  show OwnGoes p e below _ (T1.setTop (mkF m 8 #[.val (.ref b), .val (.int (0 : Int32)), .val (.int (2 : Int32)), .val (.long k_), .second] [(.ref b)]))
  refine own_pre (fun _ kz_ => XS.iloadN X1.here hx rfl (hb hby d11_8) rfl kz_) ?_
  show OwnGoes p e below _ (T1.setTop (mkF m 9 #[.val (.ref b), .val (.int (0 : Int32)), .val (.int (2 : Int32)), .val (.long k_), .second] [(.int (0 : Int32)), (.ref b)]))
  refine own_pre (fun _ kz_ => XS.iloadN X1.here hx rfl (hb hby d11_9) rfl kz_) ?_
  show OwnGoes p e below _ (T1.setTop (mkF m 10 #[.val (.ref b), .val (.int (0 : Int32)), .val (.int (2 : Int32)), .val (.long k_), .second] [(.int (2 : Int32)), (.int (0 : Int32)), (.ref b)]))
  refine own_pre (fun _ kz_ => XS.lloadN X1.here hx rfl (hb hby d11_10) rfl kz_) ?_
  show OwnGoes p e below _ (T1.setTop (mkF m 11 #[.val (.ref b), .val (.int (0 : Int32)), .val (.int (2 : Int32)), .val (.long k_), .second] [(.long k_), (.int (2 : Int32)), (.int (0 : Int32)), (.ref b)]))
  obtain ⟨_, _, ⟨T2, L2, k2, n2⟩, -, X2, ⟨Lc2, hQ2, l2, y2, z2⟩, st2⟩ := Jvm.LawKit.callS X1 hx (y := (⟨"java/util/Arrays", "binarySearch0", "([JIIJ)I"⟩ : MethodName)) hown (mvT hZ (hw _ (List.mem_of_getElem? (i := 54) rfl))) (mvT hZ (hw _ (List.mem_of_getElem? (i := 55) rfl))) (mvT hZ (hw _ (List.mem_of_getElem? (i := 36) rfl))) (mvT hZ (hw _ (List.mem_of_getElem? (i := 56) rfl))) (by decide) (backOf (W := 0) (rmB0_2 l Z a0 hw [] b x0 x1 tl k_ h0 n0 Z0 V ht g_b) hZ (hw _ (List.mem_of_getElem? (i := 56) rfl)) (hw _ (List.mem_of_getElem? (i := 36) rfl)) (by decide) (by decide)) (g := (mkF m 11 #[.val (.ref b), .val (.int (0 : Int32)), .val (.int (2 : Int32)), .val (.long k_), .second] [(.long k_), (.int (2 : Int32)), (.int (0 : Int32)), (.ref b)])) rfl (by rw [hml]; rfl) (argsL := [(.ref b), (.int (0 : Int32)), (.int (2 : Int32)), (.long k_)]) (rest := []) (lenOf (d := "([JIIJ)I") (ps := [(.array .long), .int, .int, .long]) (r := some .int) (by decide +kernel) rfl) rfl (by show 2 * 0 + _ ≤ _; exact Nat.le_of_eq rfl) (hb hby d11_11) (fun _ _ => ⟨rfl, e1, (by decide : 0 + 0 ≤ _), (by decide : 0 + 0 ≤ _)⟩)
  dsimp only [Pt.U, Pt.locs, Pt.cells, Pt.slots] at X2 l2 y2 z2 st2 hQ2
  subst l2 y2 z2
  obtain ⟨r_, rfl, N2q, e2, hr_⟩ := hQ2
  have N2 := Fr.app N1 N2q
  refine own_pre st2 ?_
  show OwnGoes p e below _ (T2.setTop (mkF m 14 #[.val (.ref b), .val (.int (0 : Int32)), .val (.int (2 : Int32)), .val (.long k_), .second] [(.int r_)]))
  exact own_ret X2 hx Bd.returns (rfl) (Or.inl ⟨rfl, by simp, _, rfl⟩) Bd.notSynchronized (hb hby d11_14) ⟨r_, rfl, N2, e2, hr_⟩ (by decide) (by decide)
def QNew (Z : State) (ob : Addr) (h0 : Heap) (n0 : Nat) (v : Option Value) (h : Heap) (L : List Loc) : Prop := v = none ∧ Fr n0 L ∧ OwnRC Z n0 h ob (0 : Int32) (1 : Int32) (0 : Int64) (0 : Int64)
set_option maxRecDepth 65536 in
set_option maxHeartbeats 40000000 in
theorem rmNew (l : Launch) (Z : State) (a0 : Array Value) (hw : ∀ d ∈ tables_1, d.before a0 Z = true) (ws : List Jvm.Cond) (ob : Addr) (h0 : Heap) (n0 : Nat) (Z0 : n0 ≤ h0.size) (Eo : Exa Z h0 ob "com/example/holdfast/holdfast/net/ReferencedClasses") (F0 : Fld Z h0 ob "com/example/holdfast/holdfast/net/ReferencedClasses" "named" "[J" .null) (F1 : Fld Z h0 ob "com/example/holdfast/holdfast/net/ReferencedClasses" "count" "I" (.int (0 : Int32))) (F2 : Fld Z h0 ob "com/example/holdfast/holdfast/net/ReferencedClasses" "sorted" "Z" (.int (0 : Int32))) (g_ob : n0 ≤ ob) :
    MetFree l (⟨"com/example/holdfast/holdfast/net/ReferencedClasses", "<init>", "()V"⟩ : MethodName) (head1 (Jvm.Cond.code (⟨"com/example/holdfast/holdfast/net/ReferencedClasses", "<init>", "()V"⟩ : MethodName) prog_71_method_1_code 1 none :: ws) ({ frames := 1, cells := 1, slots := 64, locals := 12 } : Room)) (fun a U => a = #[(.ref ob)] ∧ Z.Warmed39 U.vm ∧ U.heap = h0) (fun _ _ _ _ _ => True) (fun _ Uw_ ow_ Ue_ => ∃ vw_ Lw_, ow_ = .returned vw_ ∧ QNew Z ob h0 n0 vw_ Ue_.heap Lw_ ∧ FrameEnd Uw_ ow_ Ue_ Lw_ ({ frames := 1, cells := 1, slots := 64, locals := 12 } : Room).cells ({ frames := 1, cells := 1, slots := 64, locals := 12 } : Room).slots) := by
  refine MetFree.of_bodySF (plainFor_of_name (by first | (simp [plainName, overriddenIn]; done) | decide +kernel)) hisR ?_
  intro p e s m args below meth c s₁ Bd hml0 hP hK
  obtain ⟨rfl, hZ, hh⟩ := hP
  have hx := Bd.exec
  have hby := Bd.bytes
  have hml : c.maxLocals = 1 := hml0
  have hown : s.vm.findClass "com/example/holdfast/holdfast/net/ReferencedClasses" = some m.cls := findClass_of_methodNamed Bd.named
  have hnm := (name_of_methodNamed Bd.named Bd.method).1
  have X0 : Stand p l e ({ frames := 1, cells := 1, slots := 64, locals := 12 } : Room) s m #[(.ref ob)] below meth c s₁ [] 0 0 := Stand.of_body Bd
  have e0 : s₁.heap = h0 := by rw [← hh, Bd.state]; rfl
  have N0 := Fr.nil n0
  have ef : entryFrame m #[(.ref ob)] 1 = (mkF m 0 #[.val (.ref ob)] []) := by first | (simp [entryFrame, mkF, argsToLocals, Value.category]; done) | rfl
  show OwnGoes p e below (fun ow_ Ue_ => ∃ vw_ Lw_, ow_ = .returned vw_ ∧ QNew Z ob h0 n0 vw_ Ue_.heap Lw_ ∧ FrameEnd s ow_ Ue_ Lw_ ({ frames := 1, cells := 1, slots := 64, locals := 12 } : Room).cells ({ frames := 1, cells := 1, slots := 64, locals := 12 } : Room).slots) (s₁.setTop (entryFrame m #[(.ref ob)] 1))
  refine own_pre (fun t k => castTop ef k) ?_
  show OwnGoes p e below _ (s₁.setTop (mkF m 0 #[.val (.ref ob)] []))
  refine own_pre (fun _ kz_ => XS.aloadN X0.here hx rfl (hb hby d2_0) rfl rfl kz_) ?_
  show OwnGoes p e below _ (s₁.setTop (mkF m 1 #[.val (.ref ob)] [(.ref ob)]))
  obtain ⟨T1, X1, e1, st1⟩ := initO X0 hx hZ hown (hw _ (List.mem_of_getElem? (i := 11) rfl)) (hw _ (List.mem_of_getElem? (i := 12) rfl)) (hw _ (List.mem_of_getElem? (i := 13) rfl)) e0 (g := (mkF m 1 #[.val (.ref ob)] [(.ref ob)])) rfl (by rw [hml]; rfl) rfl (hb hby d2_1) (by decide) (W := 0) (by show 2 * 0 + _ ≤ _; exact Nat.le_of_eq rfl) (by decide)
  refine own_pre st1 ?_
  show OwnGoes p e below _ (T1.setTop (mkF m 4 #[.val (.ref ob)] []))
  refine own_pre (fun _ kz_ => XS.aloadN X1.here hx rfl (hb hby d2_4) rfl rfl kz_) ?_
  show OwnGoes p e below _ (T1.setTop (mkF m 5 #[.val (.ref ob)] [(.ref ob)]))
  refine own_pre (fun _ kz_ => XS.bipush X1.here hx rfl (hb hby d2_5) kz_) ?_
  show OwnGoes p e below _ (T1.setTop (mkF m 7 #[.val (.ref ob)] [(.int (64 : Int32)), (.ref ob)]))
  obtain ⟨T2, h2, X2, e2, E2, V2, st2⟩ := own_newa X1 hx hZ (hw _ (List.mem_of_getElem? (i := 14) rfl)) e1 (g := (mkF m 7 #[.val (.ref ob)] [(.int (64 : Int32)), (.ref ob)])) rfl (hb hby d2_7) rfl (by decide) (cap := 64) (by decide) (by decide) (by decide) (by decide)
  obtain ⟨b, g2⟩ : ∃ z, z = h0.size := ⟨_, rfl⟩
  rw [← g2] at V2 st2
  have g_b : n0 ≤ b := Nat.le_trans Z0 (Nat.le_of_eq g2.symm)
  have sz_b : h0.size ≤ b := Nat.le_trans ((Keep.refl h0 [ob])).1 (Nat.le_of_eq g2.symm)
  have ne_ob_b : ob ≠ b := Nat.ne_of_lt (Nat.lt_of_lt_of_le Eo.lt (Nat.le_of_eq g2.symm))
  have f2_4 := Eo.ext E2
  have f2_3 := F0.ext E2
  have f2_2 := F1.ext E2
  have f2_1 := F2.ext E2
  have K2 := ((Keep.refl h0 [ob])).ext E2
  have Z2 := Nat.le_trans Z0 E2.1
  have Va2 : OwnA Z h2 b .long (.long (0 : Int64) :: .long (0 : Int64) :: List.replicate 62 (.long (0 : Int64))) := V2
  refine own_pre st2 ?_
  show OwnGoes p e below _ (T2.setTop (mkF m 9 #[.val (.ref ob)] [(.ref b), (.ref ob)]))
  obtain ⟨T3, h3, X3, e3, W3, st3⟩ := putF X2 hx hZ hown (host := "") (Or.inl (hw _ (List.mem_of_getElem? (i := 15) rfl))) Via.refl e2 f2_3 f2_4 (Or.inl (hw _ (List.mem_of_getElem? (i := 16) rfl))) (hw _ (List.mem_of_getElem? (i := 6) rfl)) (ty := (.array .long)) (by decide) rfl rfl (g := (mkF m 9 #[.val (.ref ob)] [(.ref b), (.ref ob)])) rfl rfl (hb hby d2_9)
  have f3_5 := f2_4.wr W3
  have f3_3 := f2_2.other W3 (Or.inr (slot_ne (Or.inl (hw _ (List.mem_of_getElem? (i := 26) rfl))) (Or.inl (hw _ (List.mem_of_getElem? (i := 16) rfl))) (by decide) (t := .int) (t' := (.array .long)) (by decide) (by decide)))
  have f3_2 := f2_1.other W3 (Or.inr (slot_ne (Or.inl (hw _ (List.mem_of_getElem? (i := 18) rfl))) (Or.inl (hw _ (List.mem_of_getElem? (i := 16) rfl))) (by decide) (t := .boolean) (t' := (.array .long)) (by decide) (by decide)))
  have f3_1 := Va2.other W3 (Ne.symm ne_ob_b)
  have K3 := (K2).wr W3 (Or.inl (List.mem_of_getElem? (i := 0) rfl))
  have Z3 := Nat.le_trans Z2 (Keep.of_wr W3).1
  have Fw3 := f2_3.same W3
  have N3 := Fr.snoc X3 N0 g_ob
  refine own_pre st3 ?_
  show OwnGoes p e below _ (T3.setTop (mkF m 12 #[.val (.ref ob)] []))
  refine own_pre (fun _ kz_ => XS.aloadN X3.here hx rfl (hb hby d2_12) rfl rfl kz_) ?_
  show OwnGoes p e below _ (T3.setTop (mkF m 13 #[.val (.ref ob)] [(.ref ob)]))
  refine own_pre (fun _ kz_ => XS.iconst X3.here hx rfl (hb hby d2_13) kz_) ?_
  show OwnGoes p e below _ (T3.setTop (mkF m 14 #[.val (.ref ob)] [(.int (1 : Int32)), (.ref ob)]))
  obtain ⟨T4, h4, X4, e4, W4, st4⟩ := putFN X3 hx hZ hown (hw _ (List.mem_of_getElem? (i := 17) rfl)) Via.refl e3 f3_2 f3_5 (Or.inl (hw _ (List.mem_of_getElem? (i := 18) rfl))) (hw _ (List.mem_of_getElem? (i := 6) rfl)) (ty := .boolean) (v' := (.int (1 : Int32))) (by decide) rfl rfl (g := (mkF m 14 #[.val (.ref ob)] [(.int (1 : Int32)), (.ref ob)])) rfl rfl (hb hby d2_14)
  have f4_5 := f3_5.wr W4
  have f4_4 := Fw3.other W4 (Or.inr (slot_ne (Or.inl (hw _ (List.mem_of_getElem? (i := 16) rfl))) (Or.inl (hw _ (List.mem_of_getElem? (i := 18) rfl))) (by decide) (t := (.array .long)) (t' := .boolean) (by decide) (by decide)))
  have f4_3 := f3_3.other W4 (Or.inr (slot_ne (Or.inl (hw _ (List.mem_of_getElem? (i := 26) rfl))) (Or.inl (hw _ (List.mem_of_getElem? (i := 18) rfl))) (by decide) (t := .int) (t' := .boolean) (by decide) (by decide)))
  have f4_1 := f3_1.other W4 (Ne.symm ne_ob_b)
  have K4 := (K3).wr W4 (Or.inl (List.mem_of_getElem? (i := 0) rfl))
  have Z4 := Nat.le_trans Z3 (Keep.of_wr W4).1
  have Fw4 := f3_2.same W4
  have N4 := Fr.snoc X4 N3 g_ob
  refine own_pre st4 ?_
  show OwnGoes p e below _ (T4.setTop (mkF m 17 #[.val (.ref ob)] []))
  exact own_retV X4 hx Bd.returns Bd.notSynchronized (hb hby d2_17) ⟨rfl, N4, by rw [e4]; exact ⟨b, (List.replicate 62 (.long (0 : Int64))), f4_5, f4_4, f4_3, Fw4, f4_1, by simp, g_ob, g_b, ne_ob_b⟩⟩ (by decide) (by decide)
def QCl (Z : State) (ob : Addr) (x0 x1 : Int64) (h0 : Heap) (n0 : Nat) (v : Option Value) (h : Heap) (L : List Loc) : Prop := v = none ∧ Fr n0 L ∧ OwnRC Z n0 h ob (0 : Int32) (1 : Int32) x0 x1
set_option maxRecDepth 65536 in
set_option maxHeartbeats 40000000 in
theorem rmCl (l : Launch) (Z : State) (a0 : Array Value) (hw : ∀ d ∈ tables_1, d.before a0 Z = true) (ws : List Jvm.Cond) (ob : Addr) (c_ s_ : Int32) (x0 x1 : Int64) (h0 : Heap) (n0 : Nat) (Z0 : n0 ≤ h0.size) (I0 : OwnRC Z n0 h0 ob c_ s_ x0 x1) :
    MetFree l (⟨"com/example/holdfast/holdfast/net/ReferencedClasses", "clear", "()V"⟩ : MethodName) (head1 (Jvm.Cond.code (⟨"com/example/holdfast/holdfast/net/ReferencedClasses", "clear", "()V"⟩ : MethodName) prog_71_method_2_code 1 none :: ws) ({ frames := 0, cells := 0, slots := 0, locals := 0 } : Room)) (fun a U => a = #[(.ref ob)] ∧ Z.Warmed39 U.vm ∧ U.heap = h0) (fun _ _ _ _ _ => True) (fun _ Uw_ ow_ Ue_ => ∃ vw_ Lw_, ow_ = .returned vw_ ∧ QCl Z ob x0 x1 h0 n0 vw_ Ue_.heap Lw_ ∧ FrameEnd Uw_ ow_ Ue_ Lw_ ({ frames := 0, cells := 0, slots := 0, locals := 0 } : Room).cells ({ frames := 0, cells := 0, slots := 0, locals := 0 } : Room).slots) := by
  refine MetFree.of_bodySF (plainFor_of_name (by first | (simp [plainName, overriddenIn]; done) | decide +kernel)) hisR ?_
  intro p e s m args below meth c s₁ Bd hml0 hP hK
  obtain ⟨rfl, hZ, hh⟩ := hP
  have hx := Bd.exec
  have hby := Bd.bytes
  have hml : c.maxLocals = 1 := hml0
  have hown : s.vm.findClass "com/example/holdfast/holdfast/net/ReferencedClasses" = some m.cls := findClass_of_methodNamed Bd.named
  have hnm := (name_of_methodNamed Bd.named Bd.method).1
  have X0 : Stand p l e ({ frames := 0, cells := 0, slots := 0, locals := 0 } : Room) s m #[(.ref ob)] below meth c s₁ [] 0 0 := Stand.of_body Bd
  have e0 : s₁.heap = h0 := by rw [← hh, Bd.state]; rfl
  have N0 := Fr.nil n0
  have ef : entryFrame m #[(.ref ob)] 1 = (mkF m 0 #[.val (.ref ob)] []) := by first | (simp [entryFrame, mkF, argsToLocals, Value.category]; done) | rfl
  show OwnGoes p e below (fun ow_ Ue_ => ∃ vw_ Lw_, ow_ = .returned vw_ ∧ QCl Z ob x0 x1 h0 n0 vw_ Ue_.heap Lw_ ∧ FrameEnd s ow_ Ue_ Lw_ ({ frames := 0, cells := 0, slots := 0, locals := 0 } : Room).cells ({ frames := 0, cells := 0, slots := 0, locals := 0 } : Room).slots) (s₁.setTop (entryFrame m #[(.ref ob)] 1))
  refine own_pre (fun t k => castTop ef k) ?_
  obtain ⟨b, tl, Eo, F0, F1, F2, V, ht, g_ob, g_b, hne⟩ := I0
  show OwnGoes p e below _ (s₁.setTop (mkF m 0 #[.val (.ref ob)] []))
  refine own_pre (fun _ kz_ => XS.aloadN X0.here hx rfl (hb hby d13_0) rfl rfl kz_) ?_
  show OwnGoes p e below _ (s₁.setTop (mkF m 1 #[.val (.ref ob)] [(.ref ob)]))
  obtain ⟨T1, X1, e1, st1⟩ := getF X0 hx hZ hown (host := "") (Or.inl (hw _ (List.mem_of_getElem? (i := 15) rfl))) Via.refl e0 F0 (g := (mkF m 1 #[.val (.ref ob)] [(.ref ob)])) rfl rfl (hb hby d13_1)
  refine own_pre st1 ?_
  show OwnGoes p e below _ (T1.setTop (mkF m 4 #[.val (.ref ob)] [(.ref b)]))
  refine own_pre (own_alen X1 hx hZ e1 V (n := (64 : Int32)) (by show (64 : Int32) = Int32.ofNat (tl.length + 1 + 1); rw [ht]; rfl) (g := (mkF m 4 #[.val (.ref ob)] [(.ref b)])) rfl rfl (hb hby d13_4)) ?_
  show OwnGoes p e below _ (T1.setTop (mkF m 5 #[.val (.ref ob)] [(.int (64 : Int32))]))
  refine own_pre (fun _ kz_ => XS.sipush X1.here hx rfl (hb hby d13_5) kz_) ?_
  show OwnGoes p e below _ (T1.setTop (mkF m 8 #[.val (.ref ob)] [(.int (1024 : Int32)), (.int (64 : Int32))]))
  refine own_pre (fun _ kz_ => XS.icmpYes X1.here hx rfl (pc0 := 8) (pc' := 20) rfl (hb hby d13_8) rfl (flt (by decide : ¬ ((1024 : Int32) < (64 : Int32)))).2.2.2 (by decide) (by decide) kz_) ?_
  show OwnGoes p e below _ (T1.setTop (mkF m 20 #[.val (.ref ob)] []))
  refine own_pre (fun _ kz_ => XS.aloadN X1.here hx rfl (hb hby d13_20) rfl rfl kz_) ?_
  show OwnGoes p e below _ (T1.setTop (mkF m 21 #[.val (.ref ob)] [(.ref ob)]))
  refine own_pre (fun _ kz_ => XS.iconst X1.here hx rfl (hb hby d13_21) kz_) ?_
  show OwnGoes p e below _ (T1.setTop (mkF m 22 #[.val (.ref ob)] [(.int (0 : Int32)), (.ref ob)]))
  obtain ⟨T2, h2, X2, e2, W2, st2⟩ := putF X1 hx hZ hown (host := "") (Or.inl (hw _ (List.mem_of_getElem? (i := 25) rfl))) Via.refl e1 F1 Eo (Or.inl (hw _ (List.mem_of_getElem? (i := 26) rfl))) (hw _ (List.mem_of_getElem? (i := 6) rfl)) (ty := .int) (by decide) rfl rfl (g := (mkF m 22 #[.val (.ref ob)] [(.int (0 : Int32)), (.ref ob)])) rfl rfl (hb hby d13_22)
  have f2_5 := Eo.wr W2
  have f2_4 := F0.other W2 (Or.inr (slot_ne (Or.inl (hw _ (List.mem_of_getElem? (i := 16) rfl))) (Or.inl (hw _ (List.mem_of_getElem? (i := 26) rfl))) (by decide) (t := (.array .long)) (t' := .int) (by decide) (by decide)))
  have f2_2 := F2.other W2 (Or.inr (slot_ne (Or.inl (hw _ (List.mem_of_getElem? (i := 18) rfl))) (Or.inl (hw _ (List.mem_of_getElem? (i := 26) rfl))) (by decide) (t := .boolean) (t' := .int) (by decide) (by decide)))
  have f2_1 := V.other W2 (Ne.symm hne)
  have K2 := ((Keep.refl h0 [ob])).wr W2 (Or.inl (List.mem_of_getElem? (i := 0) rfl))
  have Z2 := Nat.le_trans Z0 (Keep.of_wr W2).1
  have Fw2 := F1.same W2
  have N2 := Fr.snoc X2 N0 g_ob
  refine own_pre st2 ?_
  show OwnGoes p e below _ (T2.setTop (mkF m 25 #[.val (.ref ob)] []))
  refine own_pre (fun _ kz_ => XS.aloadN X2.here hx rfl (hb hby d13_25) rfl rfl kz_) ?_
  show OwnGoes p e below _ (T2.setTop (mkF m 26 #[.val (.ref ob)] [(.ref ob)]))
  refine own_pre (fun _ kz_ => XS.iconst X2.here hx rfl (hb hby d13_26) kz_) ?_
  show OwnGoes p e below _ (T2.setTop (mkF m 27 #[.val (.ref ob)] [(.int (1 : Int32)), (.ref ob)]))
  obtain ⟨T3, h3, X3, e3, W3, st3⟩ := putFN X2 hx hZ hown (hw _ (List.mem_of_getElem? (i := 17) rfl)) Via.refl e2 f2_2 f2_5 (Or.inl (hw _ (List.mem_of_getElem? (i := 18) rfl))) (hw _ (List.mem_of_getElem? (i := 6) rfl)) (ty := .boolean) (v' := (.int (1 : Int32))) (by decide) rfl rfl (g := (mkF m 27 #[.val (.ref ob)] [(.int (1 : Int32)), (.ref ob)])) rfl rfl (hb hby d13_27)
  have f3_5 := f2_5.wr W3
  have f3_4 := f2_4.other W3 (Or.inr (slot_ne (Or.inl (hw _ (List.mem_of_getElem? (i := 16) rfl))) (Or.inl (hw _ (List.mem_of_getElem? (i := 18) rfl))) (by decide) (t := (.array .long)) (t' := .boolean) (by decide) (by decide)))
  have f3_3 := Fw2.other W3 (Or.inr (slot_ne (Or.inl (hw _ (List.mem_of_getElem? (i := 26) rfl))) (Or.inl (hw _ (List.mem_of_getElem? (i := 18) rfl))) (by decide) (t := .int) (t' := .boolean) (by decide) (by decide)))
  have f3_1 := f2_1.other W3 (Ne.symm hne)
  have K3 := (K2).wr W3 (Or.inl (List.mem_of_getElem? (i := 0) rfl))
  have Z3 := Nat.le_trans Z2 (Keep.of_wr W3).1
  have Fw3 := f2_2.same W3
  have N3 := Fr.snoc X3 N2 g_ob
  refine own_pre st3 ?_
  show OwnGoes p e below _ (T3.setTop (mkF m 30 #[.val (.ref ob)] []))
  exact own_retV X3 hx Bd.returns Bd.notSynchronized (hb hby d13_30) ⟨rfl, N3, by rw [e3]; exact ⟨b, tl, f3_5, f3_4, f3_3, Fw3, f3_1, ht, g_ob, g_b, hne⟩⟩ (by decide) (by decide)
def QAdd0 (Z : State) (ob : Addr) (q : Int64) (k_ s_ : Int32) (x0 x1 : Int64) (h0 : Heap) (n0 : Nat) (v : Option Value) (h : Heap) (L : List Loc) : Prop := v = none ∧ Fr n0 L ∧ ((own_in q ∧ OwnRC Z n0 h ob (1 : Int32) (0 : Int32) (own_e q k_) x1) ∨ (¬ own_in q ∧ OwnRC Z n0 h ob (0 : Int32) s_ x0 x1))
set_option maxRecDepth 65536 in
set_option maxHeartbeats 40000000 in
theorem rmAdd0 (l : Launch) (Z : State) (a0 : Array Value) (hw : ∀ d ∈ tables_1, d.before a0 Z = true) (ws : List Jvm.Cond) (ob : Addr) (q : Int64) (k_ s_ : Int32) (x0 x1 : Int64) (h0 : Heap) (n0 : Nat) (Z0 : n0 ≤ h0.size) (I0 : OwnRC Z n0 h0 ob (0 : Int32) s_ x0 x1) :
    MetFree l (⟨"com/example/holdfast/holdfast/net/ReferencedClasses", "add", "(JI)V"⟩ : MethodName) (head1 (Jvm.Cond.code (⟨"com/example/holdfast/holdfast/net/ReferencedClasses", "add", "(JI)V"⟩ : MethodName) prog_71_method_3_code 4 none :: ws) ({ frames := 0, cells := 0, slots := 0, locals := 0 } : Room)) (fun a U => a = #[(.ref ob), (.long q), (.int k_)] ∧ Z.Warmed39 U.vm ∧ U.heap = h0) (fun _ _ _ _ _ => True) (fun _ Uw_ ow_ Ue_ => ∃ vw_ Lw_, ow_ = .returned vw_ ∧ QAdd0 Z ob q k_ s_ x0 x1 h0 n0 vw_ Ue_.heap Lw_ ∧ FrameEnd Uw_ ow_ Ue_ Lw_ ({ frames := 0, cells := 0, slots := 0, locals := 0 } : Room).cells ({ frames := 0, cells := 0, slots := 0, locals := 0 } : Room).slots) := by
  refine MetFree.of_bodySF (plainFor_of_name (by first | (simp [plainName, overriddenIn]; done) | decide +kernel)) hisR ?_
  intro p e s m args below meth c s₁ Bd hml0 hP hK
  obtain ⟨rfl, hZ, hh⟩ := hP
  have hx := Bd.exec
  have hby := Bd.bytes
  have hml : c.maxLocals = 4 := hml0
  have hown : s.vm.findClass "com/example/holdfast/holdfast/net/ReferencedClasses" = some m.cls := findClass_of_methodNamed Bd.named
  have hnm := (name_of_methodNamed Bd.named Bd.method).1
  have X0 : Stand p l e ({ frames := 0, cells := 0, slots := 0, locals := 0 } : Room) s m #[(.ref ob), (.long q), (.int k_)] below meth c s₁ [] 0 0 := Stand.of_body Bd
  have e0 : s₁.heap = h0 := by rw [← hh, Bd.state]; rfl
  have N0 := Fr.nil n0
  have ef : entryFrame m #[(.ref ob), (.long q), (.int k_)] 4 = (mkF m 0 #[.val (.ref ob), .val (.long q), .second, .val (.int k_)] []) := by first | (simp [entryFrame, mkF, argsToLocals, Value.category]; done) | rfl
  show OwnGoes p e below (fun ow_ Ue_ => ∃ vw_ Lw_, ow_ = .returned vw_ ∧ QAdd0 Z ob q k_ s_ x0 x1 h0 n0 vw_ Ue_.heap Lw_ ∧ FrameEnd s ow_ Ue_ Lw_ ({ frames := 0, cells := 0, slots := 0, locals := 0 } : Room).cells ({ frames := 0, cells := 0, slots := 0, locals := 0 } : Room).slots) (s₁.setTop (entryFrame m #[(.ref ob), (.long q), (.int k_)] 4))
  refine own_pre (fun t k => castTop ef k) ?_
  have I1 := I0
  obtain ⟨b, tl, Eo, F0, F1, F2, V, ht, g_ob, g_b, hne⟩ := I1
  show OwnGoes p e below _ (s₁.setTop (mkF m 0 #[.val (.ref ob), .val (.long q), .second, .val (.int k_)] []))
  refine own_pre (fun _ kz_ => XS.lloadN X0.here hx rfl (hb hby d4_0) rfl kz_) ?_
  show OwnGoes p e below _ (s₁.setTop (mkF m 1 #[.val (.ref ob), .val (.long q), .second, .val (.int k_)] [(.long q)]))
  refine own_pre (fun _ kz_ => XS.lconst X0.here hx rfl (hb hby d4_1) kz_) ?_
  show OwnGoes p e below _ (s₁.setTop (mkF m 2 #[.val (.ref ob), .val (.long q), .second, .val (.int k_)] [(.long (0 : Int64)), (.long q)]))
  refine own_pre (fun _ kz_ => XS.lcmp X0.here hx rfl (hb hby d4_2) rfl kz_) ?_
  show OwnGoes p e below _ (s₁.setTop (mkF m 3 #[.val (.ref ob), .val (.long q), .second, .val (.int k_)] [(.int (lcmpW q (0 : Int64)))]))
  by_cases h3 : (0 : Int64) < q
  · refine own_pre (fun _ kz_ => XS.ifNo X0.here hx rfl (hb hby d4_3) rfl ((if0 _ _).trans (tlt ((lw_gt q (0 : Int64)).mpr h3)).2.2.2) kz_) ?_
    show OwnGoes p e below _ (s₁.setTop (mkF m 6 #[.val (.ref ob), .val (.long q), .second, .val (.int k_)] []))
    refine own_pre (fun _ kz_ => XS.lloadN X0.here hx rfl (hb hby d4_6) rfl kz_) ?_
    show OwnGoes p e below _ (s₁.setTop (mkF m 7 #[.val (.ref ob), .val (.long q), .second, .val (.int k_)] [(.long q)]))
    refine own_pre (fun _ kz_ => X0.ldc2Long hx hown (mvT hZ (hw _ (List.mem_of_getElem? (i := 24) rfl))) (g := (mkF m 7 #[.val (.ref ob), .val (.long q), .second, .val (.int k_)] [(.long q)])) rfl (hb hby d4_7) _ kz_) ?_
    show OwnGoes p e below _ (s₁.setTop (mkF m 10 #[.val (.ref ob), .val (.long q), .second, .val (.int k_)] [(.long (2147483647 : Int64)), (.long q)]))
    refine own_pre (fun _ kz_ => XS.lcmp X0.here hx rfl (hb hby d4_10) rfl kz_) ?_
    show OwnGoes p e below _ (s₁.setTop (mkF m 11 #[.val (.ref ob), .val (.long q), .second, .val (.int k_)] [(.int (lcmpW q (2147483647 : Int64)))]))
    by_cases h11 : (2147483647 : Int64) < q
    · refine own_pre (fun _ kz_ => XS.ifYes X0.here hx rfl (pc0 := 11) (pc' := 75) rfl (hb hby d4_11) rfl ((if0 _ _).trans (tlt ((lw_gt q (2147483647 : Int64)).mpr h11)).2.2.1) (by decide) (by decide) kz_) ?_
      show OwnGoes p e below _ (s₁.setTop (mkF m 75 #[.val (.ref ob), .val (.long q), .second, .val (.int k_)] []))
      exact own_retV X0 hx Bd.returns Bd.notSynchronized (hb hby d4_75) ⟨rfl, N0, Or.inr ⟨fun z => by first | exact h3 z.1 | exact z.2 h11, by rw [e0]; exact I0⟩⟩ (by decide) (by decide)
    · refine own_pre (fun _ kz_ => XS.ifNo X0.here hx rfl (hb hby d4_11) rfl ((if0 _ _).trans (flt (fun qz_ => h11 ((lw_gt q (2147483647 : Int64)).mp qz_))).2.2.1) kz_) ?_
      show OwnGoes p e below _ (s₁.setTop (mkF m 14 #[.val (.ref ob), .val (.long q), .second, .val (.int k_)] []))
      refine own_pre (fun _ kz_ => XS.aloadN X0.here hx rfl (hb hby d4_14) rfl rfl kz_) ?_
      show OwnGoes p e below _ (s₁.setTop (mkF m 15 #[.val (.ref ob), .val (.long q), .second, .val (.int k_)] [(.ref ob)]))
      obtain ⟨T1, X1, e1, st1⟩ := getF X0 hx hZ hown (host := "") (Or.inl (hw _ (List.mem_of_getElem? (i := 25) rfl))) Via.refl e0 F1 (g := (mkF m 15 #[.val (.ref ob), .val (.long q), .second, .val (.int k_)] [(.ref ob)])) rfl rfl (hb hby d4_15)
      refine own_pre st1 ?_
      show OwnGoes p e below _ (T1.setTop (mkF m 18 #[.val (.ref ob), .val (.long q), .second, .val (.int k_)] [(.int (0 : Int32))]))
      refine own_pre (fun _ kz_ => XS.aloadN X1.here hx rfl (hb hby d4_18) rfl rfl kz_) ?_
      show OwnGoes p e below _ (T1.setTop (mkF m 19 #[.val (.ref ob), .val (.long q), .second, .val (.int k_)] [(.ref ob), (.int (0 : Int32))]))
      obtain ⟨T2, X2, e2, st2⟩ := getF X1 hx hZ hown (host := "") (Or.inl (hw _ (List.mem_of_getElem? (i := 15) rfl))) Via.refl e1 F0 (g := (mkF m 19 #[.val (.ref ob), .val (.long q), .second, .val (.int k_)] [(.ref ob), (.int (0 : Int32))])) rfl rfl (hb hby d4_19)
      refine own_pre st2 ?_
      show OwnGoes p e below _ (T2.setTop (mkF m 22 #[.val (.ref ob), .val (.long q), .second, .val (.int k_)] [(.ref b), (.int (0 : Int32))]))
      refine own_pre (own_alen X2 hx hZ e2 V (n := (64 : Int32)) (by show (64 : Int32) = Int32.ofNat (tl.length + 1 + 1); rw [ht]; rfl) (g := (mkF m 22 #[.val (.ref ob), .val (.long q), .second, .val (.int k_)] [(.ref b), (.int (0 : Int32))])) rfl rfl (hb hby d4_22)) ?_
      show OwnGoes p e below _ (T2.setTop (mkF m 23 #[.val (.ref ob), .val (.long q), .second, .val (.int k_)] [(.int (64 : Int32)), (.int (0 : Int32))]))
      refine own_pre (fun _ kz_ => XS.icmpYes X2.here hx rfl (pc0 := 23) (pc' := 43) rfl (hb hby d4_23) rfl (feq (by decide : ¬ ((0 : Int32) = (64 : Int32)))).2 (by decide) (by decide) kz_) ?_
      show OwnGoes p e below _ (T2.setTop (mkF m 43 #[.val (.ref ob), .val (.long q), .second, .val (.int k_)] []))
      refine own_pre (fun _ kz_ => XS.aloadN X2.here hx rfl (hb hby d4_43) rfl rfl kz_) ?_
      show OwnGoes p e below _ (T2.setTop (mkF m 44 #[.val (.ref ob), .val (.long q), .second, .val (.int k_)] [(.ref ob)]))
      obtain ⟨T3, X3, e3, st3⟩ := getF X2 hx hZ hown (host := "") (Or.inl (hw _ (List.mem_of_getElem? (i := 15) rfl))) Via.refl e2 F0 (g := (mkF m 44 #[.val (.ref ob), .val (.long q), .second, .val (.int k_)] [(.ref ob)])) rfl rfl (hb hby d4_44)
      refine own_pre st3 ?_
      show OwnGoes p e below _ (T3.setTop (mkF m 47 #[.val (.ref ob), .val (.long q), .second, .val (.int k_)] [(.ref b)]))
      refine own_pre (fun _ kz_ => XS.aloadN X3.here hx rfl (hb hby d4_47) rfl rfl kz_) ?_
      show OwnGoes p e below _ (T3.setTop (mkF m 48 #[.val (.ref ob), .val (.long q), .second, .val (.int k_)] [(.ref ob), (.ref b)]))
      refine own_pre (fun _ kz_ => XS.dup X3.here hx rfl (hb hby d4_48) rfl rfl kz_) ?_
      show OwnGoes p e below _ (T3.setTop (mkF m 49 #[.val (.ref ob), .val (.long q), .second, .val (.int k_)] [(.ref ob), (.ref ob), (.ref b)]))
      obtain ⟨T4, X4, e4, st4⟩ := getF X3 hx hZ hown (host := "") (Or.inl (hw _ (List.mem_of_getElem? (i := 25) rfl))) Via.refl e3 F1 (g := (mkF m 49 #[.val (.ref ob), .val (.long q), .second, .val (.int k_)] [(.ref ob), (.ref ob), (.ref b)])) rfl rfl (hb hby d4_49)
      refine own_pre st4 ?_
      show OwnGoes p e below _ (T4.setTop (mkF m 52 #[.val (.ref ob), .val (.long q), .second, .val (.int k_)] [(.int (0 : Int32)), (.ref ob), (.ref b)]))
      refine own_pre (fun _ kz_ => XS.dupX1 X4.here hx rfl (hb hby d4_52) rfl rfl rfl kz_) ?_
      show OwnGoes p e below _ (T4.setTop (mkF m 53 #[.val (.ref ob), .val (.long q), .second, .val (.int k_)] [(.int (0 : Int32)), (.ref ob), (.int (0 : Int32)), (.ref b)]))
      refine own_pre (fun _ kz_ => XS.iconst X4.here hx rfl (hb hby d4_53) kz_) ?_
      show OwnGoes p e below _ (T4.setTop (mkF m 54 #[.val (.ref ob), .val (.long q), .second, .val (.int k_)] [(.int (1 : Int32)), (.int (0 : Int32)), (.ref ob), (.int (0 : Int32)), (.ref b)]))
      refine own_pre (fun _ kz_ => XS.iadd X4.here hx rfl (hb hby d4_54) rfl kz_) ?_
      show OwnGoes p e below _ (T4.setTop (mkF m 55 #[.val (.ref ob), .val (.long q), .second, .val (.int k_)] [(.int ((0 : Int32) + (1 : Int32))), (.ref ob), (.int (0 : Int32)), (.ref b)]))
      rw [show ((0 : Int32) + (1 : Int32)) = (1 : Int32) from by decide]
      show OwnGoes p e below _ (T4.setTop (mkF m 55 #[.val (.ref ob), .val (.long q), .second, .val (.int k_)] [(.int (1 : Int32)), (.ref ob), (.int (0 : Int32)), (.ref b)]))
      obtain ⟨T5, h5, X5, e5, W5, st5⟩ := putF X4 hx hZ hown (host := "") (Or.inl (hw _ (List.mem_of_getElem? (i := 25) rfl))) Via.refl e4 F1 Eo (Or.inl (hw _ (List.mem_of_getElem? (i := 26) rfl))) (hw _ (List.mem_of_getElem? (i := 6) rfl)) (ty := .int) (by decide) rfl rfl (g := (mkF m 55 #[.val (.ref ob), .val (.long q), .second, .val (.int k_)] [(.int (1 : Int32)), (.ref ob), (.int (0 : Int32)), (.ref b)])) rfl rfl (hb hby d4_55)
      have f5_5 := Eo.wr W5
      have f5_4 := F0.other W5 (Or.inr (slot_ne (Or.inl (hw _ (List.mem_of_getElem? (i := 16) rfl))) (Or.inl (hw _ (List.mem_of_getElem? (i := 26) rfl))) (by decide) (t := (.array .long)) (t' := .int) (by decide) (by decide)))
      have f5_2 := F2.other W5 (Or.inr (slot_ne (Or.inl (hw _ (List.mem_of_getElem? (i := 18) rfl))) (Or.inl (hw _ (List.mem_of_getElem? (i := 26) rfl))) (by decide) (t := .boolean) (t' := .int) (by decide) (by decide)))
      have f5_1 := V.other W5 (Ne.symm hne)
      have K5 := ((Keep.refl h0 [ob, b])).wr W5 (Or.inl (List.mem_of_getElem? (i := 0) rfl))
      have Z5 := Nat.le_trans Z0 (Keep.of_wr W5).1
      have Fw5 := F1.same W5
      have N5 := Fr.snoc X5 N0 g_ob
      refine own_pre st5 ?_
      show OwnGoes p e below _ (T5.setTop (mkF m 58 #[.val (.ref ob), .val (.long q), .second, .val (.int k_)] [(.int (0 : Int32)), (.ref b)]))
      refine own_pre (fun _ kz_ => XS.lloadN X5.here hx rfl (hb hby d4_58) rfl kz_) ?_
      show OwnGoes p e below _ (T5.setTop (mkF m 59 #[.val (.ref ob), .val (.long q), .second, .val (.int k_)] [(.long q), (.int (0 : Int32)), (.ref b)]))
      refine own_pre (fun _ kz_ => XS.bipush X5.here hx rfl (hb hby d4_59) kz_) ?_
      show OwnGoes p e below _ (T5.setTop (mkF m 61 #[.val (.ref ob), .val (.long q), .second, .val (.int k_)] [(.int (32 : Int32)), (.long q), (.int (0 : Int32)), (.ref b)]))
      refine own_pre (fun _ kz_ => XS.lshl X5.here hx rfl (hb hby d4_61) rfl kz_) ?_
      show OwnGoes p e below _ (T5.setTop (mkF m 62 #[.val (.ref ob), .val (.long q), .second, .val (.int k_)] [(.long (q <<< ((32 : Int32) &&& 0x3f).toInt64)), (.int (0 : Int32)), (.ref b)]))
      refine own_pre (fun _ kz_ => XS.iloadN X5.here hx rfl (hb hby d4_62) rfl kz_) ?_
      show OwnGoes p e below _ (T5.setTop (mkF m 63 #[.val (.ref ob), .val (.long q), .second, .val (.int k_)] [(.int k_), (.long (q <<< ((32 : Int32) &&& 0x3f).toInt64)), (.int (0 : Int32)), (.ref b)]))
      refine own_pre (fun _ kz_ => XS.i2l X5.here hx rfl (hb hby d4_63) rfl kz_) ?_
      show OwnGoes p e below _ (T5.setTop (mkF m 64 #[.val (.ref ob), .val (.long q), .second, .val (.int k_)] [(.long (k_.toInt64)), (.long (q <<< ((32 : Int32) &&& 0x3f).toInt64)), (.int (0 : Int32)), (.ref b)]))
      refine own_pre (fun _ kz_ => X5.ldc2Long hx hown (mvT hZ (hw _ (List.mem_of_getElem? (i := 27) rfl))) (g := (mkF m 64 #[.val (.ref ob), .val (.long q), .second, .val (.int k_)] [(.long (k_.toInt64)), (.long (q <<< ((32 : Int32) &&& 0x3f).toInt64)), (.int (0 : Int32)), (.ref b)])) rfl (hb hby d4_64) _ kz_) ?_
      show OwnGoes p e below _ (T5.setTop (mkF m 67 #[.val (.ref ob), .val (.long q), .second, .val (.int k_)] [(.long (4294967295 : Int64)), (.long (k_.toInt64)), (.long (q <<< ((32 : Int32) &&& 0x3f).toInt64)), (.int (0 : Int32)), (.ref b)]))
      refine own_pre (fun _ kz_ => XS.land X5.here hx rfl (hb hby d4_67) rfl kz_) ?_
      show OwnGoes p e below _ (T5.setTop (mkF m 68 #[.val (.ref ob), .val (.long q), .second, .val (.int k_)] [(.long ((k_.toInt64) &&& (4294967295 : Int64))), (.long (q <<< ((32 : Int32) &&& 0x3f).toInt64)), (.int (0 : Int32)), (.ref b)]))
      refine own_pre (fun _ kz_ => XS.lor X5.here hx rfl (hb hby d4_68) rfl kz_) ?_
      show OwnGoes p e below _ (T5.setTop (mkF m 69 #[.val (.ref ob), .val (.long q), .second, .val (.int k_)] [(.long (own_e q k_)), (.int (0 : Int32)), (.ref b)]))
      obtain ⟨T6, h6, X6, e6, W6, V6, st6⟩ := own_jst X5 hx hZ e5 f5_1 (j := (0 : Int32)) (by decide) (by show 0 < tl.length + 1 + 1; omega) (g := (mkF m 69 #[.val (.ref ob), .val (.long q), .second, .val (.int k_)] [(.long (own_e q k_)), (.int (0 : Int32)), (.ref b)])) rfl rfl (hb hby d4_69)
      have f6_5 := f5_5.wr W6
      have f6_4 := f5_4.other W6 (Or.inl hne)
      have f6_3 := Fw5.other W6 (Or.inl hne)
      have f6_2 := f5_2.other W6 (Or.inl hne)
      have K6 := (K5).wr W6 (Or.inl (List.mem_of_getElem? (i := 1) rfl))
      have Z6 := Nat.le_trans Z5 (Keep.of_wr W6).1
      have N6 := Fr.snoc X6 N5 g_b
      refine own_pre st6 ?_
      show OwnGoes p e below _ (T6.setTop (mkF m 70 #[.val (.ref ob), .val (.long q), .second, .val (.int k_)] []))
      refine own_pre (fun _ kz_ => XS.aloadN X6.here hx rfl (hb hby d4_70) rfl rfl kz_) ?_
      show OwnGoes p e below _ (T6.setTop (mkF m 71 #[.val (.ref ob), .val (.long q), .second, .val (.int k_)] [(.ref ob)]))
      refine own_pre (fun _ kz_ => XS.iconst X6.here hx rfl (hb hby d4_71) kz_) ?_
      show OwnGoes p e below _ (T6.setTop (mkF m 72 #[.val (.ref ob), .val (.long q), .second, .val (.int k_)] [(.int (0 : Int32)), (.ref ob)]))
      obtain ⟨T7, h7, X7, e7, W7, st7⟩ := putFN X6 hx hZ hown (hw _ (List.mem_of_getElem? (i := 17) rfl)) Via.refl e6 f6_2 f6_5 (Or.inl (hw _ (List.mem_of_getElem? (i := 18) rfl))) (hw _ (List.mem_of_getElem? (i := 6) rfl)) (ty := .boolean) (v' := (.int (0 : Int32))) (by decide) rfl rfl (g := (mkF m 72 #[.val (.ref ob), .val (.long q), .second, .val (.int k_)] [(.int (0 : Int32)), (.ref ob)])) rfl rfl (hb hby d4_72)
      have f7_5 := f6_5.wr W7
      have f7_4 := f6_4.other W7 (Or.inr (slot_ne (Or.inl (hw _ (List.mem_of_getElem? (i := 16) rfl))) (Or.inl (hw _ (List.mem_of_getElem? (i := 18) rfl))) (by decide) (t := (.array .long)) (t' := .boolean) (by decide) (by decide)))
      have f7_3 := f6_3.other W7 (Or.inr (slot_ne (Or.inl (hw _ (List.mem_of_getElem? (i := 26) rfl))) (Or.inl (hw _ (List.mem_of_getElem? (i := 18) rfl))) (by decide) (t := .int) (t' := .boolean) (by decide) (by decide)))
      have f7_1 := V6.other W7 (Ne.symm hne)
      have K7 := (K6).wr W7 (Or.inl (List.mem_of_getElem? (i := 0) rfl))
      have Z7 := Nat.le_trans Z6 (Keep.of_wr W7).1
      have Fw7 := f6_2.same W7
      have N7 := Fr.snoc X7 N6 g_ob
      refine own_pre st7 ?_
      show OwnGoes p e below _ (T7.setTop (mkF m 75 #[.val (.ref ob), .val (.long q), .second, .val (.int k_)] []))
      exact own_retV X7 hx Bd.returns Bd.notSynchronized (hb hby d4_75) ⟨rfl, N7, Or.inl ⟨⟨h3, h11⟩, by rw [e7]; exact ⟨b, tl, f7_5, f7_4, f7_3, Fw7, f7_1, ht, g_ob, g_b, hne⟩⟩⟩ (by decide) (by decide)
  · refine own_pre (fun _ kz_ => XS.ifYes X0.here hx rfl (pc0 := 3) (pc' := 75) rfl (hb hby d4_3) rfl ((if0 _ _).trans (flt (fun qz_ => h3 ((lw_gt q (0 : Int64)).mp qz_))).2.2.2) (by decide) (by decide) kz_) ?_
    show OwnGoes p e below _ (s₁.setTop (mkF m 75 #[.val (.ref ob), .val (.long q), .second, .val (.int k_)] []))
    exact own_retV X0 hx Bd.returns Bd.notSynchronized (hb hby d4_75) ⟨rfl, N0, Or.inr ⟨fun z => by first | exact h3 z.1 | exact z.2 h11, by rw [e0]; exact I0⟩⟩ (by decide) (by decide)
def QAdd1 (Z : State) (ob : Addr) (q : Int64) (k_ s_ : Int32) (x0 x1 : Int64) (h0 : Heap) (n0 : Nat) (v : Option Value) (h : Heap) (L : List Loc) : Prop := v = none ∧ Fr n0 L ∧ ((own_in q ∧ OwnRC Z n0 h ob (2 : Int32) (0 : Int32) x0 (own_e q k_)) ∨ (¬ own_in q ∧ OwnRC Z n0 h ob (1 : Int32) s_ x0 x1))
set_option maxRecDepth 65536 in
set_option maxHeartbeats 40000000 in
theorem rmAdd1 (l : Launch) (Z : State) (a0 : Array Value) (hw : ∀ d ∈ tables_1, d.before a0 Z = true) (ws : List Jvm.Cond) (ob : Addr) (q : Int64) (k_ s_ : Int32) (x0 x1 : Int64) (h0 : Heap) (n0 : Nat) (Z0 : n0 ≤ h0.size) (I0 : OwnRC Z n0 h0 ob (1 : Int32) s_ x0 x1) :
    MetFree l (⟨"com/example/holdfast/holdfast/net/ReferencedClasses", "add", "(JI)V"⟩ : MethodName) (head1 (Jvm.Cond.code (⟨"com/example/holdfast/holdfast/net/ReferencedClasses", "add", "(JI)V"⟩ : MethodName) prog_71_method_3_code 4 none :: ws) ({ frames := 0, cells := 0, slots := 0, locals := 0 } : Room)) (fun a U => a = #[(.ref ob), (.long q), (.int k_)] ∧ Z.Warmed39 U.vm ∧ U.heap = h0) (fun _ _ _ _ _ => True) (fun _ Uw_ ow_ Ue_ => ∃ vw_ Lw_, ow_ = .returned vw_ ∧ QAdd1 Z ob q k_ s_ x0 x1 h0 n0 vw_ Ue_.heap Lw_ ∧ FrameEnd Uw_ ow_ Ue_ Lw_ ({ frames := 0, cells := 0, slots := 0, locals := 0 } : Room).cells ({ frames := 0, cells := 0, slots := 0, locals := 0 } : Room).slots) := by
  refine MetFree.of_bodySF (plainFor_of_name (by first | (simp [plainName, overriddenIn]; done) | decide +kernel)) hisR ?_
  intro p e s m args below meth c s₁ Bd hml0 hP hK
  obtain ⟨rfl, hZ, hh⟩ := hP
  have hx := Bd.exec
  have hby := Bd.bytes
  have hml : c.maxLocals = 4 := hml0
  have hown : s.vm.findClass "com/example/holdfast/holdfast/net/ReferencedClasses" = some m.cls := findClass_of_methodNamed Bd.named
  have hnm := (name_of_methodNamed Bd.named Bd.method).1
  have X0 : Stand p l e ({ frames := 0, cells := 0, slots := 0, locals := 0 } : Room) s m #[(.ref ob), (.long q), (.int k_)] below meth c s₁ [] 0 0 := Stand.of_body Bd
  have e0 : s₁.heap = h0 := by rw [← hh, Bd.state]; rfl
  have N0 := Fr.nil n0
  have ef : entryFrame m #[(.ref ob), (.long q), (.int k_)] 4 = (mkF m 0 #[.val (.ref ob), .val (.long q), .second, .val (.int k_)] []) := by first | (simp [entryFrame, mkF, argsToLocals, Value.category]; done) | rfl
  show OwnGoes p e below (fun ow_ Ue_ => ∃ vw_ Lw_, ow_ = .returned vw_ ∧ QAdd1 Z ob q k_ s_ x0 x1 h0 n0 vw_ Ue_.heap Lw_ ∧ FrameEnd s ow_ Ue_ Lw_ ({ frames := 0, cells := 0, slots := 0, locals := 0 } : Room).cells ({ frames := 0, cells := 0, slots := 0, locals := 0 } : Room).slots) (s₁.setTop (entryFrame m #[(.ref ob), (.long q), (.int k_)] 4))
  refine own_pre (fun t k => castTop ef k) ?_
  have I1 := I0
  obtain ⟨b, tl, Eo, F0, F1, F2, V, ht, g_ob, g_b, hne⟩ := I1
  show OwnGoes p e below _ (s₁.setTop (mkF m 0 #[.val (.ref ob), .val (.long q), .second, .val (.int k_)] []))
  refine own_pre (fun _ kz_ => XS.lloadN X0.here hx rfl (hb hby d4_0) rfl kz_) ?_
  show OwnGoes p e below _ (s₁.setTop (mkF m 1 #[.val (.ref ob), .val (.long q), .second, .val (.int k_)] [(.long q)]))
  refine own_pre (fun _ kz_ => XS.lconst X0.here hx rfl (hb hby d4_1) kz_) ?_
  show OwnGoes p e below _ (s₁.setTop (mkF m 2 #[.val (.ref ob), .val (.long q), .second, .val (.int k_)] [(.long (0 : Int64)), (.long q)]))
  refine own_pre (fun _ kz_ => XS.lcmp X0.here hx rfl (hb hby d4_2) rfl kz_) ?_
  show OwnGoes p e below _ (s₁.setTop (mkF m 3 #[.val (.ref ob), .val (.long q), .second, .val (.int k_)] [(.int (lcmpW q (0 : Int64)))]))
  by_cases h3 : (0 : Int64) < q
  · refine own_pre (fun _ kz_ => XS.ifNo X0.here hx rfl (hb hby d4_3) rfl ((if0 _ _).trans (tlt ((lw_gt q (0 : Int64)).mpr h3)).2.2.2) kz_) ?_
    show OwnGoes p e below _ (s₁.setTop (mkF m 6 #[.val (.ref ob), .val (.long q), .second, .val (.int k_)] []))
    refine own_pre (fun _ kz_ => XS.lloadN X0.here hx rfl (hb hby d4_6) rfl kz_) ?_
    show OwnGoes p e below _ (s₁.setTop (mkF m 7 #[.val (.ref ob), .val (.long q), .second, .val (.int k_)] [(.long q)]))
    refine own_pre (fun _ kz_ => X0.ldc2Long hx hown (mvT hZ (hw _ (List.mem_of_getElem? (i := 24) rfl))) (g := (mkF m 7 #[.val (.ref ob), .val (.long q), .second, .val (.int k_)] [(.long q)])) rfl (hb hby d4_7) _ kz_) ?_
    show OwnGoes p e below _ (s₁.setTop (mkF m 10 #[.val (.ref ob), .val (.long q), .second, .val (.int k_)] [(.long (2147483647 : Int64)), (.long q)]))
    refine own_pre (fun _ kz_ => XS.lcmp X0.here hx rfl (hb hby d4_10) rfl kz_) ?_
    show OwnGoes p e below _ (s₁.setTop (mkF m 11 #[.val (.ref ob), .val (.long q), .second, .val (.int k_)] [(.int (lcmpW q (2147483647 : Int64)))]))
    by_cases h11 : (2147483647 : Int64) < q
    · refine own_pre (fun _ kz_ => XS.ifYes X0.here hx rfl (pc0 := 11) (pc' := 75) rfl (hb hby d4_11) rfl ((if0 _ _).trans (tlt ((lw_gt q (2147483647 : Int64)).mpr h11)).2.2.1) (by decide) (by decide) kz_) ?_
      show OwnGoes p e below _ (s₁.setTop (mkF m 75 #[.val (.ref ob), .val (.long q), .second, .val (.int k_)] []))
      exact own_retV X0 hx Bd.returns Bd.notSynchronized (hb hby d4_75) ⟨rfl, N0, Or.inr ⟨fun z => by first | exact h3 z.1 | exact z.2 h11, by rw [e0]; exact I0⟩⟩ (by decide) (by decide)
    · refine own_pre (fun _ kz_ => XS.ifNo X0.here hx rfl (hb hby d4_11) rfl ((if0 _ _).trans (flt (fun qz_ => h11 ((lw_gt q (2147483647 : Int64)).mp qz_))).2.2.1) kz_) ?_
      show OwnGoes p e below _ (s₁.setTop (mkF m 14 #[.val (.ref ob), .val (.long q), .second, .val (.int k_)] []))
      refine own_pre (fun _ kz_ => XS.aloadN X0.here hx rfl (hb hby d4_14) rfl rfl kz_) ?_
      show OwnGoes p e below _ (s₁.setTop (mkF m 15 #[.val (.ref ob), .val (.long q), .second, .val (.int k_)] [(.ref ob)]))
      obtain ⟨T1, X1, e1, st1⟩ := getF X0 hx hZ hown (host := "") (Or.inl (hw _ (List.mem_of_getElem? (i := 25) rfl))) Via.refl e0 F1 (g := (mkF m 15 #[.val (.ref ob), .val (.long q), .second, .val (.int k_)] [(.ref ob)])) rfl rfl (hb hby d4_15)
      refine own_pre st1 ?_
      show OwnGoes p e below _ (T1.setTop (mkF m 18 #[.val (.ref ob), .val (.long q), .second, .val (.int k_)] [(.int (1 : Int32))]))
      refine own_pre (fun _ kz_ => XS.aloadN X1.here hx rfl (hb hby d4_18) rfl rfl kz_) ?_
      show OwnGoes p e below _ (T1.setTop (mkF m 19 #[.val (.ref ob), .val (.long q), .second, .val (.int k_)] [(.ref ob), (.int (1 : Int32))]))
      obtain ⟨T2, X2, e2, st2⟩ := getF X1 hx hZ hown (host := "") (Or.inl (hw _ (List.mem_of_getElem? (i := 15) rfl))) Via.refl e1 F0 (g := (mkF m 19 #[.val (.ref ob), .val (.long q), .second, .val (.int k_)] [(.ref ob), (.int (1 : Int32))])) rfl rfl (hb hby d4_19)
      refine own_pre st2 ?_
      show OwnGoes p e below _ (T2.setTop (mkF m 22 #[.val (.ref ob), .val (.long q), .second, .val (.int k_)] [(.ref b), (.int (1 : Int32))]))
      refine own_pre (own_alen X2 hx hZ e2 V (n := (64 : Int32)) (by show (64 : Int32) = Int32.ofNat (tl.length + 1 + 1); rw [ht]; rfl) (g := (mkF m 22 #[.val (.ref ob), .val (.long q), .second, .val (.int k_)] [(.ref b), (.int (1 : Int32))])) rfl rfl (hb hby d4_22)) ?_
      show OwnGoes p e below _ (T2.setTop (mkF m 23 #[.val (.ref ob), .val (.long q), .second, .val (.int k_)] [(.int (64 : Int32)), (.int (1 : Int32))]))
      refine own_pre (fun _ kz_ => XS.icmpYes X2.here hx rfl (pc0 := 23) (pc' := 43) rfl (hb hby d4_23) rfl (feq (by decide : ¬ ((1 : Int32) = (64 : Int32)))).2 (by decide) (by decide) kz_) ?_
      show OwnGoes p e below _ (T2.setTop (mkF m 43 #[.val (.ref ob), .val (.long q), .second, .val (.int k_)] []))
      refine own_pre (fun _ kz_ => XS.aloadN X2.here hx rfl (hb hby d4_43) rfl rfl kz_) ?_
      show OwnGoes p e below _ (T2.setTop (mkF m 44 #[.val (.ref ob), .val (.long q), .second, .val (.int k_)] [(.ref ob)]))
      obtain ⟨T3, X3, e3, st3⟩ := getF X2 hx hZ hown (host := "") (Or.inl (hw _ (List.mem_of_getElem? (i := 15) rfl))) Via.refl e2 F0 (g := (mkF m 44 #[.val (.ref ob), .val (.long q), .second, .val (.int k_)] [(.ref ob)])) rfl rfl (hb hby d4_44)
      refine own_pre st3 ?_
      show OwnGoes p e below _ (T3.setTop (mkF m 47 #[.val (.ref ob), .val (.long q), .second, .val (.int k_)] [(.ref b)]))
      refine own_pre (fun _ kz_ => XS.aloadN X3.here hx rfl (hb hby d4_47) rfl rfl kz_) ?_
      show OwnGoes p e below _ (T3.setTop (mkF m 48 #[.val (.ref ob), .val (.long q), .second, .val (.int k_)] [(.ref ob), (.ref b)]))
      refine own_pre (fun _ kz_ => XS.dup X3.here hx rfl (hb hby d4_48) rfl rfl kz_) ?_
      show OwnGoes p e below _ (T3.setTop (mkF m 49 #[.val (.ref ob), .val (.long q), .second, .val (.int k_)] [(.ref ob), (.ref ob), (.ref b)]))
      obtain ⟨T4, X4, e4, st4⟩ := getF X3 hx hZ hown (host := "") (Or.inl (hw _ (List.mem_of_getElem? (i := 25) rfl))) Via.refl e3 F1 (g := (mkF m 49 #[.val (.ref ob), .val (.long q), .second, .val (.int k_)] [(.ref ob), (.ref ob), (.ref b)])) rfl rfl (hb hby d4_49)
      refine own_pre st4 ?_
      show OwnGoes p e below _ (T4.setTop (mkF m 52 #[.val (.ref ob), .val (.long q), .second, .val (.int k_)] [(.int (1 : Int32)), (.ref ob), (.ref b)]))
      refine own_pre (fun _ kz_ => XS.dupX1 X4.here hx rfl (hb hby d4_52) rfl rfl rfl kz_) ?_
      show OwnGoes p e below _ (T4.setTop (mkF m 53 #[.val (.ref ob), .val (.long q), .second, .val (.int k_)] [(.int (1 : Int32)), (.ref ob), (.int (1 : Int32)), (.ref b)]))
      refine own_pre (fun _ kz_ => XS.iconst X4.here hx rfl (hb hby d4_53) kz_) ?_
      show OwnGoes p e below _ (T4.setTop (mkF m 54 #[.val (.ref ob), .val (.long q), .second, .val (.int k_)] [(.int (1 : Int32)), (.int (1 : Int32)), (.ref ob), (.int (1 : Int32)), (.ref b)]))
      refine own_pre (fun _ kz_ => XS.iadd X4.here hx rfl (hb hby d4_54) rfl kz_) ?_
      show OwnGoes p e below _ (T4.setTop (mkF m 55 #[.val (.ref ob), .val (.long q), .second, .val (.int k_)] [(.int ((1 : Int32) + (1 : Int32))), (.ref ob), (.int (1 : Int32)), (.ref b)]))
      rw [show ((1 : Int32) + (1 : Int32)) = (2 : Int32) from by decide]
      show OwnGoes p e below _ (T4.setTop (mkF m 55 #[.val (.ref ob), .val (.long q), .second, .val (.int k_)] [(.int (2 : Int32)), (.ref ob), (.int (1 : Int32)), (.ref b)]))
      obtain ⟨T5, h5, X5, e5, W5, st5⟩ := putF X4 hx hZ hown (host := "") (Or.inl (hw _ (List.mem_of_getElem? (i := 25) rfl))) Via.refl e4 F1 Eo (Or.inl (hw _ (List.mem_of_getElem? (i := 26) rfl))) (hw _ (List.mem_of_getElem? (i := 6) rfl)) (ty := .int) (by decide) rfl rfl (g := (mkF m 55 #[.val (.ref ob), .val (.long q), .second, .val (.int k_)] [(.int (2 : Int32)), (.ref ob), (.int (1 : Int32)), (.ref b)])) rfl rfl (hb hby d4_55)
      have f5_5 := Eo.wr W5
      have f5_4 := F0.other W5 (Or.inr (slot_ne (Or.inl (hw _ (List.mem_of_getElem? (i := 16) rfl))) (Or.inl (hw _ (List.mem_of_getElem? (i := 26) rfl))) (by decide) (t := (.array .long)) (t' := .int) (by decide) (by decide)))
      have f5_2 := F2.other W5 (Or.inr (slot_ne (Or.inl (hw _ (List.mem_of_getElem? (i := 18) rfl))) (Or.inl (hw _ (List.mem_of_getElem? (i := 26) rfl))) (by decide) (t := .boolean) (t' := .int) (by decide) (by decide)))
      have f5_1 := V.other W5 (Ne.symm hne)
      have K5 := ((Keep.refl h0 [ob, b])).wr W5 (Or.inl (List.mem_of_getElem? (i := 0) rfl))
      have Z5 := Nat.le_trans Z0 (Keep.of_wr W5).1
      have Fw5 := F1.same W5
      have N5 := Fr.snoc X5 N0 g_ob
      refine own_pre st5 ?_
      show OwnGoes p e below _ (T5.setTop (mkF m 58 #[.val (.ref ob), .val (.long q), .second, .val (.int k_)] [(.int (1 : Int32)), (.ref b)]))
      refine own_pre (fun _ kz_ => XS.lloadN X5.here hx rfl (hb hby d4_58) rfl kz_) ?_
      show OwnGoes p e below _ (T5.setTop (mkF m 59 #[.val (.ref ob), .val (.long q), .second, .val (.int k_)] [(.long q), (.int (1 : Int32)), (.ref b)]))
      refine own_pre (fun _ kz_ => XS.bipush X5.here hx rfl (hb hby d4_59) kz_) ?_
      show OwnGoes p e below _ (T5.setTop (mkF m 61 #[.val (.ref ob), .val (.long q), .second, .val (.int k_)] [(.int (32 : Int32)), (.long q), (.int (1 : Int32)), (.ref b)]))
      refine own_pre (fun _ kz_ => XS.lshl X5.here hx rfl (hb hby d4_61) rfl kz_) ?_
      show OwnGoes p e below _ (T5.setTop (mkF m 62 #[.val (.ref ob), .val (.long q), .second, .val (.int k_)] [(.long (q <<< ((32 : Int32) &&& 0x3f).toInt64)), (.int (1 : Int32)), (.ref b)]))
      refine own_pre (fun _ kz_ => XS.iloadN X5.here hx rfl (hb hby d4_62) rfl kz_) ?_
      show OwnGoes p e below _ (T5.setTop (mkF m 63 #[.val (.ref ob), .val (.long q), .second, .val (.int k_)] [(.int k_), (.long (q <<< ((32 : Int32) &&& 0x3f).toInt64)), (.int (1 : Int32)), (.ref b)]))
      refine own_pre (fun _ kz_ => XS.i2l X5.here hx rfl (hb hby d4_63) rfl kz_) ?_
      show OwnGoes p e below _ (T5.setTop (mkF m 64 #[.val (.ref ob), .val (.long q), .second, .val (.int k_)] [(.long (k_.toInt64)), (.long (q <<< ((32 : Int32) &&& 0x3f).toInt64)), (.int (1 : Int32)), (.ref b)]))
      refine own_pre (fun _ kz_ => X5.ldc2Long hx hown (mvT hZ (hw _ (List.mem_of_getElem? (i := 27) rfl))) (g := (mkF m 64 #[.val (.ref ob), .val (.long q), .second, .val (.int k_)] [(.long (k_.toInt64)), (.long (q <<< ((32 : Int32) &&& 0x3f).toInt64)), (.int (1 : Int32)), (.ref b)])) rfl (hb hby d4_64) _ kz_) ?_
      show OwnGoes p e below _ (T5.setTop (mkF m 67 #[.val (.ref ob), .val (.long q), .second, .val (.int k_)] [(.long (4294967295 : Int64)), (.long (k_.toInt64)), (.long (q <<< ((32 : Int32) &&& 0x3f).toInt64)), (.int (1 : Int32)), (.ref b)]))
      refine own_pre (fun _ kz_ => XS.land X5.here hx rfl (hb hby d4_67) rfl kz_) ?_
      show OwnGoes p e below _ (T5.setTop (mkF m 68 #[.val (.ref ob), .val (.long q), .second, .val (.int k_)] [(.long ((k_.toInt64) &&& (4294967295 : Int64))), (.long (q <<< ((32 : Int32) &&& 0x3f).toInt64)), (.int (1 : Int32)), (.ref b)]))
      refine own_pre (fun _ kz_ => XS.lor X5.here hx rfl (hb hby d4_68) rfl kz_) ?_
      show OwnGoes p e below _ (T5.setTop (mkF m 69 #[.val (.ref ob), .val (.long q), .second, .val (.int k_)] [(.long (own_e q k_)), (.int (1 : Int32)), (.ref b)]))
      obtain ⟨T6, h6, X6, e6, W6, V6, st6⟩ := own_jst X5 hx hZ e5 f5_1 (j := (1 : Int32)) (by decide) (by show 1 < tl.length + 1 + 1; omega) (g := (mkF m 69 #[.val (.ref ob), .val (.long q), .second, .val (.int k_)] [(.long (own_e q k_)), (.int (1 : Int32)), (.ref b)])) rfl rfl (hb hby d4_69)
      have f6_5 := f5_5.wr W6
      have f6_4 := f5_4.other W6 (Or.inl hne)
      have f6_3 := Fw5.other W6 (Or.inl hne)
      have f6_2 := f5_2.other W6 (Or.inl hne)
      have K6 := (K5).wr W6 (Or.inl (List.mem_of_getElem? (i := 1) rfl))
      have Z6 := Nat.le_trans Z5 (Keep.of_wr W6).1
      have N6 := Fr.snoc X6 N5 g_b
      refine own_pre st6 ?_
      show OwnGoes p e below _ (T6.setTop (mkF m 70 #[.val (.ref ob), .val (.long q), .second, .val (.int k_)] []))
      refine own_pre (fun _ kz_ => XS.aloadN X6.here hx rfl (hb hby d4_70) rfl rfl kz_) ?_
      show OwnGoes p e below _ (T6.setTop (mkF m 71 #[.val (.ref ob), .val (.long q), .second, .val (.int k_)] [(.ref ob)]))
      refine own_pre (fun _ kz_ => XS.iconst X6.here hx rfl (hb hby d4_71) kz_) ?_
      show OwnGoes p e below _ (T6.setTop (mkF m 72 #[.val (.ref ob), .val (.long q), .second, .val (.int k_)] [(.int (0 : Int32)), (.ref ob)]))
      obtain ⟨T7, h7, X7, e7, W7, st7⟩ := putFN X6 hx hZ hown (hw _ (List.mem_of_getElem? (i := 17) rfl)) Via.refl e6 f6_2 f6_5 (Or.inl (hw _ (List.mem_of_getElem? (i := 18) rfl))) (hw _ (List.mem_of_getElem? (i := 6) rfl)) (ty := .boolean) (v' := (.int (0 : Int32))) (by decide) rfl rfl (g := (mkF m 72 #[.val (.ref ob), .val (.long q), .second, .val (.int k_)] [(.int (0 : Int32)), (.ref ob)])) rfl rfl (hb hby d4_72)
      have f7_5 := f6_5.wr W7
      have f7_4 := f6_4.other W7 (Or.inr (slot_ne (Or.inl (hw _ (List.mem_of_getElem? (i := 16) rfl))) (Or.inl (hw _ (List.mem_of_getElem? (i := 18) rfl))) (by decide) (t := (.array .long)) (t' := .boolean) (by decide) (by decide)))
      have f7_3 := f6_3.other W7 (Or.inr (slot_ne (Or.inl (hw _ (List.mem_of_getElem? (i := 26) rfl))) (Or.inl (hw _ (List.mem_of_getElem? (i := 18) rfl))) (by decide) (t := .int) (t' := .boolean) (by decide) (by decide)))
      have f7_1 := V6.other W7 (Ne.symm hne)
      have K7 := (K6).wr W7 (Or.inl (List.mem_of_getElem? (i := 0) rfl))
      have Z7 := Nat.le_trans Z6 (Keep.of_wr W7).1
      have Fw7 := f6_2.same W7
      have N7 := Fr.snoc X7 N6 g_ob
      refine own_pre st7 ?_
      show OwnGoes p e below _ (T7.setTop (mkF m 75 #[.val (.ref ob), .val (.long q), .second, .val (.int k_)] []))
      exact own_retV X7 hx Bd.returns Bd.notSynchronized (hb hby d4_75) ⟨rfl, N7, Or.inl ⟨⟨h3, h11⟩, by rw [e7]; exact ⟨b, tl, f7_5, f7_4, f7_3, Fw7, f7_1, ht, g_ob, g_b, hne⟩⟩⟩ (by decide) (by decide)
  · refine own_pre (fun _ kz_ => XS.ifYes X0.here hx rfl (pc0 := 3) (pc' := 75) rfl (hb hby d4_3) rfl ((if0 _ _).trans (flt (fun qz_ => h3 ((lw_gt q (0 : Int64)).mp qz_))).2.2.2) (by decide) (by decide) kz_) ?_
    show OwnGoes p e below _ (s₁.setTop (mkF m 75 #[.val (.ref ob), .val (.long q), .second, .val (.int k_)] []))
    exact own_retV X0 hx Bd.returns Bd.notSynchronized (hb hby d4_75) ⟨rfl, N0, Or.inr ⟨fun z => by first | exact h3 z.1 | exact z.2 h11, by rw [e0]; exact I0⟩⟩ (by decide) (by decide)
def QCO0  (h0 : Heap) (n0 : Nat) (v : Option Value) (h : Heap) (L : List Loc) : Prop := v = some (.int (-2147483648 : Int32)) ∧ Fr n0 L ∧ h = h0
def QCO1 (Z : State) (ob : Addr) (q x0 x1 : Int64) (h0 : Heap) (n0 : Nat) (v : Option Value) (h : Heap) (L : List Loc) : Prop := v = some (.int (own_r x0 q)) ∧ Fr n0 L ∧ ∃ s' : Int32, OwnRC Z n0 h ob (1 : Int32) s' x0 x1
def QCO2 (Z : State) (ob : Addr) (h0 : Heap) (n0 : Nat) (v : Option Value) (h : Heap) (L : List Loc) : Prop := ∃ r : Int32, v = some (.int r) ∧ Fr n0 L ∧ ∃ (s' : Int32) (y0 y1 : Int64), OwnRC Z n0 h ob (2 : Int32) s' y0 y1
set_option maxRecDepth 65536 in
set_option maxHeartbeats 40000000 in
theorem rmCO0 (l : Launch) (Z : State) (a0 : Array Value) (hw : ∀ d ∈ tables_1, d.before a0 Z = true) (ws : List Jvm.Cond) (ob : Addr) (q : Int64) (x0 x1 : Int64) (h0 : Heap) (n0 : Nat) (Z0 : n0 ≤ h0.size) (I0 : OwnRC Z n0 h0 ob (0 : Int32) (1 : Int32) x0 x1) :
    MetFree l (⟨"com/example/holdfast/holdfast/net/ReferencedClasses", "classOf", "(J)I"⟩ : MethodName) (head1 (Jvm.Cond.code (⟨"com/example/holdfast/holdfast/net/ReferencedClasses", "classOf", "(J)I"⟩ : MethodName) prog_71_method_4_code 5 (some .int) :: ws) ({ frames := 4, cells := 0, slots := 0, locals := 90 } : Room)) (fun a U => a = #[(.ref ob), (.long q)] ∧ Z.Warmed39 U.vm ∧ U.heap = h0) (fun _ _ _ _ _ => True) (fun _ Uw_ ow_ Ue_ => ∃ vw_ Lw_, ow_ = .returned vw_ ∧ QCO0 h0 n0 vw_ Ue_.heap Lw_ ∧ FrameEnd Uw_ ow_ Ue_ Lw_ ({ frames := 4, cells := 0, slots := 0, locals := 90 } : Room).cells ({ frames := 4, cells := 0, slots := 0, locals := 90 } : Room).slots) := by
  refine MetFree.of_bodySF (plainFor_of_name (by first | (simp [plainName, overriddenIn]; done) | decide +kernel)) hisR ?_
  intro p e s m args below meth c s₁ Bd hml0 hP hK
  obtain ⟨rfl, hZ, hh⟩ := hP
  have hx := Bd.exec
  have hby := Bd.bytes
  have hml : c.maxLocals = 5 := hml0
  have hown : s.vm.findClass "com/example/holdfast/holdfast/net/ReferencedClasses" = some m.cls := findClass_of_methodNamed Bd.named
  have hnm := (name_of_methodNamed Bd.named Bd.method).1
  have X0 : Stand p l e ({ frames := 4, cells := 0, slots := 0, locals := 90 } : Room) s m #[(.ref ob), (.long q)] below meth c s₁ [] 0 0 := Stand.of_body Bd
  have e0 : s₁.heap = h0 := by rw [← hh, Bd.state]; rfl
  have N0 := Fr.nil n0
  have ef : entryFrame m #[(.ref ob), (.long q)] 5 = (mkF m 0 #[.val (.ref ob), .val (.long q), .second, .unset, .unset] []) := by first | (simp [entryFrame, mkF, argsToLocals, Value.category]; done) | rfl
  show OwnGoes p e below (fun ow_ Ue_ => ∃ vw_ Lw_, ow_ = .returned vw_ ∧ QCO0 h0 n0 vw_ Ue_.heap Lw_ ∧ FrameEnd s ow_ Ue_ Lw_ ({ frames := 4, cells := 0, slots := 0, locals := 90 } : Room).cells ({ frames := 4, cells := 0, slots := 0, locals := 90 } : Room).slots) (s₁.setTop (entryFrame m #[(.ref ob), (.long q)] 5))
  refine own_pre (fun t k => castTop ef k) ?_
  obtain ⟨b, tl, Eo, F0, F1, F2, V, ht, g_ob, g_b, hne⟩ := I0
  show OwnGoes p e below _ (s₁.setTop (mkF m 0 #[.val (.ref ob), .val (.long q), .second, .unset, .unset] []))
  refine own_pre (fun _ kz_ => X0.ldcInt hx hown (mvT hZ (hw _ (List.mem_of_getElem? (i := 33) rfl))) (g := (mkF m 0 #[.val (.ref ob), .val (.long q), .second, .unset, .unset] [])) rfl (hb hby d5_0) _ kz_) ?_
  show OwnGoes p e below _ (s₁.setTop (mkF m 2 #[.val (.ref ob), .val (.long q), .second, .unset, .unset] [(.int (-2147483648 : Int32))]))
  refine own_pre (fun _ kz_ => XS.istoreN X0.here hx rfl (hb hby d5_2) rfl (l' := #[.val (.ref ob), .val (.long q), .second, .val (.int (-2147483648 : Int32)), .unset]) rfl kz_) ?_
  show OwnGoes p e below _ (s₁.setTop (mkF m 3 #[.val (.ref ob), .val (.long q), .second, .val (.int (-2147483648 : Int32)), .unset] []))
  refine own_pre (fun _ kz_ => XS.lloadN X0.here hx rfl (hb hby d5_3) rfl kz_) ?_
  show OwnGoes p e below _ (s₁.setTop (mkF m 4 #[.val (.ref ob), .val (.long q), .second, .val (.int (-2147483648 : Int32)), .unset] [(.long q)]))
  refine own_pre (fun _ kz_ => XS.lconst X0.here hx rfl (hb hby d5_4) kz_) ?_
  show OwnGoes p e below _ (s₁.setTop (mkF m 5 #[.val (.ref ob), .val (.long q), .second, .val (.int (-2147483648 : Int32)), .unset] [(.long (0 : Int64)), (.long q)]))
  refine own_pre (fun _ kz_ => XS.lcmp X0.here hx rfl (hb hby d5_5) rfl kz_) ?_
  show OwnGoes p e below _ (s₁.setTop (mkF m 6 #[.val (.ref ob), .val (.long q), .second, .val (.int (-2147483648 : Int32)), .unset] [(.int (lcmpW q (0 : Int64)))]))
  by_cases h6 : (0 : Int64) < q
  · refine own_pre (fun _ kz_ => XS.ifNo X0.here hx rfl (hb hby d5_6) rfl ((if0 _ _).trans (tlt ((lw_gt q (0 : Int64)).mpr h6)).2.2.2) kz_) ?_
    show OwnGoes p e below _ (s₁.setTop (mkF m 9 #[.val (.ref ob), .val (.long q), .second, .val (.int (-2147483648 : Int32)), .unset] []))
    refine own_pre (fun _ kz_ => XS.lloadN X0.here hx rfl (hb hby d5_9) rfl kz_) ?_
    show OwnGoes p e below _ (s₁.setTop (mkF m 10 #[.val (.ref ob), .val (.long q), .second, .val (.int (-2147483648 : Int32)), .unset] [(.long q)]))
    refine own_pre (fun _ kz_ => X0.ldc2Long hx hown (mvT hZ (hw _ (List.mem_of_getElem? (i := 24) rfl))) (g := (mkF m 10 #[.val (.ref ob), .val (.long q), .second, .val (.int (-2147483648 : Int32)), .unset] [(.long q)])) rfl (hb hby d5_10) _ kz_) ?_
    show OwnGoes p e below _ (s₁.setTop (mkF m 13 #[.val (.ref ob), .val (.long q), .second, .val (.int (-2147483648 : Int32)), .unset] [(.long (2147483647 : Int64)), (.long q)]))
    refine own_pre (fun _ kz_ => XS.lcmp X0.here hx rfl (hb hby d5_13) rfl kz_) ?_
    show OwnGoes p e below _ (s₁.setTop (mkF m 14 #[.val (.ref ob), .val (.long q), .second, .val (.int (-2147483648 : Int32)), .unset] [(.int (lcmpW q (2147483647 : Int64)))]))
    by_cases h14 : (2147483647 : Int64) < q
    · refine own_pre (fun _ kz_ => XS.ifYes X0.here hx rfl (pc0 := 14) (pc' := 109) rfl (hb hby d5_14) rfl ((if0 _ _).trans (tlt ((lw_gt q (2147483647 : Int64)).mpr h14)).2.2.1) (by decide) (by decide) kz_) ?_
      show OwnGoes p e below _ (s₁.setTop (mkF m 109 #[.val (.ref ob), .val (.long q), .second, .val (.int (-2147483648 : Int32)), .unset] []))
      refine own_pre (fun _ kz_ => XS.iloadN X0.here hx rfl (hb hby d5_109) rfl kz_) ?_
      show OwnGoes p e below _ (s₁.setTop (mkF m 110 #[.val (.ref ob), .val (.long q), .second, .val (.int (-2147483648 : Int32)), .unset] [(.int (-2147483648 : Int32))]))
      exact own_ret X0 hx Bd.returns (rfl) (Or.inl ⟨rfl, by simp, _, rfl⟩) Bd.notSynchronized (hb hby d5_110) ⟨rfl, N0, e0⟩ (by decide) (by decide)
    · refine own_pre (fun _ kz_ => XS.ifNo X0.here hx rfl (hb hby d5_14) rfl ((if0 _ _).trans (flt (fun qz_ => h14 ((lw_gt q (2147483647 : Int64)).mp qz_))).2.2.1) kz_) ?_
      show OwnGoes p e below _ (s₁.setTop (mkF m 17 #[.val (.ref ob), .val (.long q), .second, .val (.int (-2147483648 : Int32)), .unset] []))
      refine own_pre (fun _ kz_ => XS.aloadN X0.here hx rfl (hb hby d5_17) rfl rfl kz_) ?_
      show OwnGoes p e below _ (s₁.setTop (mkF m 18 #[.val (.ref ob), .val (.long q), .second, .val (.int (-2147483648 : Int32)), .unset] [(.ref ob)]))
      obtain ⟨T1, X1, e1, st1⟩ := getF X0 hx hZ hown (host := "") (Or.inl (hw _ (List.mem_of_getElem? (i := 17) rfl))) Via.refl e0 F2 (g := (mkF m 18 #[.val (.ref ob), .val (.long q), .second, .val (.int (-2147483648 : Int32)), .unset] [(.ref ob)])) rfl rfl (hb hby d5_18)
      refine own_pre st1 ?_
      show OwnGoes p e below _ (T1.setTop (mkF m 21 #[.val (.ref ob), .val (.long q), .second, .val (.int (-2147483648 : Int32)), .unset] [(.int (1 : Int32))]))
      refine own_pre (fun _ kz_ => XS.ifYes X1.here hx rfl (pc0 := 21) (pc' := 41) rfl (hb hby d5_21) rfl ((if0 _ _).trans (feq (by decide : ¬ ((1 : Int32) = (0 : Int32)))).2) (by decide) (by decide) kz_) ?_
      show OwnGoes p e below _ (T1.setTop (mkF m 41 #[.val (.ref ob), .val (.long q), .second, .val (.int (-2147483648 : Int32)), .unset] []))
      refine own_pre (fun _ kz_ => XS.aloadN X1.here hx rfl (hb hby d5_41) rfl rfl kz_) ?_
      show OwnGoes p e below _ (T1.setTop (mkF m 42 #[.val (.ref ob), .val (.long q), .second, .val (.int (-2147483648 : Int32)), .unset] [(.ref ob)]))
      obtain ⟨T2, X2, e2, st2⟩ := getF X1 hx hZ hown (host := "") (Or.inl (hw _ (List.mem_of_getElem? (i := 15) rfl))) Via.refl e1 F0 (g := (mkF m 42 #[.val (.ref ob), .val (.long q), .second, .val (.int (-2147483648 : Int32)), .unset] [(.ref ob)])) rfl rfl (hb hby d5_42)
      refine own_pre st2 ?_
      show OwnGoes p e below _ (T2.setTop (mkF m 45 #[.val (.ref ob), .val (.long q), .second, .val (.int (-2147483648 : Int32)), .unset] [(.ref b)]))
      refine own_pre (fun _ kz_ => XS.iconst X2.here hx rfl (hb hby d5_45) kz_) ?_
      show OwnGoes p e below _ (T2.setTop (mkF m 46 #[.val (.ref ob), .val (.long q), .second, .val (.int (-2147483648 : Int32)), .unset] [(.int (0 : Int32)), (.ref b)]))
      refine own_pre (fun _ kz_ => XS.aloadN X2.here hx rfl (hb hby d5_46) rfl rfl kz_) ?_
      show OwnGoes p e below _ (T2.setTop (mkF m 47 #[.val (.ref ob), .val (.long q), .second, .val (.int (-2147483648 : Int32)), .unset] [(.ref ob), (.int (0 : Int32)), (.ref b)]))
      obtain ⟨T3, X3, e3, st3⟩ := getF X2 hx hZ hown (host := "") (Or.inl (hw _ (List.mem_of_getElem? (i := 25) rfl))) Via.refl e2 F1 (g := (mkF m 47 #[.val (.ref ob), .val (.long q), .second, .val (.int (-2147483648 : Int32)), .unset] [(.ref ob), (.int (0 : Int32)), (.ref b)])) rfl rfl (hb hby d5_47)
      refine own_pre st3 ?_
      show OwnGoes p e below _ (T3.setTop (mkF m 50 #[.val (.ref ob), .val (.long q), .second, .val (.int (-2147483648 : Int32)), .unset] [(.int (0 : Int32)), (.int (0 : Int32)), (.ref b)]))
      refine own_pre (fun _ kz_ => XS.lloadN X3.here hx rfl (hb hby d5_50) rfl kz_) ?_
      show OwnGoes p e below _ (T3.setTop (mkF m 51 #[.val (.ref ob), .val (.long q), .second, .val (.int (-2147483648 : Int32)), .unset] [(.long q), (.int (0 : Int32)), (.int (0 : Int32)), (.ref b)]))
      refine own_pre (fun _ kz_ => XS.bipush X3.here hx rfl (hb hby d5_51) kz_) ?_
      show OwnGoes p e below _ (T3.setTop (mkF m 53 #[.val (.ref ob), .val (.long q), .second, .val (.int (-2147483648 : Int32)), .unset] [(.int (32 : Int32)), (.long q), (.int (0 : Int32)), (.int (0 : Int32)), (.ref b)]))
      refine own_pre (fun _ kz_ => XS.lshl X3.here hx rfl (hb hby d5_53) rfl kz_) ?_
      show OwnGoes p e below _ (T3.setTop (mkF m 54 #[.val (.ref ob), .val (.long q), .second, .val (.int (-2147483648 : Int32)), .unset] [(.long (own_key q)), (.int (0 : Int32)), (.int (0 : Int32)), (.ref b)]))
      obtain ⟨_, _, ⟨T4, L4, k4, n4⟩, -, X4, ⟨Lc4, hQ4, l4, y4, z4⟩, st4⟩ := Jvm.LawKit.callS X3 hx (y := (⟨"java/util/Arrays", "binarySearch", "([JIIJ)I"⟩ : MethodName)) hown (mvT hZ (hw _ (List.mem_of_getElem? (i := 51) rfl))) (mvT hZ (hw _ (List.mem_of_getElem? (i := 52) rfl))) (mvT hZ (hw _ (List.mem_of_getElem? (i := 36) rfl))) (mvT hZ (hw _ (List.mem_of_getElem? (i := 53) rfl))) (by decide) (backOf (W := 0) (rmBS0 l Z a0 hw [] b x0 x1 tl (own_key q) h0 n0 Z0 V ht g_b) hZ (hw _ (List.mem_of_getElem? (i := 53) rfl)) (hw _ (List.mem_of_getElem? (i := 36) rfl)) (by decide) (by decide)) (g := (mkF m 54 #[.val (.ref ob), .val (.long q), .second, .val (.int (-2147483648 : Int32)), .unset] [(.long (own_key q)), (.int (0 : Int32)), (.int (0 : Int32)), (.ref b)])) rfl (by rw [hml]; rfl) (argsL := [(.ref b), (.int (0 : Int32)), (.int (0 : Int32)), (.long (own_key q))]) (rest := []) (lenOf (d := "([JIIJ)I") (ps := [(.array .long), .int, .int, .long]) (r := some .int) (by decide +kernel) rfl) rfl (by show 2 * 0 + _ ≤ _; exact Nat.le_of_eq rfl) (hb hby d5_54) (fun _ _ => ⟨rfl, e3, (by decide : 0 + 0 ≤ _), (by decide : 0 + 0 ≤ _)⟩)
      dsimp only [Pt.U, Pt.locs, Pt.cells, Pt.slots] at X4 l4 y4 z4 st4 hQ4
      subst l4 y4 z4
      obtain ⟨rfl, N4q, e4⟩ := hQ4
      have N4 := Fr.app N0 N4q
      refine own_pre st4 ?_
      show OwnGoes p e below _ (T4.setTop (mkF m 57 #[.val (.ref ob), .val (.long q), .second, .val (.int (-2147483648 : Int32)), .unset] [(.int (-1 : Int32))]))
      refine own_pre (fun _ kz_ => XS.istore X4.here hx rfl (hb hby d5_57) rfl (l' := #[.val (.ref ob), .val (.long q), .second, .val (.int (-2147483648 : Int32)), .val (.int (-1 : Int32))]) rfl kz_) ?_
      show OwnGoes p e below _ (T4.setTop (mkF m 59 #[.val (.ref ob), .val (.long q), .second, .val (.int (-2147483648 : Int32)), .val (.int (-1 : Int32))] []))
      refine own_pre (fun _ kz_ => XS.iload X4.here hx rfl (hb hby d5_59) rfl kz_) ?_
      show OwnGoes p e below _ (T4.setTop (mkF m 61 #[.val (.ref ob), .val (.long q), .second, .val (.int (-2147483648 : Int32)), .val (.int (-1 : Int32))] [(.int (-1 : Int32))]))
      refine own_pre (fun _ kz_ => XS.ifYes X4.here hx rfl (pc0 := 61) (pc' := 69) rfl (hb hby d5_61) rfl ((if0 _ _).trans (tlt (by decide : (-1 : Int32) < (0 : Int32))).1) (by decide) (by decide) kz_) ?_
      show OwnGoes p e below _ (T4.setTop (mkF m 69 #[.val (.ref ob), .val (.long q), .second, .val (.int (-2147483648 : Int32)), .val (.int (-1 : Int32))] []))
      refine own_pre (fun _ kz_ => XS.iload X4.here hx rfl (hb hby d5_69) rfl kz_) ?_
      show OwnGoes p e below _ (T4.setTop (mkF m 71 #[.val (.ref ob), .val (.long q), .second, .val (.int (-2147483648 : Int32)), .val (.int (-1 : Int32))] [(.int (-1 : Int32))]))
      refine own_pre (fun _ kz_ => XS.ineg X4.here hx rfl (hb hby d5_71) rfl kz_) ?_
      show OwnGoes p e below _ (T4.setTop (mkF m 72 #[.val (.ref ob), .val (.long q), .second, .val (.int (-2147483648 : Int32)), .val (.int (-1 : Int32))] [(.int (-(-1 : Int32)))]))
      rw [show (-(-1 : Int32)) = (1 : Int32) from by decide]
      show OwnGoes p e below _ (T4.setTop (mkF m 72 #[.val (.ref ob), .val (.long q), .second, .val (.int (-2147483648 : Int32)), .val (.int (-1 : Int32))] [(.int (1 : Int32))]))
      refine own_pre (fun _ kz_ => XS.iconst X4.here hx rfl (hb hby d5_72) kz_) ?_
      show OwnGoes p e below _ (T4.setTop (mkF m 73 #[.val (.ref ob), .val (.long q), .second, .val (.int (-2147483648 : Int32)), .val (.int (-1 : Int32))] [(.int (1 : Int32)), (.int (1 : Int32))]))
      refine own_pre (fun _ kz_ => XS.isub X4.here hx rfl (hb hby d5_73) rfl kz_) ?_
      show OwnGoes p e below _ (T4.setTop (mkF m 74 #[.val (.ref ob), .val (.long q), .second, .val (.int (-2147483648 : Int32)), .val (.int (-1 : Int32))] [(.int ((1 : Int32) - (1 : Int32)))]))
      rw [show ((1 : Int32) - (1 : Int32)) = (0 : Int32) from by decide]
      show OwnGoes p e below _ (T4.setTop (mkF m 74 #[.val (.ref ob), .val (.long q), .second, .val (.int (-2147483648 : Int32)), .val (.int (-1 : Int32))] [(.int (0 : Int32))]))
      refine own_pre (fun _ kz_ => XS.istore X4.here hx rfl (hb hby d5_74) rfl (l' := #[.val (.ref ob), .val (.long q), .second, .val (.int (-2147483648 : Int32)), .val (.int (0 : Int32))]) rfl kz_) ?_
      show OwnGoes p e below _ (T4.setTop (mkF m 76 #[.val (.ref ob), .val (.long q), .second, .val (.int (-2147483648 : Int32)), .val (.int (0 : Int32))] []))
      refine own_pre (fun _ kz_ => XS.iload X4.here hx rfl (hb hby d5_76) rfl kz_) ?_
      show OwnGoes p e below _ (T4.setTop (mkF m 78 #[.val (.ref ob), .val (.long q), .second, .val (.int (-2147483648 : Int32)), .val (.int (0 : Int32))] [(.int (0 : Int32))]))
      refine own_pre (fun _ kz_ => XS.aloadN X4.here hx rfl (hb hby d5_78) rfl rfl kz_) ?_
      show OwnGoes p e below _ (T4.setTop (mkF m 79 #[.val (.ref ob), .val (.long q), .second, .val (.int (-2147483648 : Int32)), .val (.int (0 : Int32))] [(.ref ob), (.int (0 : Int32))]))
      obtain ⟨T5, X5, e5, st5⟩ := getF X4 hx hZ hown (host := "") (Or.inl (hw _ (List.mem_of_getElem? (i := 25) rfl))) Via.refl e4 F1 (g := (mkF m 79 #[.val (.ref ob), .val (.long q), .second, .val (.int (-2147483648 : Int32)), .val (.int (0 : Int32))] [(.ref ob), (.int (0 : Int32))])) rfl rfl (hb hby d5_79)
      refine own_pre st5 ?_
      show OwnGoes p e below _ (T5.setTop (mkF m 82 #[.val (.ref ob), .val (.long q), .second, .val (.int (-2147483648 : Int32)), .val (.int (0 : Int32))] [(.int (0 : Int32)), (.int (0 : Int32))]))
      refine own_pre (fun _ kz_ => XS.icmpYes X5.here hx rfl (pc0 := 82) (pc' := 109) rfl (hb hby d5_82) rfl (flt (by decide : ¬ ((0 : Int32) < (0 : Int32)))).2.1 (by decide) (by decide) kz_) ?_
      show OwnGoes p e below _ (T5.setTop (mkF m 109 #[.val (.ref ob), .val (.long q), .second, .val (.int (-2147483648 : Int32)), .val (.int (0 : Int32))] []))
      refine own_pre (fun _ kz_ => XS.iloadN X5.here hx rfl (hb hby d5_109) rfl kz_) ?_
      show OwnGoes p e below _ (T5.setTop (mkF m 110 #[.val (.ref ob), .val (.long q), .second, .val (.int (-2147483648 : Int32)), .val (.int (0 : Int32))] [(.int (-2147483648 : Int32))]))
      exact own_ret X5 hx Bd.returns (rfl) (Or.inl ⟨rfl, by simp, _, rfl⟩) Bd.notSynchronized (hb hby d5_110) ⟨rfl, N4, e5⟩ (by decide) (by decide)
  · refine own_pre (fun _ kz_ => XS.ifYes X0.here hx rfl (pc0 := 6) (pc' := 109) rfl (hb hby d5_6) rfl ((if0 _ _).trans (flt (fun qz_ => h6 ((lw_gt q (0 : Int64)).mp qz_))).2.2.2) (by decide) (by decide) kz_) ?_
    show OwnGoes p e below _ (s₁.setTop (mkF m 109 #[.val (.ref ob), .val (.long q), .second, .val (.int (-2147483648 : Int32)), .unset] []))
    refine own_pre (fun _ kz_ => XS.iloadN X0.here hx rfl (hb hby d5_109) rfl kz_) ?_
    show OwnGoes p e below _ (s₁.setTop (mkF m 110 #[.val (.ref ob), .val (.long q), .second, .val (.int (-2147483648 : Int32)), .unset] [(.int (-2147483648 : Int32))]))
    exact own_ret X0 hx Bd.returns (rfl) (Or.inl ⟨rfl, by simp, _, rfl⟩) Bd.notSynchronized (hb hby d5_110) ⟨rfl, N0, e0⟩ (by decide) (by decide)
set_option maxRecDepth 65536 in
set_option maxHeartbeats 40000000 in
theorem rmCO1 (l : Launch) (Z : State) (a0 : Array Value) (hw : ∀ d ∈ tables_1, d.before a0 Z = true) (ws : List Jvm.Cond) (ob : Addr) (q : Int64) (s_ : Int32) (x0 x1 : Int64) (h0 : Heap) (n0 : Nat) (Z0 : n0 ≤ h0.size) (I0 : OwnRC Z n0 h0 ob (1 : Int32) s_ x0 x1) :
    MetFree l (⟨"com/example/holdfast/holdfast/net/ReferencedClasses", "classOf", "(J)I"⟩ : MethodName) (head1 (Jvm.Cond.code (⟨"com/example/holdfast/holdfast/net/ReferencedClasses", "classOf", "(J)I"⟩ : MethodName) prog_71_method_4_code 5 (some .int) :: ws) ({ frames := 4, cells := 0, slots := 0, locals := 90 } : Room)) (fun a U => a = #[(.ref ob), (.long q)] ∧ Z.Warmed39 U.vm ∧ U.heap = h0) (fun _ _ _ _ _ => True) (fun _ Uw_ ow_ Ue_ => ∃ vw_ Lw_, ow_ = .returned vw_ ∧ QCO1 Z ob q x0 x1 h0 n0 vw_ Ue_.heap Lw_ ∧ FrameEnd Uw_ ow_ Ue_ Lw_ ({ frames := 4, cells := 0, slots := 0, locals := 90 } : Room).cells ({ frames := 4, cells := 0, slots := 0, locals := 90 } : Room).slots) := by
  refine MetFree.of_bodySF (plainFor_of_name (by first | (simp [plainName, overriddenIn]; done) | decide +kernel)) hisR ?_
  intro p e s m args below meth c s₁ Bd hml0 hP hK
  obtain ⟨rfl, hZ, hh⟩ := hP
  have hx := Bd.exec
  have hby := Bd.bytes
  have hml : c.maxLocals = 5 := hml0
  have hown : s.vm.findClass "com/example/holdfast/holdfast/net/ReferencedClasses" = some m.cls := findClass_of_methodNamed Bd.named
  have hnm := (name_of_methodNamed Bd.named Bd.method).1
  have X0 : Stand p l e ({ frames := 4, cells := 0, slots := 0, locals := 90 } : Room) s m #[(.ref ob), (.long q)] below meth c s₁ [] 0 0 := Stand.of_body Bd
  have e0 : s₁.heap = h0 := by rw [← hh, Bd.state]; rfl
  have N0 := Fr.nil n0
  have ef : entryFrame m #[(.ref ob), (.long q)] 5 = (mkF m 0 #[.val (.ref ob), .val (.long q), .second, .unset, .unset] []) := by first | (simp [entryFrame, mkF, argsToLocals, Value.category]; done) | rfl
  show OwnGoes p e below (fun ow_ Ue_ => ∃ vw_ Lw_, ow_ = .returned vw_ ∧ QCO1 Z ob q x0 x1 h0 n0 vw_ Ue_.heap Lw_ ∧ FrameEnd s ow_ Ue_ Lw_ ({ frames := 4, cells := 0, slots := 0, locals := 90 } : Room).cells ({ frames := 4, cells := 0, slots := 0, locals := 90 } : Room).slots) (s₁.setTop (entryFrame m #[(.ref ob), (.long q)] 5))
  refine own_pre (fun t k => castTop ef k) ?_
  obtain ⟨b, tl, Eo, F0, F1, F2, V, ht, g_ob, g_b, hne⟩ := I0
  show OwnGoes p e below _ (s₁.setTop (mkF m 0 #[.val (.ref ob), .val (.long q), .second, .unset, .unset] []))
  refine own_pre (fun _ kz_ => X0.ldcInt hx hown (mvT hZ (hw _ (List.mem_of_getElem? (i := 33) rfl))) (g := (mkF m 0 #[.val (.ref ob), .val (.long q), .second, .unset, .unset] [])) rfl (hb hby d5_0) _ kz_) ?_
  show OwnGoes p e below _ (s₁.setTop (mkF m 2 #[.val (.ref ob), .val (.long q), .second, .unset, .unset] [(.int (-2147483648 : Int32))]))
  refine own_pre (fun _ kz_ => XS.istoreN X0.here hx rfl (hb hby d5_2) rfl (l' := #[.val (.ref ob), .val (.long q), .second, .val (.int (-2147483648 : Int32)), .unset]) rfl kz_) ?_
  show OwnGoes p e below _ (s₁.setTop (mkF m 3 #[.val (.ref ob), .val (.long q), .second, .val (.int (-2147483648 : Int32)), .unset] []))
  refine own_pre (fun _ kz_ => XS.lloadN X0.here hx rfl (hb hby d5_3) rfl kz_) ?_
  show OwnGoes p e below _ (s₁.setTop (mkF m 4 #[.val (.ref ob), .val (.long q), .second, .val (.int (-2147483648 : Int32)), .unset] [(.long q)]))
  refine own_pre (fun _ kz_ => XS.lconst X0.here hx rfl (hb hby d5_4) kz_) ?_
  show OwnGoes p e below _ (s₁.setTop (mkF m 5 #[.val (.ref ob), .val (.long q), .second, .val (.int (-2147483648 : Int32)), .unset] [(.long (0 : Int64)), (.long q)]))
  refine own_pre (fun _ kz_ => XS.lcmp X0.here hx rfl (hb hby d5_5) rfl kz_) ?_
  show OwnGoes p e below _ (s₁.setTop (mkF m 6 #[.val (.ref ob), .val (.long q), .second, .val (.int (-2147483648 : Int32)), .unset] [(.int (lcmpW q (0 : Int64)))]))
  by_cases h6 : (0 : Int64) < q
  · refine own_pre (fun _ kz_ => XS.ifNo X0.here hx rfl (hb hby d5_6) rfl ((if0 _ _).trans (tlt ((lw_gt q (0 : Int64)).mpr h6)).2.2.2) kz_) ?_
    show OwnGoes p e below _ (s₁.setTop (mkF m 9 #[.val (.ref ob), .val (.long q), .second, .val (.int (-2147483648 : Int32)), .unset] []))
    refine own_pre (fun _ kz_ => XS.lloadN X0.here hx rfl (hb hby d5_9) rfl kz_) ?_
    show OwnGoes p e below _ (s₁.setTop (mkF m 10 #[.val (.ref ob), .val (.long q), .second, .val (.int (-2147483648 : Int32)), .unset] [(.long q)]))
    refine own_pre (fun _ kz_ => X0.ldc2Long hx hown (mvT hZ (hw _ (List.mem_of_getElem? (i := 24) rfl))) (g := (mkF m 10 #[.val (.ref ob), .val (.long q), .second, .val (.int (-2147483648 : Int32)), .unset] [(.long q)])) rfl (hb hby d5_10) _ kz_) ?_
    show OwnGoes p e below _ (s₁.setTop (mkF m 13 #[.val (.ref ob), .val (.long q), .second, .val (.int (-2147483648 : Int32)), .unset] [(.long (2147483647 : Int64)), (.long q)]))
    refine own_pre (fun _ kz_ => XS.lcmp X0.here hx rfl (hb hby d5_13) rfl kz_) ?_
    show OwnGoes p e below _ (s₁.setTop (mkF m 14 #[.val (.ref ob), .val (.long q), .second, .val (.int (-2147483648 : Int32)), .unset] [(.int (lcmpW q (2147483647 : Int64)))]))
    by_cases h14 : (2147483647 : Int64) < q
    · refine own_pre (fun _ kz_ => XS.ifYes X0.here hx rfl (pc0 := 14) (pc' := 109) rfl (hb hby d5_14) rfl ((if0 _ _).trans (tlt ((lw_gt q (2147483647 : Int64)).mpr h14)).2.2.1) (by decide) (by decide) kz_) ?_
      show OwnGoes p e below _ (s₁.setTop (mkF m 109 #[.val (.ref ob), .val (.long q), .second, .val (.int (-2147483648 : Int32)), .unset] []))
      refine own_pre (fun _ kz_ => XS.iloadN X0.here hx rfl (hb hby d5_109) rfl kz_) ?_
      show OwnGoes p e below _ (s₁.setTop (mkF m 110 #[.val (.ref ob), .val (.long q), .second, .val (.int (-2147483648 : Int32)), .unset] [(.int (-2147483648 : Int32))]))
      exact own_ret X0 hx Bd.returns (rfl) (Or.inl ⟨rfl, by simp, _, rfl⟩) Bd.notSynchronized (hb hby d5_110) ⟨by rw [own_rout (show ¬ own_in q from fun z => by first | exact h6 z.1 | exact z.2 h14)], N0, _, by rw [e0]; exact ⟨b, tl, Eo, F0, F1, F2, V, ht, g_ob, g_b, hne⟩⟩ (by decide) (by decide)
    · refine own_pre (fun _ kz_ => XS.ifNo X0.here hx rfl (hb hby d5_14) rfl ((if0 _ _).trans (flt (fun qz_ => h14 ((lw_gt q (2147483647 : Int64)).mp qz_))).2.2.1) kz_) ?_
      show OwnGoes p e below _ (s₁.setTop (mkF m 17 #[.val (.ref ob), .val (.long q), .second, .val (.int (-2147483648 : Int32)), .unset] []))
      refine own_pre (fun _ kz_ => XS.aloadN X0.here hx rfl (hb hby d5_17) rfl rfl kz_) ?_
      show OwnGoes p e below _ (s₁.setTop (mkF m 18 #[.val (.ref ob), .val (.long q), .second, .val (.int (-2147483648 : Int32)), .unset] [(.ref ob)]))
      obtain ⟨T1, X1, e1, st1⟩ := getF X0 hx hZ hown (host := "") (Or.inl (hw _ (List.mem_of_getElem? (i := 17) rfl))) Via.refl e0 F2 (g := (mkF m 18 #[.val (.ref ob), .val (.long q), .second, .val (.int (-2147483648 : Int32)), .unset] [(.ref ob)])) rfl rfl (hb hby d5_18)
      refine own_pre st1 ?_
      show OwnGoes p e below _ (T1.setTop (mkF m 21 #[.val (.ref ob), .val (.long q), .second, .val (.int (-2147483648 : Int32)), .unset] [(.int s_)]))
      by_cases h21 : s_ = (0 : Int32)
      · refine own_pre (fun _ kz_ => XS.ifNo X1.here hx rfl (hb hby d5_21) rfl ((if0 _ _).trans (teq h21).2) kz_) ?_
        show OwnGoes p e below _ (T1.setTop (mkF m 24 #[.val (.ref ob), .val (.long q), .second, .val (.int (-2147483648 : Int32)), .unset] []))
        refine own_pre (fun _ kz_ => XS.aloadN X1.here hx rfl (hb hby d5_24) rfl rfl kz_) ?_
        show OwnGoes p e below _ (T1.setTop (mkF m 25 #[.val (.ref ob), .val (.long q), .second, .val (.int (-2147483648 : Int32)), .unset] [(.ref ob)]))
        obtain ⟨T2, X2, e2, st2⟩ := getF X1 hx hZ hown (host := "") (Or.inl (hw _ (List.mem_of_getElem? (i := 15) rfl))) Via.refl e1 F0 (g := (mkF m 25 #[.val (.ref ob), .val (.long q), .second, .val (.int (-2147483648 : Int32)), .unset] [(.ref ob)])) rfl rfl (hb hby d5_25)
        refine own_pre st2 ?_
        show OwnGoes p e below _ (T2.setTop (mkF m 28 #[.val (.ref ob), .val (.long q), .second, .val (.int (-2147483648 : Int32)), .unset] [(.ref b)]))
        refine own_pre (fun _ kz_ => XS.iconst X2.here hx rfl (hb hby d5_28) kz_) ?_
        show OwnGoes p e below _ (T2.setTop (mkF m 29 #[.val (.ref ob), .val (.long q), .second, .val (.int (-2147483648 : Int32)), .unset] [(.int (0 : Int32)), (.ref b)]))
        refine own_pre (fun _ kz_ => XS.aloadN X2.here hx rfl (hb hby d5_29) rfl rfl kz_) ?_
        show OwnGoes p e below _ (T2.setTop (mkF m 30 #[.val (.ref ob), .val (.long q), .second, .val (.int (-2147483648 : Int32)), .unset] [(.ref ob), (.int (0 : Int32)), (.ref b)]))
        obtain ⟨T3, X3, e3, st3⟩ := getF X2 hx hZ hown (host := "") (Or.inl (hw _ (List.mem_of_getElem? (i := 25) rfl))) Via.refl e2 F1 (g := (mkF m 30 #[.val (.ref ob), .val (.long q), .second, .val (.int (-2147483648 : Int32)), .unset] [(.ref ob), (.int (0 : Int32)), (.ref b)])) rfl rfl (hb hby d5_30)
        refine own_pre st3 ?_
        show OwnGoes p e below _ (T3.setTop (mkF m 33 #[.val (.ref ob), .val (.long q), .second, .val (.int (-2147483648 : Int32)), .unset] [(.int (1 : Int32)), (.int (0 : Int32)), (.ref b)]))
        obtain ⟨_, _, ⟨T4, L4, k4, n4⟩, -, X4, ⟨Lc4, hQ4, l4, y4, z4⟩, st4⟩ := Jvm.LawKit.callS X3 hx (y := (⟨"java/util/Arrays", "sort", "([JII)V"⟩ : MethodName)) hown (mvT hZ (hw _ (List.mem_of_getElem? (i := 34) rfl))) (mvT hZ (hw _ (List.mem_of_getElem? (i := 35) rfl))) (mvT hZ (hw _ (List.mem_of_getElem? (i := 36) rfl))) (mvT hZ (hw _ (List.mem_of_getElem? (i := 37) rfl))) (by decide) (backOf (W := 0) (rmSo1 l Z a0 hw [] b x0 x1 tl h0 n0 Z0 V ht g_b) hZ (hw _ (List.mem_of_getElem? (i := 37) rfl)) (hw _ (List.mem_of_getElem? (i := 36) rfl)) (by decide) (by decide)) (g := (mkF m 33 #[.val (.ref ob), .val (.long q), .second, .val (.int (-2147483648 : Int32)), .unset] [(.int (1 : Int32)), (.int (0 : Int32)), (.ref b)])) rfl (by rw [hml]; rfl) (argsL := [(.ref b), (.int (0 : Int32)), (.int (1 : Int32))]) (rest := []) (lenOf (d := "([JII)V") (ps := [(.array .long), .int, .int]) (r := none) (by decide +kernel) rfl) rfl (by show 2 * 0 + _ ≤ _; exact Nat.le_of_eq rfl) (hb hby d5_33) (fun _ _ => ⟨rfl, e3, (by decide : 0 + 0 ≤ _), (by decide : 0 + 0 ≤ _)⟩)
        dsimp only [Pt.U, Pt.locs, Pt.cells, Pt.slots] at X4 l4 y4 z4 st4 hQ4
        subst l4 y4 z4
        obtain ⟨rfl, N4q, e4⟩ := hQ4
        have N4 := Fr.app N0 N4q
        refine own_pre st4 ?_
        show OwnGoes p e below _ (T4.setTop (mkF m 36 #[.val (.ref ob), .val (.long q), .second, .val (.int (-2147483648 : Int32)), .unset] []))
        refine own_pre (fun _ kz_ => XS.aloadN X4.here hx rfl (hb hby d5_36) rfl rfl kz_) ?_
        show OwnGoes p e below _ (T4.setTop (mkF m 37 #[.val (.ref ob), .val (.long q), .second, .val (.int (-2147483648 : Int32)), .unset] [(.ref ob)]))
        refine own_pre (fun _ kz_ => XS.iconst X4.here hx rfl (hb hby d5_37) kz_) ?_
        show OwnGoes p e below _ (T4.setTop (mkF m 38 #[.val (.ref ob), .val (.long q), .second, .val (.int (-2147483648 : Int32)), .unset] [(.int (1 : Int32)), (.ref ob)]))
        obtain ⟨T5, h5, X5, e5, W5, st5⟩ := putFN X4 hx hZ hown (hw _ (List.mem_of_getElem? (i := 17) rfl)) Via.refl e4 F2 Eo (Or.inl (hw _ (List.mem_of_getElem? (i := 18) rfl))) (hw _ (List.mem_of_getElem? (i := 6) rfl)) (ty := .boolean) (v' := (.int (1 : Int32))) (by decide) rfl rfl (g := (mkF m 38 #[.val (.ref ob), .val (.long q), .second, .val (.int (-2147483648 : Int32)), .unset] [(.int (1 : Int32)), (.ref ob)])) rfl rfl (hb hby d5_38)
        have f5_5 := Eo.wr W5
        have f5_4 := F0.other W5 (Or.inr (slot_ne (Or.inl (hw _ (List.mem_of_getElem? (i := 16) rfl))) (Or.inl (hw _ (List.mem_of_getElem? (i := 18) rfl))) (by decide) (t := (.array .long)) (t' := .boolean) (by decide) (by decide)))
        have f5_3 := F1.other W5 (Or.inr (slot_ne (Or.inl (hw _ (List.mem_of_getElem? (i := 26) rfl))) (Or.inl (hw _ (List.mem_of_getElem? (i := 18) rfl))) (by decide) (t := .int) (t' := .boolean) (by decide) (by decide)))
        have f5_1 := V.other W5 (Ne.symm hne)
        have K5 := ((Keep.refl h0 [ob, b])).wr W5 (Or.inl (List.mem_of_getElem? (i := 0) rfl))
        have Z5 := Nat.le_trans Z0 (Keep.of_wr W5).1
        have Fw5 := F2.same W5
        have N5 := Fr.snoc X5 N4 g_ob
        refine own_pre st5 ?_
        show OwnGoes p e below _ (T5.setTop (mkF m 41 #[.val (.ref ob), .val (.long q), .second, .val (.int (-2147483648 : Int32)), .unset] []))
        refine own_pre (fun _ kz_ => XS.aloadN X5.here hx rfl (hb hby d5_41) rfl rfl kz_) ?_
        show OwnGoes p e below _ (T5.setTop (mkF m 42 #[.val (.ref ob), .val (.long q), .second, .val (.int (-2147483648 : Int32)), .unset] [(.ref ob)]))
        obtain ⟨T6, X6, e6, st6⟩ := getF X5 hx hZ hown (host := "") (Or.inl (hw _ (List.mem_of_getElem? (i := 15) rfl))) Via.refl e5 f5_4 (g := (mkF m 42 #[.val (.ref ob), .val (.long q), .second, .val (.int (-2147483648 : Int32)), .unset] [(.ref ob)])) rfl rfl (hb hby d5_42)
        refine own_pre st6 ?_
        show OwnGoes p e below _ (T6.setTop (mkF m 45 #[.val (.ref ob), .val (.long q), .second, .val (.int (-2147483648 : Int32)), .unset] [(.ref b)]))
        refine own_pre (fun _ kz_ => XS.iconst X6.here hx rfl (hb hby d5_45) kz_) ?_
        show OwnGoes p e below _ (T6.setTop (mkF m 46 #[.val (.ref ob), .val (.long q), .second, .val (.int (-2147483648 : Int32)), .unset] [(.int (0 : Int32)), (.ref b)]))
        refine own_pre (fun _ kz_ => XS.aloadN X6.here hx rfl (hb hby d5_46) rfl rfl kz_) ?_
        show OwnGoes p e below _ (T6.setTop (mkF m 47 #[.val (.ref ob), .val (.long q), .second, .val (.int (-2147483648 : Int32)), .unset] [(.ref ob), (.int (0 : Int32)), (.ref b)]))
        obtain ⟨T7, X7, e7, st7⟩ := getF X6 hx hZ hown (host := "") (Or.inl (hw _ (List.mem_of_getElem? (i := 25) rfl))) Via.refl e6 f5_3 (g := (mkF m 47 #[.val (.ref ob), .val (.long q), .second, .val (.int (-2147483648 : Int32)), .unset] [(.ref ob), (.int (0 : Int32)), (.ref b)])) rfl rfl (hb hby d5_47)
        refine own_pre st7 ?_
        show OwnGoes p e below _ (T7.setTop (mkF m 50 #[.val (.ref ob), .val (.long q), .second, .val (.int (-2147483648 : Int32)), .unset] [(.int (1 : Int32)), (.int (0 : Int32)), (.ref b)]))
        refine own_pre (fun _ kz_ => XS.lloadN X7.here hx rfl (hb hby d5_50) rfl kz_) ?_
        show OwnGoes p e below _ (T7.setTop (mkF m 51 #[.val (.ref ob), .val (.long q), .second, .val (.int (-2147483648 : Int32)), .unset] [(.long q), (.int (1 : Int32)), (.int (0 : Int32)), (.ref b)]))
        refine own_pre (fun _ kz_ => XS.bipush X7.here hx rfl (hb hby d5_51) kz_) ?_
        show OwnGoes p e below _ (T7.setTop (mkF m 53 #[.val (.ref ob), .val (.long q), .second, .val (.int (-2147483648 : Int32)), .unset] [(.int (32 : Int32)), (.long q), (.int (1 : Int32)), (.int (0 : Int32)), (.ref b)]))
        refine own_pre (fun _ kz_ => XS.lshl X7.here hx rfl (hb hby d5_53) rfl kz_) ?_
        show OwnGoes p e below _ (T7.setTop (mkF m 54 #[.val (.ref ob), .val (.long q), .second, .val (.int (-2147483648 : Int32)), .unset] [(.long (own_key q)), (.int (1 : Int32)), (.int (0 : Int32)), (.ref b)]))
        obtain ⟨_, _, ⟨T8, L8, k8, n8⟩, -, X8, ⟨Lc8, hQ8, l8, y8, z8⟩, st8⟩ := Jvm.LawKit.callS X7 hx (y := (⟨"java/util/Arrays", "binarySearch", "([JIIJ)I"⟩ : MethodName)) hown (mvT hZ (hw _ (List.mem_of_getElem? (i := 51) rfl))) (mvT hZ (hw _ (List.mem_of_getElem? (i := 52) rfl))) (mvT hZ (hw _ (List.mem_of_getElem? (i := 36) rfl))) (mvT hZ (hw _ (List.mem_of_getElem? (i := 53) rfl))) (by decide) (backOf (W := 0) (rmBS1 l Z a0 hw [] b x0 x1 tl (own_key q) h5 n0 Z5 f5_1 ht g_b) hZ (hw _ (List.mem_of_getElem? (i := 53) rfl)) (hw _ (List.mem_of_getElem? (i := 36) rfl)) (by decide) (by decide)) (g := (mkF m 54 #[.val (.ref ob), .val (.long q), .second, .val (.int (-2147483648 : Int32)), .unset] [(.long (own_key q)), (.int (1 : Int32)), (.int (0 : Int32)), (.ref b)])) rfl (by rw [hml]; rfl) (argsL := [(.ref b), (.int (0 : Int32)), (.int (1 : Int32)), (.long (own_key q))]) (rest := []) (lenOf (d := "([JIIJ)I") (ps := [(.array .long), .int, .int, .long]) (r := some .int) (by decide +kernel) rfl) rfl (by show 2 * 0 + _ ≤ _; exact Nat.le_of_eq rfl) (hb hby d5_54) (fun _ _ => ⟨rfl, e7, (by decide : 0 + 0 ≤ _), (by decide : 0 + 0 ≤ _)⟩)
        dsimp only [Pt.U, Pt.locs, Pt.cells, Pt.slots] at X8 l8 y8 z8 st8 hQ8
        subst l8 y8 z8
        obtain ⟨rfl, N8q, e8⟩ := hQ8
        have N8 := Fr.app N5 N8q
        refine own_pre st8 ?_
        show OwnGoes p e below _ (T8.setTop (mkF m 57 #[.val (.ref ob), .val (.long q), .second, .val (.int (-2147483648 : Int32)), .unset] [(.int (own_bs x0 (own_key q)))]))
        obtain ⟨r_, hre, hr_⟩ : ∃ r_, own_bs x0 (own_key q) = r_ ∧ ((r_ = (-2 : Int32) ∧ x0 < own_key q) ∨ (r_ = (-1 : Int32) ∧ ¬ x0 < own_key q) ∨ (r_ = (0 : Int32) ∧ ¬ x0 < own_key q)) := own_bsc x0 (own_key q)
        rw [hre]
        rcases hr_ with ⟨rfl, hlt⟩ | ⟨rfl, hlt⟩ | ⟨rfl, hlt⟩
        · show OwnGoes p e below _ (T8.setTop (mkF m 57 #[.val (.ref ob), .val (.long q), .second, .val (.int (-2147483648 : Int32)), .unset] [(.int (-2 : Int32))]))
          refine own_pre (fun _ kz_ => XS.istore X8.here hx rfl (hb hby d5_57) rfl (l' := #[.val (.ref ob), .val (.long q), .second, .val (.int (-2147483648 : Int32)), .val (.int (-2 : Int32))]) rfl kz_) ?_
          show OwnGoes p e below _ (T8.setTop (mkF m 59 #[.val (.ref ob), .val (.long q), .second, .val (.int (-2147483648 : Int32)), .val (.int (-2 : Int32))] []))
          refine own_pre (fun _ kz_ => XS.iload X8.here hx rfl (hb hby d5_59) rfl kz_) ?_
          show OwnGoes p e below _ (T8.setTop (mkF m 61 #[.val (.ref ob), .val (.long q), .second, .val (.int (-2147483648 : Int32)), .val (.int (-2 : Int32))] [(.int (-2 : Int32))]))
          refine own_pre (fun _ kz_ => XS.ifYes X8.here hx rfl (pc0 := 61) (pc' := 69) rfl (hb hby d5_61) rfl ((if0 _ _).trans (tlt (by decide : (-2 : Int32) < (0 : Int32))).1) (by decide) (by decide) kz_) ?_
          show OwnGoes p e below _ (T8.setTop (mkF m 69 #[.val (.ref ob), .val (.long q), .second, .val (.int (-2147483648 : Int32)), .val (.int (-2 : Int32))] []))
          refine own_pre (fun _ kz_ => XS.iload X8.here hx rfl (hb hby d5_69) rfl kz_) ?_
          show OwnGoes p e below _ (T8.setTop (mkF m 71 #[.val (.ref ob), .val (.long q), .second, .val (.int (-2147483648 : Int32)), .val (.int (-2 : Int32))] [(.int (-2 : Int32))]))
          refine own_pre (fun _ kz_ => XS.ineg X8.here hx rfl (hb hby d5_71) rfl kz_) ?_
          show OwnGoes p e below _ (T8.setTop (mkF m 72 #[.val (.ref ob), .val (.long q), .second, .val (.int (-2147483648 : Int32)), .val (.int (-2 : Int32))] [(.int (-(-2 : Int32)))]))
          rw [show (-(-2 : Int32)) = (2 : Int32) from by decide]
          show OwnGoes p e below _ (T8.setTop (mkF m 72 #[.val (.ref ob), .val (.long q), .second, .val (.int (-2147483648 : Int32)), .val (.int (-2 : Int32))] [(.int (2 : Int32))]))
          refine own_pre (fun _ kz_ => XS.iconst X8.here hx rfl (hb hby d5_72) kz_) ?_
          show OwnGoes p e below _ (T8.setTop (mkF m 73 #[.val (.ref ob), .val (.long q), .second, .val (.int (-2147483648 : Int32)), .val (.int (-2 : Int32))] [(.int (1 : Int32)), (.int (2 : Int32))]))
          refine own_pre (fun _ kz_ => XS.isub X8.here hx rfl (hb hby d5_73) rfl kz_) ?_
          show OwnGoes p e below _ (T8.setTop (mkF m 74 #[.val (.ref ob), .val (.long q), .second, .val (.int (-2147483648 : Int32)), .val (.int (-2 : Int32))] [(.int ((2 : Int32) - (1 : Int32)))]))
          rw [show ((2 : Int32) - (1 : Int32)) = (1 : Int32) from by decide]
          show OwnGoes p e below _ (T8.setTop (mkF m 74 #[.val (.ref ob), .val (.long q), .second, .val (.int (-2147483648 : Int32)), .val (.int (-2 : Int32))] [(.int (1 : Int32))]))
          refine own_pre (fun _ kz_ => XS.istore X8.here hx rfl (hb hby d5_74) rfl (l' := #[.val (.ref ob), .val (.long q), .second, .val (.int (-2147483648 : Int32)), .val (.int (1 : Int32))]) rfl kz_) ?_
          show OwnGoes p e below _ (T8.setTop (mkF m 76 #[.val (.ref ob), .val (.long q), .second, .val (.int (-2147483648 : Int32)), .val (.int (1 : Int32))] []))
          refine own_pre (fun _ kz_ => XS.iload X8.here hx rfl (hb hby d5_76) rfl kz_) ?_
          show OwnGoes p e below _ (T8.setTop (mkF m 78 #[.val (.ref ob), .val (.long q), .second, .val (.int (-2147483648 : Int32)), .val (.int (1 : Int32))] [(.int (1 : Int32))]))
          refine own_pre (fun _ kz_ => XS.aloadN X8.here hx rfl (hb hby d5_78) rfl rfl kz_) ?_
          show OwnGoes p e below _ (T8.setTop (mkF m 79 #[.val (.ref ob), .val (.long q), .second, .val (.int (-2147483648 : Int32)), .val (.int (1 : Int32))] [(.ref ob), (.int (1 : Int32))]))
          obtain ⟨T9, X9, e9, st9⟩ := getF X8 hx hZ hown (host := "") (Or.inl (hw _ (List.mem_of_getElem? (i := 25) rfl))) Via.refl e8 f5_3 (g := (mkF m 79 #[.val (.ref ob), .val (.long q), .second, .val (.int (-2147483648 : Int32)), .val (.int (1 : Int32))] [(.ref ob), (.int (1 : Int32))])) rfl rfl (hb hby d5_79)
          refine own_pre st9 ?_
          show OwnGoes p e below _ (T9.setTop (mkF m 82 #[.val (.ref ob), .val (.long q), .second, .val (.int (-2147483648 : Int32)), .val (.int (1 : Int32))] [(.int (1 : Int32)), (.int (1 : Int32))]))
          refine own_pre (fun _ kz_ => XS.icmpYes X9.here hx rfl (pc0 := 82) (pc' := 109) rfl (hb hby d5_82) rfl (flt (by decide : ¬ ((1 : Int32) < (1 : Int32)))).2.1 (by decide) (by decide) kz_) ?_
          show OwnGoes p e below _ (T9.setTop (mkF m 109 #[.val (.ref ob), .val (.long q), .second, .val (.int (-2147483648 : Int32)), .val (.int (1 : Int32))] []))
          refine own_pre (fun _ kz_ => XS.iloadN X9.here hx rfl (hb hby d5_109) rfl kz_) ?_
          show OwnGoes p e below _ (T9.setTop (mkF m 110 #[.val (.ref ob), .val (.long q), .second, .val (.int (-2147483648 : Int32)), .val (.int (1 : Int32))] [(.int (-2147483648 : Int32))]))
          exact own_ret X9 hx Bd.returns (rfl) (Or.inl ⟨rfl, by simp, _, rfl⟩) Bd.notSynchronized (hb hby d5_110) ⟨by unfold own_r; rw [if_pos (show own_in q from ⟨h6, h14⟩), if_pos hlt], N8, _, by rw [e9]; exact ⟨b, tl, f5_5, f5_4, f5_3, Fw5, f5_1, ht, g_ob, g_b, hne⟩⟩ (by decide) (by decide)
        · show OwnGoes p e below _ (T8.setTop (mkF m 57 #[.val (.ref ob), .val (.long q), .second, .val (.int (-2147483648 : Int32)), .unset] [(.int (-1 : Int32))]))
          refine own_pre (fun _ kz_ => XS.istore X8.here hx rfl (hb hby d5_57) rfl (l' := #[.val (.ref ob), .val (.long q), .second, .val (.int (-2147483648 : Int32)), .val (.int (-1 : Int32))]) rfl kz_) ?_
          show OwnGoes p e below _ (T8.setTop (mkF m 59 #[.val (.ref ob), .val (.long q), .second, .val (.int (-2147483648 : Int32)), .val (.int (-1 : Int32))] []))
          refine own_pre (fun _ kz_ => XS.iload X8.here hx rfl (hb hby d5_59) rfl kz_) ?_
          show OwnGoes p e below _ (T8.setTop (mkF m 61 #[.val (.ref ob), .val (.long q), .second, .val (.int (-2147483648 : Int32)), .val (.int (-1 : Int32))] [(.int (-1 : Int32))]))
          refine own_pre (fun _ kz_ => XS.ifYes X8.here hx rfl (pc0 := 61) (pc' := 69) rfl (hb hby d5_61) rfl ((if0 _ _).trans (tlt (by decide : (-1 : Int32) < (0 : Int32))).1) (by decide) (by decide) kz_) ?_
          show OwnGoes p e below _ (T8.setTop (mkF m 69 #[.val (.ref ob), .val (.long q), .second, .val (.int (-2147483648 : Int32)), .val (.int (-1 : Int32))] []))
          refine own_pre (fun _ kz_ => XS.iload X8.here hx rfl (hb hby d5_69) rfl kz_) ?_
          show OwnGoes p e below _ (T8.setTop (mkF m 71 #[.val (.ref ob), .val (.long q), .second, .val (.int (-2147483648 : Int32)), .val (.int (-1 : Int32))] [(.int (-1 : Int32))]))
          refine own_pre (fun _ kz_ => XS.ineg X8.here hx rfl (hb hby d5_71) rfl kz_) ?_
          show OwnGoes p e below _ (T8.setTop (mkF m 72 #[.val (.ref ob), .val (.long q), .second, .val (.int (-2147483648 : Int32)), .val (.int (-1 : Int32))] [(.int (-(-1 : Int32)))]))
          rw [show (-(-1 : Int32)) = (1 : Int32) from by decide]
          show OwnGoes p e below _ (T8.setTop (mkF m 72 #[.val (.ref ob), .val (.long q), .second, .val (.int (-2147483648 : Int32)), .val (.int (-1 : Int32))] [(.int (1 : Int32))]))
          refine own_pre (fun _ kz_ => XS.iconst X8.here hx rfl (hb hby d5_72) kz_) ?_
          show OwnGoes p e below _ (T8.setTop (mkF m 73 #[.val (.ref ob), .val (.long q), .second, .val (.int (-2147483648 : Int32)), .val (.int (-1 : Int32))] [(.int (1 : Int32)), (.int (1 : Int32))]))
          refine own_pre (fun _ kz_ => XS.isub X8.here hx rfl (hb hby d5_73) rfl kz_) ?_
          show OwnGoes p e below _ (T8.setTop (mkF m 74 #[.val (.ref ob), .val (.long q), .second, .val (.int (-2147483648 : Int32)), .val (.int (-1 : Int32))] [(.int ((1 : Int32) - (1 : Int32)))]))
          rw [show ((1 : Int32) - (1 : Int32)) = (0 : Int32) from by decide]
          show OwnGoes p e below _ (T8.setTop (mkF m 74 #[.val (.ref ob), .val (.long q), .second, .val (.int (-2147483648 : Int32)), .val (.int (-1 : Int32))] [(.int (0 : Int32))]))
          refine own_pre (fun _ kz_ => XS.istore X8.here hx rfl (hb hby d5_74) rfl (l' := #[.val (.ref ob), .val (.long q), .second, .val (.int (-2147483648 : Int32)), .val (.int (0 : Int32))]) rfl kz_) ?_
          show OwnGoes p e below _ (T8.setTop (mkF m 76 #[.val (.ref ob), .val (.long q), .second, .val (.int (-2147483648 : Int32)), .val (.int (0 : Int32))] []))
          refine own_pre (fun _ kz_ => XS.iload X8.here hx rfl (hb hby d5_76) rfl kz_) ?_
          show OwnGoes p e below _ (T8.setTop (mkF m 78 #[.val (.ref ob), .val (.long q), .second, .val (.int (-2147483648 : Int32)), .val (.int (0 : Int32))] [(.int (0 : Int32))]))
          refine own_pre (fun _ kz_ => XS.aloadN X8.here hx rfl (hb hby d5_78) rfl rfl kz_) ?_
          show OwnGoes p e below _ (T8.setTop (mkF m 79 #[.val (.ref ob), .val (.long q), .second, .val (.int (-2147483648 : Int32)), .val (.int (0 : Int32))] [(.ref ob), (.int (0 : Int32))]))
          obtain ⟨T10, X10, e10, st10⟩ := getF X8 hx hZ hown (host := "") (Or.inl (hw _ (List.mem_of_getElem? (i := 25) rfl))) Via.refl e8 f5_3 (g := (mkF m 79 #[.val (.ref ob), .val (.long q), .second, .val (.int (-2147483648 : Int32)), .val (.int (0 : Int32))] [(.ref ob), (.int (0 : Int32))])) rfl rfl (hb hby d5_79)
          refine own_pre st10 ?_
          show OwnGoes p e below _ (T10.setTop (mkF m 82 #[.val (.ref ob), .val (.long q), .second, .val (.int (-2147483648 : Int32)), .val (.int (0 : Int32))] [(.int (1 : Int32)), (.int (0 : Int32))]))
          refine own_pre (fun _ kz_ => XS.icmpNo X10.here hx rfl (hb hby d5_82) rfl (tlt (by decide : (0 : Int32) < (1 : Int32))).2.1 kz_) ?_
          show OwnGoes p e below _ (T10.setTop (mkF m 85 #[.val (.ref ob), .val (.long q), .second, .val (.int (-2147483648 : Int32)), .val (.int (0 : Int32))] []))
          refine own_pre (fun _ kz_ => XS.aloadN X10.here hx rfl (hb hby d5_85) rfl rfl kz_) ?_
          show OwnGoes p e below _ (T10.setTop (mkF m 86 #[.val (.ref ob), .val (.long q), .second, .val (.int (-2147483648 : Int32)), .val (.int (0 : Int32))] [(.ref ob)]))
          obtain ⟨T11, X11, e11, st11⟩ := getF X10 hx hZ hown (host := "") (Or.inl (hw _ (List.mem_of_getElem? (i := 15) rfl))) Via.refl e10 f5_4 (g := (mkF m 86 #[.val (.ref ob), .val (.long q), .second, .val (.int (-2147483648 : Int32)), .val (.int (0 : Int32))] [(.ref ob)])) rfl rfl (hb hby d5_86)
          refine own_pre st11 ?_
          show OwnGoes p e below _ (T11.setTop (mkF m 89 #[.val (.ref ob), .val (.long q), .second, .val (.int (-2147483648 : Int32)), .val (.int (0 : Int32))] [(.ref b)]))
          refine own_pre (fun _ kz_ => XS.iload X11.here hx rfl (hb hby d5_89) rfl kz_) ?_
          show OwnGoes p e below _ (T11.setTop (mkF m 91 #[.val (.ref ob), .val (.long q), .second, .val (.int (-2147483648 : Int32)), .val (.int (0 : Int32))] [(.int (0 : Int32)), (.ref b)]))
          refine own_pre (own_lald X11 hx hZ e11 f5_1 (j := (0 : Int32)) (v := (.long x0)) (by decide) rfl (g := (mkF m 91 #[.val (.ref ob), .val (.long q), .second, .val (.int (-2147483648 : Int32)), .val (.int (0 : Int32))] [(.int (0 : Int32)), (.ref b)])) rfl rfl (hb hby d5_91)) ?_
          show OwnGoes p e below _ (T11.setTop (mkF m 92 #[.val (.ref ob), .val (.long q), .second, .val (.int (-2147483648 : Int32)), .val (.int (0 : Int32))] [(.long x0)]))
          refine own_pre (fun _ kz_ => XS.bipush X11.here hx rfl (hb hby d5_92) kz_) ?_
          show OwnGoes p e below _ (T11.setTop (mkF m 94 #[.val (.ref ob), .val (.long q), .second, .val (.int (-2147483648 : Int32)), .val (.int (0 : Int32))] [(.int (32 : Int32)), (.long x0)]))
          refine own_pre (fun _ kz_ => XS.lushr X11.here hx rfl (hb hby d5_94) rfl kz_) ?_
          show OwnGoes p e below _ (T11.setTop (mkF m 95 #[.val (.ref ob), .val (.long q), .second, .val (.int (-2147483648 : Int32)), .val (.int (0 : Int32))] [(.long (own_hi x0))]))
          refine own_pre (fun _ kz_ => XS.lloadN X11.here hx rfl (hb hby d5_95) rfl kz_) ?_
          show OwnGoes p e below _ (T11.setTop (mkF m 96 #[.val (.ref ob), .val (.long q), .second, .val (.int (-2147483648 : Int32)), .val (.int (0 : Int32))] [(.long q), (.long (own_hi x0))]))
          refine own_pre (fun _ kz_ => XS.lcmp X11.here hx rfl (hb hby d5_96) rfl kz_) ?_
          show OwnGoes p e below _ (T11.setTop (mkF m 97 #[.val (.ref ob), .val (.long q), .second, .val (.int (-2147483648 : Int32)), .val (.int (0 : Int32))] [(.int (lcmpW (own_hi x0) q))]))
          by_cases h97 : (own_hi x0) = q
          · refine own_pre (fun _ kz_ => XS.ifNo X11.here hx rfl (hb hby d5_97) rfl ((if0 _ _).trans (teq ((lw_eq (own_hi x0) q).mpr h97)).2) kz_) ?_
            show OwnGoes p e below _ (T11.setTop (mkF m 100 #[.val (.ref ob), .val (.long q), .second, .val (.int (-2147483648 : Int32)), .val (.int (0 : Int32))] []))
            refine own_pre (fun _ kz_ => XS.aloadN X11.here hx rfl (hb hby d5_100) rfl rfl kz_) ?_
            show OwnGoes p e below _ (T11.setTop (mkF m 101 #[.val (.ref ob), .val (.long q), .second, .val (.int (-2147483648 : Int32)), .val (.int (0 : Int32))] [(.ref ob)]))
            obtain ⟨T12, X12, e12, st12⟩ := getF X11 hx hZ hown (host := "") (Or.inl (hw _ (List.mem_of_getElem? (i := 15) rfl))) Via.refl e11 f5_4 (g := (mkF m 101 #[.val (.ref ob), .val (.long q), .second, .val (.int (-2147483648 : Int32)), .val (.int (0 : Int32))] [(.ref ob)])) rfl rfl (hb hby d5_101)
            refine own_pre st12 ?_
            show OwnGoes p e below _ (T12.setTop (mkF m 104 #[.val (.ref ob), .val (.long q), .second, .val (.int (-2147483648 : Int32)), .val (.int (0 : Int32))] [(.ref b)]))
            refine own_pre (fun _ kz_ => XS.iload X12.here hx rfl (hb hby d5_104) rfl kz_) ?_
            show OwnGoes p e below _ (T12.setTop (mkF m 106 #[.val (.ref ob), .val (.long q), .second, .val (.int (-2147483648 : Int32)), .val (.int (0 : Int32))] [(.int (0 : Int32)), (.ref b)]))
            refine own_pre (own_lald X12 hx hZ e12 f5_1 (j := (0 : Int32)) (v := (.long x0)) (by decide) rfl (g := (mkF m 106 #[.val (.ref ob), .val (.long q), .second, .val (.int (-2147483648 : Int32)), .val (.int (0 : Int32))] [(.int (0 : Int32)), (.ref b)])) rfl rfl (hb hby d5_106)) ?_
            show OwnGoes p e below _ (T12.setTop (mkF m 107 #[.val (.ref ob), .val (.long q), .second, .val (.int (-2147483648 : Int32)), .val (.int (0 : Int32))] [(.long x0)]))
            refine own_pre (fun _ kz_ => XS.l2i X12.here hx rfl (hb hby d5_107) rfl kz_) ?_
            show OwnGoes p e below _ (T12.setTop (mkF m 108 #[.val (.ref ob), .val (.long q), .second, .val (.int (-2147483648 : Int32)), .val (.int (0 : Int32))] [(.int (x0.toInt32))]))
            refine own_pre (fun _ kz_ => XS.istoreN X12.here hx rfl (hb hby d5_108) rfl (l' := #[.val (.ref ob), .val (.long q), .second, .val (.int (x0.toInt32)), .val (.int (0 : Int32))]) rfl kz_) ?_
            show OwnGoes p e below _ (T12.setTop (mkF m 109 #[.val (.ref ob), .val (.long q), .second, .val (.int (x0.toInt32)), .val (.int (0 : Int32))] []))
            refine own_pre (fun _ kz_ => XS.iloadN X12.here hx rfl (hb hby d5_109) rfl kz_) ?_
            show OwnGoes p e below _ (T12.setTop (mkF m 110 #[.val (.ref ob), .val (.long q), .second, .val (.int (x0.toInt32)), .val (.int (0 : Int32))] [(.int (x0.toInt32))]))
            exact own_ret X12 hx Bd.returns (rfl) (Or.inl ⟨rfl, by simp, _, rfl⟩) Bd.notSynchronized (hb hby d5_110) ⟨by unfold own_r; rw [if_pos (show own_in q from ⟨h6, h14⟩), if_neg hlt, if_pos h97], N8, _, by rw [e12]; exact ⟨b, tl, f5_5, f5_4, f5_3, Fw5, f5_1, ht, g_ob, g_b, hne⟩⟩ (by decide) (by decide)
          · refine own_pre (fun _ kz_ => XS.ifYes X11.here hx rfl (pc0 := 97) (pc' := 109) rfl (hb hby d5_97) rfl ((if0 _ _).trans (feq (fun qz_ => h97 ((lw_eq (own_hi x0) q).mp qz_))).2) (by decide) (by decide) kz_) ?_
            show OwnGoes p e below _ (T11.setTop (mkF m 109 #[.val (.ref ob), .val (.long q), .second, .val (.int (-2147483648 : Int32)), .val (.int (0 : Int32))] []))
            refine own_pre (fun _ kz_ => XS.iloadN X11.here hx rfl (hb hby d5_109) rfl kz_) ?_
            show OwnGoes p e below _ (T11.setTop (mkF m 110 #[.val (.ref ob), .val (.long q), .second, .val (.int (-2147483648 : Int32)), .val (.int (0 : Int32))] [(.int (-2147483648 : Int32))]))
            exact own_ret X11 hx Bd.returns (rfl) (Or.inl ⟨rfl, by simp, _, rfl⟩) Bd.notSynchronized (hb hby d5_110) ⟨by unfold own_r; rw [if_pos (show own_in q from ⟨h6, h14⟩), if_neg hlt, if_neg h97], N8, _, by rw [e11]; exact ⟨b, tl, f5_5, f5_4, f5_3, Fw5, f5_1, ht, g_ob, g_b, hne⟩⟩ (by decide) (by decide)
        · show OwnGoes p e below _ (T8.setTop (mkF m 57 #[.val (.ref ob), .val (.long q), .second, .val (.int (-2147483648 : Int32)), .unset] [(.int (0 : Int32))]))
          refine own_pre (fun _ kz_ => XS.istore X8.here hx rfl (hb hby d5_57) rfl (l' := #[.val (.ref ob), .val (.long q), .second, .val (.int (-2147483648 : Int32)), .val (.int (0 : Int32))]) rfl kz_) ?_
          show OwnGoes p e below _ (T8.setTop (mkF m 59 #[.val (.ref ob), .val (.long q), .second, .val (.int (-2147483648 : Int32)), .val (.int (0 : Int32))] []))
          refine own_pre (fun _ kz_ => XS.iload X8.here hx rfl (hb hby d5_59) rfl kz_) ?_
          show OwnGoes p e below _ (T8.setTop (mkF m 61 #[.val (.ref ob), .val (.long q), .second, .val (.int (-2147483648 : Int32)), .val (.int (0 : Int32))] [(.int (0 : Int32))]))
          refine own_pre (fun _ kz_ => XS.ifNo X8.here hx rfl (hb hby d5_61) rfl ((if0 _ _).trans (flt (by decide : ¬ ((0 : Int32) < (0 : Int32)))).1) kz_) ?_
          show OwnGoes p e below _ (T8.setTop (mkF m 64 #[.val (.ref ob), .val (.long q), .second, .val (.int (-2147483648 : Int32)), .val (.int (0 : Int32))] []))
          refine own_pre (fun _ kz_ => XS.iload X8.here hx rfl (hb hby d5_64) rfl kz_) ?_
          show OwnGoes p e below _ (T8.setTop (mkF m 66 #[.val (.ref ob), .val (.long q), .second, .val (.int (-2147483648 : Int32)), .val (.int (0 : Int32))] [(.int (0 : Int32))]))
          refine own_pre (fun _ kz_ => XS.goto X8.here hx rfl (pc0 := 66) (pc' := 74) rfl (hb hby d5_66) (by decide) (by decide) kz_) ?_
          show OwnGoes p e below _ (T8.setTop (mkF m 74 #[.val (.ref ob), .val (.long q), .second, .val (.int (-2147483648 : Int32)), .val (.int (0 : Int32))] [(.int (0 : Int32))]))
          refine own_pre (fun _ kz_ => XS.istore X8.here hx rfl (hb hby d5_74) rfl (l' := #[.val (.ref ob), .val (.long q), .second, .val (.int (-2147483648 : Int32)), .val (.int (0 : Int32))]) rfl kz_) ?_
          show OwnGoes p e below _ (T8.setTop (mkF m 76 #[.val (.ref ob), .val (.long q), .second, .val (.int (-2147483648 : Int32)), .val (.int (0 : Int32))] []))
          refine own_pre (fun _ kz_ => XS.iload X8.here hx rfl (hb hby d5_76) rfl kz_) ?_
          show OwnGoes p e below _ (T8.setTop (mkF m 78 #[.val (.ref ob), .val (.long q), .second, .val (.int (-2147483648 : Int32)), .val (.int (0 : Int32))] [(.int (0 : Int32))]))
          refine own_pre (fun _ kz_ => XS.aloadN X8.here hx rfl (hb hby d5_78) rfl rfl kz_) ?_
          show OwnGoes p e below _ (T8.setTop (mkF m 79 #[.val (.ref ob), .val (.long q), .second, .val (.int (-2147483648 : Int32)), .val (.int (0 : Int32))] [(.ref ob), (.int (0 : Int32))]))
          obtain ⟨T13, X13, e13, st13⟩ := getF X8 hx hZ hown (host := "") (Or.inl (hw _ (List.mem_of_getElem? (i := 25) rfl))) Via.refl e8 f5_3 (g := (mkF m 79 #[.val (.ref ob), .val (.long q), .second, .val (.int (-2147483648 : Int32)), .val (.int (0 : Int32))] [(.ref ob), (.int (0 : Int32))])) rfl rfl (hb hby d5_79)
          refine own_pre st13 ?_
          show OwnGoes p e below _ (T13.setTop (mkF m 82 #[.val (.ref ob), .val (.long q), .second, .val (.int (-2147483648 : Int32)), .val (.int (0 : Int32))] [(.int (1 : Int32)), (.int (0 : Int32))]))
          refine own_pre (fun _ kz_ => XS.icmpNo X13.here hx rfl (hb hby d5_82) rfl (tlt (by decide : (0 : Int32) < (1 : Int32))).2.1 kz_) ?_
          show OwnGoes p e below _ (T13.setTop (mkF m 85 #[.val (.ref ob), .val (.long q), .second, .val (.int (-2147483648 : Int32)), .val (.int (0 : Int32))] []))
          refine own_pre (fun _ kz_ => XS.aloadN X13.here hx rfl (hb hby d5_85) rfl rfl kz_) ?_
          show OwnGoes p e below _ (T13.setTop (mkF m 86 #[.val (.ref ob), .val (.long q), .second, .val (.int (-2147483648 : Int32)), .val (.int (0 : Int32))] [(.ref ob)]))
          obtain ⟨T14, X14, e14, st14⟩ := getF X13 hx hZ hown (host := "") (Or.inl (hw _ (List.mem_of_getElem? (i := 15) rfl))) Via.refl e13 f5_4 (g := (mkF m 86 #[.val (.ref ob), .val (.long q), .second, .val (.int (-2147483648 : Int32)), .val (.int (0 : Int32))] [(.ref ob)])) rfl rfl (hb hby d5_86)
          refine own_pre st14 ?_
          show OwnGoes p e below _ (T14.setTop (mkF m 89 #[.val (.ref ob), .val (.long q), .second, .val (.int (-2147483648 : Int32)), .val (.int (0 : Int32))] [(.ref b)]))
          refine own_pre (fun _ kz_ => XS.iload X14.here hx rfl (hb hby d5_89) rfl kz_) ?_
          show OwnGoes p e below _ (T14.setTop (mkF m 91 #[.val (.ref ob), .val (.long q), .second, .val (.int (-2147483648 : Int32)), .val (.int (0 : Int32))] [(.int (0 : Int32)), (.ref b)]))
          refine own_pre (own_lald X14 hx hZ e14 f5_1 (j := (0 : Int32)) (v := (.long x0)) (by decide) rfl (g := (mkF m 91 #[.val (.ref ob), .val (.long q), .second, .val (.int (-2147483648 : Int32)), .val (.int (0 : Int32))] [(.int (0 : Int32)), (.ref b)])) rfl rfl (hb hby d5_91)) ?_
          show OwnGoes p e below _ (T14.setTop (mkF m 92 #[.val (.ref ob), .val (.long q), .second, .val (.int (-2147483648 : Int32)), .val (.int (0 : Int32))] [(.long x0)]))
          refine own_pre (fun _ kz_ => XS.bipush X14.here hx rfl (hb hby d5_92) kz_) ?_
          show OwnGoes p e below _ (T14.setTop (mkF m 94 #[.val (.ref ob), .val (.long q), .second, .val (.int (-2147483648 : Int32)), .val (.int (0 : Int32))] [(.int (32 : Int32)), (.long x0)]))
          refine own_pre (fun _ kz_ => XS.lushr X14.here hx rfl (hb hby d5_94) rfl kz_) ?_
          show OwnGoes p e below _ (T14.setTop (mkF m 95 #[.val (.ref ob), .val (.long q), .second, .val (.int (-2147483648 : Int32)), .val (.int (0 : Int32))] [(.long (own_hi x0))]))
          refine own_pre (fun _ kz_ => XS.lloadN X14.here hx rfl (hb hby d5_95) rfl kz_) ?_
          show OwnGoes p e below _ (T14.setTop (mkF m 96 #[.val (.ref ob), .val (.long q), .second, .val (.int (-2147483648 : Int32)), .val (.int (0 : Int32))] [(.long q), (.long (own_hi x0))]))
          refine own_pre (fun _ kz_ => XS.lcmp X14.here hx rfl (hb hby d5_96) rfl kz_) ?_
          show OwnGoes p e below _ (T14.setTop (mkF m 97 #[.val (.ref ob), .val (.long q), .second, .val (.int (-2147483648 : Int32)), .val (.int (0 : Int32))] [(.int (lcmpW (own_hi x0) q))]))
          by_cases h97 : (own_hi x0) = q
          · refine own_pre (fun _ kz_ => XS.ifNo X14.here hx rfl (hb hby d5_97) rfl ((if0 _ _).trans (teq ((lw_eq (own_hi x0) q).mpr h97)).2) kz_) ?_
            show OwnGoes p e below _ (T14.setTop (mkF m 100 #[.val (.ref ob), .val (.long q), .second, .val (.int (-2147483648 : Int32)), .val (.int (0 : Int32))] []))
            refine own_pre (fun _ kz_ => XS.aloadN X14.here hx rfl (hb hby d5_100) rfl rfl kz_) ?_
            show OwnGoes p e below _ (T14.setTop (mkF m 101 #[.val (.ref ob), .val (.long q), .second, .val (.int (-2147483648 : Int32)), .val (.int (0 : Int32))] [(.ref ob)]))
            obtain ⟨T15, X15, e15, st15⟩ := getF X14 hx hZ hown (host := "") (Or.inl (hw _ (List.mem_of_getElem? (i := 15) rfl))) Via.refl e14 f5_4 (g := (mkF m 101 #[.val (.ref ob), .val (.long q), .second, .val (.int (-2147483648 : Int32)), .val (.int (0 : Int32))] [(.ref ob)])) rfl rfl (hb hby d5_101)
            refine own_pre st15 ?_
            show OwnGoes p e below _ (T15.setTop (mkF m 104 #[.val (.ref ob), .val (.long q), .second, .val (.int (-2147483648 : Int32)), .val (.int (0 : Int32))] [(.ref b)]))
            refine own_pre (fun _ kz_ => XS.iload X15.here hx rfl (hb hby d5_104) rfl kz_) ?_
            show OwnGoes p e below _ (T15.setTop (mkF m 106 #[.val (.ref ob), .val (.long q), .second, .val (.int (-2147483648 : Int32)), .val (.int (0 : Int32))] [(.int (0 : Int32)), (.ref b)]))
            refine own_pre (own_lald X15 hx hZ e15 f5_1 (j := (0 : Int32)) (v := (.long x0)) (by decide) rfl (g := (mkF m 106 #[.val (.ref ob), .val (.long q), .second, .val (.int (-2147483648 : Int32)), .val (.int (0 : Int32))] [(.int (0 : Int32)), (.ref b)])) rfl rfl (hb hby d5_106)) ?_
            show OwnGoes p e below _ (T15.setTop (mkF m 107 #[.val (.ref ob), .val (.long q), .second, .val (.int (-2147483648 : Int32)), .val (.int (0 : Int32))] [(.long x0)]))
            refine own_pre (fun _ kz_ => XS.l2i X15.here hx rfl (hb hby d5_107) rfl kz_) ?_
            show OwnGoes p e below _ (T15.setTop (mkF m 108 #[.val (.ref ob), .val (.long q), .second, .val (.int (-2147483648 : Int32)), .val (.int (0 : Int32))] [(.int (x0.toInt32))]))
            refine own_pre (fun _ kz_ => XS.istoreN X15.here hx rfl (hb hby d5_108) rfl (l' := #[.val (.ref ob), .val (.long q), .second, .val (.int (x0.toInt32)), .val (.int (0 : Int32))]) rfl kz_) ?_
            show OwnGoes p e below _ (T15.setTop (mkF m 109 #[.val (.ref ob), .val (.long q), .second, .val (.int (x0.toInt32)), .val (.int (0 : Int32))] []))
            refine own_pre (fun _ kz_ => XS.iloadN X15.here hx rfl (hb hby d5_109) rfl kz_) ?_
            show OwnGoes p e below _ (T15.setTop (mkF m 110 #[.val (.ref ob), .val (.long q), .second, .val (.int (x0.toInt32)), .val (.int (0 : Int32))] [(.int (x0.toInt32))]))
            exact own_ret X15 hx Bd.returns (rfl) (Or.inl ⟨rfl, by simp, _, rfl⟩) Bd.notSynchronized (hb hby d5_110) ⟨by unfold own_r; rw [if_pos (show own_in q from ⟨h6, h14⟩), if_neg hlt, if_pos h97], N8, _, by rw [e15]; exact ⟨b, tl, f5_5, f5_4, f5_3, Fw5, f5_1, ht, g_ob, g_b, hne⟩⟩ (by decide) (by decide)
          · refine own_pre (fun _ kz_ => XS.ifYes X14.here hx rfl (pc0 := 97) (pc' := 109) rfl (hb hby d5_97) rfl ((if0 _ _).trans (feq (fun qz_ => h97 ((lw_eq (own_hi x0) q).mp qz_))).2) (by decide) (by decide) kz_) ?_
            show OwnGoes p e below _ (T14.setTop (mkF m 109 #[.val (.ref ob), .val (.long q), .second, .val (.int (-2147483648 : Int32)), .val (.int (0 : Int32))] []))
            refine own_pre (fun _ kz_ => XS.iloadN X14.here hx rfl (hb hby d5_109) rfl kz_) ?_
            show OwnGoes p e below _ (T14.setTop (mkF m 110 #[.val (.ref ob), .val (.long q), .second, .val (.int (-2147483648 : Int32)), .val (.int (0 : Int32))] [(.int (-2147483648 : Int32))]))
            exact own_ret X14 hx Bd.returns (rfl) (Or.inl ⟨rfl, by simp, _, rfl⟩) Bd.notSynchronized (hb hby d5_110) ⟨by unfold own_r; rw [if_pos (show own_in q from ⟨h6, h14⟩), if_neg hlt, if_neg h97], N8, _, by rw [e14]; exact ⟨b, tl, f5_5, f5_4, f5_3, Fw5, f5_1, ht, g_ob, g_b, hne⟩⟩ (by decide) (by decide)
      · refine own_pre (fun _ kz_ => XS.ifYes X1.here hx rfl (pc0 := 21) (pc' := 41) rfl (hb hby d5_21) rfl ((if0 _ _).trans (feq h21).2) (by decide) (by decide) kz_) ?_
        show OwnGoes p e below _ (T1.setTop (mkF m 41 #[.val (.ref ob), .val (.long q), .second, .val (.int (-2147483648 : Int32)), .unset] []))
        refine own_pre (fun _ kz_ => XS.aloadN X1.here hx rfl (hb hby d5_41) rfl rfl kz_) ?_
        show OwnGoes p e below _ (T1.setTop (mkF m 42 #[.val (.ref ob), .val (.long q), .second, .val (.int (-2147483648 : Int32)), .unset] [(.ref ob)]))
        obtain ⟨T16, X16, e16, st16⟩ := getF X1 hx hZ hown (host := "") (Or.inl (hw _ (List.mem_of_getElem? (i := 15) rfl))) Via.refl e1 F0 (g := (mkF m 42 #[.val (.ref ob), .val (.long q), .second, .val (.int (-2147483648 : Int32)), .unset] [(.ref ob)])) rfl rfl (hb hby d5_42)
        refine own_pre st16 ?_
        show OwnGoes p e below _ (T16.setTop (mkF m 45 #[.val (.ref ob), .val (.long q), .second, .val (.int (-2147483648 : Int32)), .unset] [(.ref b)]))
        refine own_pre (fun _ kz_ => XS.iconst X16.here hx rfl (hb hby d5_45) kz_) ?_
        show OwnGoes p e below _ (T16.setTop (mkF m 46 #[.val (.ref ob), .val (.long q), .second, .val (.int (-2147483648 : Int32)), .unset] [(.int (0 : Int32)), (.ref b)]))
        refine own_pre (fun _ kz_ => XS.aloadN X16.here hx rfl (hb hby d5_46) rfl rfl kz_) ?_
        show OwnGoes p e below _ (T16.setTop (mkF m 47 #[.val (.ref ob), .val (.long q), .second, .val (.int (-2147483648 : Int32)), .unset] [(.ref ob), (.int (0 : Int32)), (.ref b)]))
        obtain ⟨T17, X17, e17, st17⟩ := getF X16 hx hZ hown (host := "") (Or.inl (hw _ (List.mem_of_getElem? (i := 25) rfl))) Via.refl e16 F1 (g := (mkF m 47 #[.val (.ref ob), .val (.long q), .second, .val (.int (-2147483648 : Int32)), .unset] [(.ref ob), (.int (0 : Int32)), (.ref b)])) rfl rfl (hb hby d5_47)
        refine own_pre st17 ?_
        show OwnGoes p e below _ (T17.setTop (mkF m 50 #[.val (.ref ob), .val (.long q), .second, .val (.int (-2147483648 : Int32)), .unset] [(.int (1 : Int32)), (.int (0 : Int32)), (.ref b)]))
        refine own_pre (fun _ kz_ => XS.lloadN X17.here hx rfl (hb hby d5_50) rfl kz_) ?_
        show OwnGoes p e below _ (T17.setTop (mkF m 51 #[.val (.ref ob), .val (.long q), .second, .val (.int (-2147483648 : Int32)), .unset] [(.long q), (.int (1 : Int32)), (.int (0 : Int32)), (.ref b)]))
        refine own_pre (fun _ kz_ => XS.bipush X17.here hx rfl (hb hby d5_51) kz_) ?_
        show OwnGoes p e below _ (T17.setTop (mkF m 53 #[.val (.ref ob), .val (.long q), .second, .val (.int (-2147483648 : Int32)), .unset] [(.int (32 : Int32)), (.long q), (.int (1 : Int32)), (.int (0 : Int32)), (.ref b)]))
        refine own_pre (fun _ kz_ => XS.lshl X17.here hx rfl (hb hby d5_53) rfl kz_) ?_
        show OwnGoes p e below _ (T17.setTop (mkF m 54 #[.val (.ref ob), .val (.long q), .second, .val (.int (-2147483648 : Int32)), .unset] [(.long (own_key q)), (.int (1 : Int32)), (.int (0 : Int32)), (.ref b)]))
        obtain ⟨_, _, ⟨T18, L18, k18, n18⟩, -, X18, ⟨Lc18, hQ18, l18, y18, z18⟩, st18⟩ := Jvm.LawKit.callS X17 hx (y := (⟨"java/util/Arrays", "binarySearch", "([JIIJ)I"⟩ : MethodName)) hown (mvT hZ (hw _ (List.mem_of_getElem? (i := 51) rfl))) (mvT hZ (hw _ (List.mem_of_getElem? (i := 52) rfl))) (mvT hZ (hw _ (List.mem_of_getElem? (i := 36) rfl))) (mvT hZ (hw _ (List.mem_of_getElem? (i := 53) rfl))) (by decide) (backOf (W := 0) (rmBS1 l Z a0 hw [] b x0 x1 tl (own_key q) h0 n0 Z0 V ht g_b) hZ (hw _ (List.mem_of_getElem? (i := 53) rfl)) (hw _ (List.mem_of_getElem? (i := 36) rfl)) (by decide) (by decide)) (g := (mkF m 54 #[.val (.ref ob), .val (.long q), .second, .val (.int (-2147483648 : Int32)), .unset] [(.long (own_key q)), (.int (1 : Int32)), (.int (0 : Int32)), (.ref b)])) rfl (by rw [hml]; rfl) (argsL := [(.ref b), (.int (0 : Int32)), (.int (1 : Int32)), (.long (own_key q))]) (rest := []) (lenOf (d := "([JIIJ)I") (ps := [(.array .long), .int, .int, .long]) (r := some .int) (by decide +kernel) rfl) rfl (by show 2 * 0 + _ ≤ _; exact Nat.le_of_eq rfl) (hb hby d5_54) (fun _ _ => ⟨rfl, e17, (by decide : 0 + 0 ≤ _), (by decide : 0 + 0 ≤ _)⟩)
        dsimp only [Pt.U, Pt.locs, Pt.cells, Pt.slots] at X18 l18 y18 z18 st18 hQ18
        subst l18 y18 z18
        obtain ⟨rfl, N18q, e18⟩ := hQ18
        have N18 := Fr.app N0 N18q
        refine own_pre st18 ?_
        show OwnGoes p e below _ (T18.setTop (mkF m 57 #[.val (.ref ob), .val (.long q), .second, .val (.int (-2147483648 : Int32)), .unset] [(.int (own_bs x0 (own_key q)))]))
        obtain ⟨r_, hre, hr_⟩ : ∃ r_, own_bs x0 (own_key q) = r_ ∧ ((r_ = (-2 : Int32) ∧ x0 < own_key q) ∨ (r_ = (-1 : Int32) ∧ ¬ x0 < own_key q) ∨ (r_ = (0 : Int32) ∧ ¬ x0 < own_key q)) := own_bsc x0 (own_key q)
        rw [hre]
        rcases hr_ with ⟨rfl, hlt⟩ | ⟨rfl, hlt⟩ | ⟨rfl, hlt⟩
        · show OwnGoes p e below _ (T18.setTop (mkF m 57 #[.val (.ref ob), .val (.long q), .second, .val (.int (-2147483648 : Int32)), .unset] [(.int (-2 : Int32))]))
          refine own_pre (fun _ kz_ => XS.istore X18.here hx rfl (hb hby d5_57) rfl (l' := #[.val (.ref ob), .val (.long q), .second, .val (.int (-2147483648 : Int32)), .val (.int (-2 : Int32))]) rfl kz_) ?_
          show OwnGoes p e below _ (T18.setTop (mkF m 59 #[.val (.ref ob), .val (.long q), .second, .val (.int (-2147483648 : Int32)), .val (.int (-2 : Int32))] []))
          refine own_pre (fun _ kz_ => XS.iload X18.here hx rfl (hb hby d5_59) rfl kz_) ?_
          show OwnGoes p e below _ (T18.setTop (mkF m 61 #[.val (.ref ob), .val (.long q), .second, .val (.int (-2147483648 : Int32)), .val (.int (-2 : Int32))] [(.int (-2 : Int32))]))
          refine own_pre (fun _ kz_ => XS.ifYes X18.here hx rfl (pc0 := 61) (pc' := 69) rfl (hb hby d5_61) rfl ((if0 _ _).trans (tlt (by decide : (-2 : Int32) < (0 : Int32))).1) (by decide) (by decide) kz_) ?_
          show OwnGoes p e below _ (T18.setTop (mkF m 69 #[.val (.ref ob), .val (.long q), .second, .val (.int (-2147483648 : Int32)), .val (.int (-2 : Int32))] []))
          refine own_pre (fun _ kz_ => XS.iload X18.here hx rfl (hb hby d5_69) rfl kz_) ?_
          show OwnGoes p e below _ (T18.setTop (mkF m 71 #[.val (.ref ob), .val (.long q), .second, .val (.int (-2147483648 : Int32)), .val (.int (-2 : Int32))] [(.int (-2 : Int32))]))
          refine own_pre (fun _ kz_ => XS.ineg X18.here hx rfl (hb hby d5_71) rfl kz_) ?_
          show OwnGoes p e below _ (T18.setTop (mkF m 72 #[.val (.ref ob), .val (.long q), .second, .val (.int (-2147483648 : Int32)), .val (.int (-2 : Int32))] [(.int (-(-2 : Int32)))]))
          rw [show (-(-2 : Int32)) = (2 : Int32) from by decide]
          show OwnGoes p e below _ (T18.setTop (mkF m 72 #[.val (.ref ob), .val (.long q), .second, .val (.int (-2147483648 : Int32)), .val (.int (-2 : Int32))] [(.int (2 : Int32))]))
          refine own_pre (fun _ kz_ => XS.iconst X18.here hx rfl (hb hby d5_72) kz_) ?_
          show OwnGoes p e below _ (T18.setTop (mkF m 73 #[.val (.ref ob), .val (.long q), .second, .val (.int (-2147483648 : Int32)), .val (.int (-2 : Int32))] [(.int (1 : Int32)), (.int (2 : Int32))]))
          refine own_pre (fun _ kz_ => XS.isub X18.here hx rfl (hb hby d5_73) rfl kz_) ?_
          show OwnGoes p e below _ (T18.setTop (mkF m 74 #[.val (.ref ob), .val (.long q), .second, .val (.int (-2147483648 : Int32)), .val (.int (-2 : Int32))] [(.int ((2 : Int32) - (1 : Int32)))]))
          rw [show ((2 : Int32) - (1 : Int32)) = (1 : Int32) from by decide]
          show OwnGoes p e below _ (T18.setTop (mkF m 74 #[.val (.ref ob), .val (.long q), .second, .val (.int (-2147483648 : Int32)), .val (.int (-2 : Int32))] [(.int (1 : Int32))]))
          refine own_pre (fun _ kz_ => XS.istore X18.here hx rfl (hb hby d5_74) rfl (l' := #[.val (.ref ob), .val (.long q), .second, .val (.int (-2147483648 : Int32)), .val (.int (1 : Int32))]) rfl kz_) ?_
          show OwnGoes p e below _ (T18.setTop (mkF m 76 #[.val (.ref ob), .val (.long q), .second, .val (.int (-2147483648 : Int32)), .val (.int (1 : Int32))] []))
          refine own_pre (fun _ kz_ => XS.iload X18.here hx rfl (hb hby d5_76) rfl kz_) ?_
          show OwnGoes p e below _ (T18.setTop (mkF m 78 #[.val (.ref ob), .val (.long q), .second, .val (.int (-2147483648 : Int32)), .val (.int (1 : Int32))] [(.int (1 : Int32))]))
          refine own_pre (fun _ kz_ => XS.aloadN X18.here hx rfl (hb hby d5_78) rfl rfl kz_) ?_
          show OwnGoes p e below _ (T18.setTop (mkF m 79 #[.val (.ref ob), .val (.long q), .second, .val (.int (-2147483648 : Int32)), .val (.int (1 : Int32))] [(.ref ob), (.int (1 : Int32))]))
          obtain ⟨T19, X19, e19, st19⟩ := getF X18 hx hZ hown (host := "") (Or.inl (hw _ (List.mem_of_getElem? (i := 25) rfl))) Via.refl e18 F1 (g := (mkF m 79 #[.val (.ref ob), .val (.long q), .second, .val (.int (-2147483648 : Int32)), .val (.int (1 : Int32))] [(.ref ob), (.int (1 : Int32))])) rfl rfl (hb hby d5_79)
          refine own_pre st19 ?_
          show OwnGoes p e below _ (T19.setTop (mkF m 82 #[.val (.ref ob), .val (.long q), .second, .val (.int (-2147483648 : Int32)), .val (.int (1 : Int32))] [(.int (1 : Int32)), (.int (1 : Int32))]))
          refine own_pre (fun _ kz_ => XS.icmpYes X19.here hx rfl (pc0 := 82) (pc' := 109) rfl (hb hby d5_82) rfl (flt (by decide : ¬ ((1 : Int32) < (1 : Int32)))).2.1 (by decide) (by decide) kz_) ?_
          show OwnGoes p e below _ (T19.setTop (mkF m 109 #[.val (.ref ob), .val (.long q), .second, .val (.int (-2147483648 : Int32)), .val (.int (1 : Int32))] []))
          refine own_pre (fun _ kz_ => XS.iloadN X19.here hx rfl (hb hby d5_109) rfl kz_) ?_
          show OwnGoes p e below _ (T19.setTop (mkF m 110 #[.val (.ref ob), .val (.long q), .second, .val (.int (-2147483648 : Int32)), .val (.int (1 : Int32))] [(.int (-2147483648 : Int32))]))
          exact own_ret X19 hx Bd.returns (rfl) (Or.inl ⟨rfl, by simp, _, rfl⟩) Bd.notSynchronized (hb hby d5_110) ⟨by unfold own_r; rw [if_pos (show own_in q from ⟨h6, h14⟩), if_pos hlt], N18, _, by rw [e19]; exact ⟨b, tl, Eo, F0, F1, F2, V, ht, g_ob, g_b, hne⟩⟩ (by decide) (by decide)
        · show OwnGoes p e below _ (T18.setTop (mkF m 57 #[.val (.ref ob), .val (.long q), .second, .val (.int (-2147483648 : Int32)), .unset] [(.int (-1 : Int32))]))
          refine own_pre (fun _ kz_ => XS.istore X18.here hx rfl (hb hby d5_57) rfl (l' := #[.val (.ref ob), .val (.long q), .second, .val (.int (-2147483648 : Int32)), .val (.int (-1 : Int32))]) rfl kz_) ?_
          show OwnGoes p e below _ (T18.setTop (mkF m 59 #[.val (.ref ob), .val (.long q), .second, .val (.int (-2147483648 : Int32)), .val (.int (-1 : Int32))] []))
          refine own_pre (fun _ kz_ => XS.iload X18.here hx rfl (hb hby d5_59) rfl kz_) ?_
          show OwnGoes p e below _ (T18.setTop (mkF m 61 #[.val (.ref ob), .val (.long q), .second, .val (.int (-2147483648 : Int32)), .val (.int (-1 : Int32))] [(.int (-1 : Int32))]))
          refine own_pre (fun _ kz_ => XS.ifYes X18.here hx rfl (pc0 := 61) (pc' := 69) rfl (hb hby d5_61) rfl ((if0 _ _).trans (tlt (by decide : (-1 : Int32) < (0 : Int32))).1) (by decide) (by decide) kz_) ?_
          show OwnGoes p e below _ (T18.setTop (mkF m 69 #[.val (.ref ob), .val (.long q), .second, .val (.int (-2147483648 : Int32)), .val (.int (-1 : Int32))] []))
          refine own_pre (fun _ kz_ => XS.iload X18.here hx rfl (hb hby d5_69) rfl kz_) ?_
          show OwnGoes p e below _ (T18.setTop (mkF m 71 #[.val (.ref ob), .val (.long q), .second, .val (.int (-2147483648 : Int32)), .val (.int (-1 : Int32))] [(.int (-1 : Int32))]))
          refine own_pre (fun _ kz_ => XS.ineg X18.here hx rfl (hb hby d5_71) rfl kz_) ?_
          show OwnGoes p e below _ (T18.setTop (mkF m 72 #[.val (.ref ob), .val (.long q), .second, .val (.int (-2147483648 : Int32)), .val (.int (-1 : Int32))] [(.int (-(-1 : Int32)))]))
          rw [show (-(-1 : Int32)) = (1 : Int32) from by decide]
          show OwnGoes p e below _ (T18.setTop (mkF m 72 #[.val (.ref ob), .val (.long q), .second, .val (.int (-2147483648 : Int32)), .val (.int (-1 : Int32))] [(.int (1 : Int32))]))
          refine own_pre (fun _ kz_ => XS.iconst X18.here hx rfl (hb hby d5_72) kz_) ?_
          show OwnGoes p e below _ (T18.setTop (mkF m 73 #[.val (.ref ob), .val (.long q), .second, .val (.int (-2147483648 : Int32)), .val (.int (-1 : Int32))] [(.int (1 : Int32)), (.int (1 : Int32))]))
          refine own_pre (fun _ kz_ => XS.isub X18.here hx rfl (hb hby d5_73) rfl kz_) ?_
          show OwnGoes p e below _ (T18.setTop (mkF m 74 #[.val (.ref ob), .val (.long q), .second, .val (.int (-2147483648 : Int32)), .val (.int (-1 : Int32))] [(.int ((1 : Int32) - (1 : Int32)))]))
          rw [show ((1 : Int32) - (1 : Int32)) = (0 : Int32) from by decide]
          show OwnGoes p e below _ (T18.setTop (mkF m 74 #[.val (.ref ob), .val (.long q), .second, .val (.int (-2147483648 : Int32)), .val (.int (-1 : Int32))] [(.int (0 : Int32))]))
          refine own_pre (fun _ kz_ => XS.istore X18.here hx rfl (hb hby d5_74) rfl (l' := #[.val (.ref ob), .val (.long q), .second, .val (.int (-2147483648 : Int32)), .val (.int (0 : Int32))]) rfl kz_) ?_
          show OwnGoes p e below _ (T18.setTop (mkF m 76 #[.val (.ref ob), .val (.long q), .second, .val (.int (-2147483648 : Int32)), .val (.int (0 : Int32))] []))
          refine own_pre (fun _ kz_ => XS.iload X18.here hx rfl (hb hby d5_76) rfl kz_) ?_
          show OwnGoes p e below _ (T18.setTop (mkF m 78 #[.val (.ref ob), .val (.long q), .second, .val (.int (-2147483648 : Int32)), .val (.int (0 : Int32))] [(.int (0 : Int32))]))
          refine own_pre (fun _ kz_ => XS.aloadN X18.here hx rfl (hb hby d5_78) rfl rfl kz_) ?_
          show OwnGoes p e below _ (T18.setTop (mkF m 79 #[.val (.ref ob), .val (.long q), .second, .val (.int (-2147483648 : Int32)), .val (.int (0 : Int32))] [(.ref ob), (.int (0 : Int32))]))
          obtain ⟨T20, X20, e20, st20⟩ := getF X18 hx hZ hown (host := "") (Or.inl (hw _ (List.mem_of_getElem? (i := 25) rfl))) Via.refl e18 F1 (g := (mkF m 79 #[.val (.ref ob), .val (.long q), .second, .val (.int (-2147483648 : Int32)), .val (.int (0 : Int32))] [(.ref ob), (.int (0 : Int32))])) rfl rfl (hb hby d5_79)
          refine own_pre st20 ?_
          show OwnGoes p e below _ (T20.setTop (mkF m 82 #[.val (.ref ob), .val (.long q), .second, .val (.int (-2147483648 : Int32)), .val (.int (0 : Int32))] [(.int (1 : Int32)), (.int (0 : Int32))]))
          refine own_pre (fun _ kz_ => XS.icmpNo X20.here hx rfl (hb hby d5_82) rfl (tlt (by decide : (0 : Int32) < (1 : Int32))).2.1 kz_) ?_
          show OwnGoes p e below _ (T20.setTop (mkF m 85 #[.val (.ref ob), .val (.long q), .second, .val (.int (-2147483648 : Int32)), .val (.int (0 : Int32))] []))
          refine own_pre (fun _ kz_ => XS.aloadN X20.here hx rfl (hb hby d5_85) rfl rfl kz_) ?_
          show OwnGoes p e below _ (T20.setTop (mkF m 86 #[.val (.ref ob), .val (.long q), .second, .val (.int (-2147483648 : Int32)), .val (.int (0 : Int32))] [(.ref ob)]))
          obtain ⟨T21, X21, e21, st21⟩ := getF X20 hx hZ hown (host := "") (Or.inl (hw _ (List.mem_of_getElem? (i := 15) rfl))) Via.refl e20 F0 (g := (mkF m 86 #[.val (.ref ob), .val (.long q), .second, .val (.int (-2147483648 : Int32)), .val (.int (0 : Int32))] [(.ref ob)])) rfl rfl (hb hby d5_86)
          refine own_pre st21 ?_
          show OwnGoes p e below _ (T21.setTop (mkF m 89 #[.val (.ref ob), .val (.long q), .second, .val (.int (-2147483648 : Int32)), .val (.int (0 : Int32))] [(.ref b)]))
          refine own_pre (fun _ kz_ => XS.iload X21.here hx rfl (hb hby d5_89) rfl kz_) ?_
          show OwnGoes p e below _ (T21.setTop (mkF m 91 #[.val (.ref ob), .val (.long q), .second, .val (.int (-2147483648 : Int32)), .val (.int (0 : Int32))] [(.int (0 : Int32)), (.ref b)]))
          refine own_pre (own_lald X21 hx hZ e21 V (j := (0 : Int32)) (v := (.long x0)) (by decide) rfl (g := (mkF m 91 #[.val (.ref ob), .val (.long q), .second, .val (.int (-2147483648 : Int32)), .val (.int (0 : Int32))] [(.int (0 : Int32)), (.ref b)])) rfl rfl (hb hby d5_91)) ?_
          show OwnGoes p e below _ (T21.setTop (mkF m 92 #[.val (.ref ob), .val (.long q), .second, .val (.int (-2147483648 : Int32)), .val (.int (0 : Int32))] [(.long x0)]))
          refine own_pre (fun _ kz_ => XS.bipush X21.here hx rfl (hb hby d5_92) kz_) ?_
          show OwnGoes p e below _ (T21.setTop (mkF m 94 #[.val (.ref ob), .val (.long q), .second, .val (.int (-2147483648 : Int32)), .val (.int (0 : Int32))] [(.int (32 : Int32)), (.long x0)]))
          refine own_pre (fun _ kz_ => XS.lushr X21.here hx rfl (hb hby d5_94) rfl kz_) ?_
          show OwnGoes p e below _ (T21.setTop (mkF m 95 #[.val (.ref ob), .val (.long q), .second, .val (.int (-2147483648 : Int32)), .val (.int (0 : Int32))] [(.long (own_hi x0))]))
          refine own_pre (fun _ kz_ => XS.lloadN X21.here hx rfl (hb hby d5_95) rfl kz_) ?_
          show OwnGoes p e below _ (T21.setTop (mkF m 96 #[.val (.ref ob), .val (.long q), .second, .val (.int (-2147483648 : Int32)), .val (.int (0 : Int32))] [(.long q), (.long (own_hi x0))]))
          refine own_pre (fun _ kz_ => XS.lcmp X21.here hx rfl (hb hby d5_96) rfl kz_) ?_
          show OwnGoes p e below _ (T21.setTop (mkF m 97 #[.val (.ref ob), .val (.long q), .second, .val (.int (-2147483648 : Int32)), .val (.int (0 : Int32))] [(.int (lcmpW (own_hi x0) q))]))
          by_cases h97 : (own_hi x0) = q
          · refine own_pre (fun _ kz_ => XS.ifNo X21.here hx rfl (hb hby d5_97) rfl ((if0 _ _).trans (teq ((lw_eq (own_hi x0) q).mpr h97)).2) kz_) ?_
            show OwnGoes p e below _ (T21.setTop (mkF m 100 #[.val (.ref ob), .val (.long q), .second, .val (.int (-2147483648 : Int32)), .val (.int (0 : Int32))] []))
            refine own_pre (fun _ kz_ => XS.aloadN X21.here hx rfl (hb hby d5_100) rfl rfl kz_) ?_
            show OwnGoes p e below _ (T21.setTop (mkF m 101 #[.val (.ref ob), .val (.long q), .second, .val (.int (-2147483648 : Int32)), .val (.int (0 : Int32))] [(.ref ob)]))
            obtain ⟨T22, X22, e22, st22⟩ := getF X21 hx hZ hown (host := "") (Or.inl (hw _ (List.mem_of_getElem? (i := 15) rfl))) Via.refl e21 F0 (g := (mkF m 101 #[.val (.ref ob), .val (.long q), .second, .val (.int (-2147483648 : Int32)), .val (.int (0 : Int32))] [(.ref ob)])) rfl rfl (hb hby d5_101)
            refine own_pre st22 ?_
            show OwnGoes p e below _ (T22.setTop (mkF m 104 #[.val (.ref ob), .val (.long q), .second, .val (.int (-2147483648 : Int32)), .val (.int (0 : Int32))] [(.ref b)]))
            refine own_pre (fun _ kz_ => XS.iload X22.here hx rfl (hb hby d5_104) rfl kz_) ?_
            show OwnGoes p e below _ (T22.setTop (mkF m 106 #[.val (.ref ob), .val (.long q), .second, .val (.int (-2147483648 : Int32)), .val (.int (0 : Int32))] [(.int (0 : Int32)), (.ref b)]))
            refine own_pre (own_lald X22 hx hZ e22 V (j := (0 : Int32)) (v := (.long x0)) (by decide) rfl (g := (mkF m 106 #[.val (.ref ob), .val (.long q), .second, .val (.int (-2147483648 : Int32)), .val (.int (0 : Int32))] [(.int (0 : Int32)), (.ref b)])) rfl rfl (hb hby d5_106)) ?_
            show OwnGoes p e below _ (T22.setTop (mkF m 107 #[.val (.ref ob), .val (.long q), .second, .val (.int (-2147483648 : Int32)), .val (.int (0 : Int32))] [(.long x0)]))
            refine own_pre (fun _ kz_ => XS.l2i X22.here hx rfl (hb hby d5_107) rfl kz_) ?_
            show OwnGoes p e below _ (T22.setTop (mkF m 108 #[.val (.ref ob), .val (.long q), .second, .val (.int (-2147483648 : Int32)), .val (.int (0 : Int32))] [(.int (x0.toInt32))]))
            refine own_pre (fun _ kz_ => XS.istoreN X22.here hx rfl (hb hby d5_108) rfl (l' := #[.val (.ref ob), .val (.long q), .second, .val (.int (x0.toInt32)), .val (.int (0 : Int32))]) rfl kz_) ?_
            show OwnGoes p e below _ (T22.setTop (mkF m 109 #[.val (.ref ob), .val (.long q), .second, .val (.int (x0.toInt32)), .val (.int (0 : Int32))] []))
            refine own_pre (fun _ kz_ => XS.iloadN X22.here hx rfl (hb hby d5_109) rfl kz_) ?_
            show OwnGoes p e below _ (T22.setTop (mkF m 110 #[.val (.ref ob), .val (.long q), .second, .val (.int (x0.toInt32)), .val (.int (0 : Int32))] [(.int (x0.toInt32))]))
            exact own_ret X22 hx Bd.returns (rfl) (Or.inl ⟨rfl, by simp, _, rfl⟩) Bd.notSynchronized (hb hby d5_110) ⟨by unfold own_r; rw [if_pos (show own_in q from ⟨h6, h14⟩), if_neg hlt, if_pos h97], N18, _, by rw [e22]; exact ⟨b, tl, Eo, F0, F1, F2, V, ht, g_ob, g_b, hne⟩⟩ (by decide) (by decide)
          · refine own_pre (fun _ kz_ => XS.ifYes X21.here hx rfl (pc0 := 97) (pc' := 109) rfl (hb hby d5_97) rfl ((if0 _ _).trans (feq (fun qz_ => h97 ((lw_eq (own_hi x0) q).mp qz_))).2) (by decide) (by decide) kz_) ?_
            show OwnGoes p e below _ (T21.setTop (mkF m 109 #[.val (.ref ob), .val (.long q), .second, .val (.int (-2147483648 : Int32)), .val (.int (0 : Int32))] []))
            refine own_pre (fun _ kz_ => XS.iloadN X21.here hx rfl (hb hby d5_109) rfl kz_) ?_
            show OwnGoes p e below _ (T21.setTop (mkF m 110 #[.val (.ref ob), .val (.long q), .second, .val (.int (-2147483648 : Int32)), .val (.int (0 : Int32))] [(.int (-2147483648 : Int32))]))
            exact own_ret X21 hx Bd.returns (rfl) (Or.inl ⟨rfl, by simp, _, rfl⟩) Bd.notSynchronized (hb hby d5_110) ⟨by unfold own_r; rw [if_pos (show own_in q from ⟨h6, h14⟩), if_neg hlt, if_neg h97], N18, _, by rw [e21]; exact ⟨b, tl, Eo, F0, F1, F2, V, ht, g_ob, g_b, hne⟩⟩ (by decide) (by decide)
        · show OwnGoes p e below _ (T18.setTop (mkF m 57 #[.val (.ref ob), .val (.long q), .second, .val (.int (-2147483648 : Int32)), .unset] [(.int (0 : Int32))]))
          refine own_pre (fun _ kz_ => XS.istore X18.here hx rfl (hb hby d5_57) rfl (l' := #[.val (.ref ob), .val (.long q), .second, .val (.int (-2147483648 : Int32)), .val (.int (0 : Int32))]) rfl kz_) ?_
          show OwnGoes p e below _ (T18.setTop (mkF m 59 #[.val (.ref ob), .val (.long q), .second, .val (.int (-2147483648 : Int32)), .val (.int (0 : Int32))] []))
          refine own_pre (fun _ kz_ => XS.iload X18.here hx rfl (hb hby d5_59) rfl kz_) ?_
          show OwnGoes p e below _ (T18.setTop (mkF m 61 #[.val (.ref ob), .val (.long q), .second, .val (.int (-2147483648 : Int32)), .val (.int (0 : Int32))] [(.int (0 : Int32))]))
          refine own_pre (fun _ kz_ => XS.ifNo X18.here hx rfl (hb hby d5_61) rfl ((if0 _ _).trans (flt (by decide : ¬ ((0 : Int32) < (0 : Int32)))).1) kz_) ?_
          show OwnGoes p e below _ (T18.setTop (mkF m 64 #[.val (.ref ob), .val (.long q), .second, .val (.int (-2147483648 : Int32)), .val (.int (0 : Int32))] []))
          refine own_pre (fun _ kz_ => XS.iload X18.here hx rfl (hb hby d5_64) rfl kz_) ?_
          show OwnGoes p e below _ (T18.setTop (mkF m 66 #[.val (.ref ob), .val (.long q), .second, .val (.int (-2147483648 : Int32)), .val (.int (0 : Int32))] [(.int (0 : Int32))]))
          refine own_pre (fun _ kz_ => XS.goto X18.here hx rfl (pc0 := 66) (pc' := 74) rfl (hb hby d5_66) (by decide) (by decide) kz_) ?_
          show OwnGoes p e below _ (T18.setTop (mkF m 74 #[.val (.ref ob), .val (.long q), .second, .val (.int (-2147483648 : Int32)), .val (.int (0 : Int32))] [(.int (0 : Int32))]))
          refine own_pre (fun _ kz_ => XS.istore X18.here hx rfl (hb hby d5_74) rfl (l' := #[.val (.ref ob), .val (.long q), .second, .val (.int (-2147483648 : Int32)), .val (.int (0 : Int32))]) rfl kz_) ?_
          show OwnGoes p e below _ (T18.setTop (mkF m 76 #[.val (.ref ob), .val (.long q), .second, .val (.int (-2147483648 : Int32)), .val (.int (0 : Int32))] []))
          refine own_pre (fun _ kz_ => XS.iload X18.here hx rfl (hb hby d5_76) rfl kz_) ?_
          show OwnGoes p e below _ (T18.setTop (mkF m 78 #[.val (.ref ob), .val (.long q), .second, .val (.int (-2147483648 : Int32)), .val (.int (0 : Int32))] [(.int (0 : Int32))]))
          refine own_pre (fun _ kz_ => XS.aloadN X18.here hx rfl (hb hby d5_78) rfl rfl kz_) ?_
          show OwnGoes p e below _ (T18.setTop (mkF m 79 #[.val (.ref ob), .val (.long q), .second, .val (.int (-2147483648 : Int32)), .val (.int (0 : Int32))] [(.ref ob), (.int (0 : Int32))]))
          obtain ⟨T23, X23, e23, st23⟩ := getF X18 hx hZ hown (host := "") (Or.inl (hw _ (List.mem_of_getElem? (i := 25) rfl))) Via.refl e18 F1 (g := (mkF m 79 #[.val (.ref ob), .val (.long q), .second, .val (.int (-2147483648 : Int32)), .val (.int (0 : Int32))] [(.ref ob), (.int (0 : Int32))])) rfl rfl (hb hby d5_79)
          refine own_pre st23 ?_
          show OwnGoes p e below _ (T23.setTop (mkF m 82 #[.val (.ref ob), .val (.long q), .second, .val (.int (-2147483648 : Int32)), .val (.int (0 : Int32))] [(.int (1 : Int32)), (.int (0 : Int32))]))
          refine own_pre (fun _ kz_ => XS.icmpNo X23.here hx rfl (hb hby d5_82) rfl (tlt (by decide : (0 : Int32) < (1 : Int32))).2.1 kz_) ?_
          show OwnGoes p e below _ (T23.setTop (mkF m 85 #[.val (.ref ob), .val (.long q), .second, .val (.int (-2147483648 : Int32)), .val (.int (0 : Int32))] []))
          refine own_pre (fun _ kz_ => XS.aloadN X23.here hx rfl (hb hby d5_85) rfl rfl kz_) ?_
          show OwnGoes p e below _ (T23.setTop (mkF m 86 #[.val (.ref ob), .val (.long q), .second, .val (.int (-2147483648 : Int32)), .val (.int (0 : Int32))] [(.ref ob)]))
          obtain ⟨T24, X24, e24, st24⟩ := getF X23 hx hZ hown (host := "") (Or.inl (hw _ (List.mem_of_getElem? (i := 15) rfl))) Via.refl e23 F0 (g := (mkF m 86 #[.val (.ref ob), .val (.long q), .second, .val (.int (-2147483648 : Int32)), .val (.int (0 : Int32))] [(.ref ob)])) rfl rfl (hb hby d5_86)
          refine own_pre st24 ?_
          show OwnGoes p e below _ (T24.setTop (mkF m 89 #[.val (.ref ob), .val (.long q), .second, .val (.int (-2147483648 : Int32)), .val (.int (0 : Int32))] [(.ref b)]))
          refine own_pre (fun _ kz_ => XS.iload X24.here hx rfl (hb hby d5_89) rfl kz_) ?_
          show OwnGoes p e below _ (T24.setTop (mkF m 91 #[.val (.ref ob), .val (.long q), .second, .val (.int (-2147483648 : Int32)), .val (.int (0 : Int32))] [(.int (0 : Int32)), (.ref b)]))
          refine own_pre (own_lald X24 hx hZ e24 V (j := (0 : Int32)) (v := (.long x0)) (by decide) rfl (g := (mkF m 91 #[.val (.ref ob), .val (.long q), .second, .val (.int (-2147483648 : Int32)), .val (.int (0 : Int32))] [(.int (0 : Int32)), (.ref b)])) rfl rfl (hb hby d5_91)) ?_
          show OwnGoes p e below _ (T24.setTop (mkF m 92 #[.val (.ref ob), .val (.long q), .second, .val (.int (-2147483648 : Int32)), .val (.int (0 : Int32))] [(.long x0)]))
          refine own_pre (fun _ kz_ => XS.bipush X24.here hx rfl (hb hby d5_92) kz_) ?_
          show OwnGoes p e below _ (T24.setTop (mkF m 94 #[.val (.ref ob), .val (.long q), .second, .val (.int (-2147483648 : Int32)), .val (.int (0 : Int32))] [(.int (32 : Int32)), (.long x0)]))
          refine own_pre (fun _ kz_ => XS.lushr X24.here hx rfl (hb hby d5_94) rfl kz_) ?_
          show OwnGoes p e below _ (T24.setTop (mkF m 95 #[.val (.ref ob), .val (.long q), .second, .val (.int (-2147483648 : Int32)), .val (.int (0 : Int32))] [(.long (own_hi x0))]))
          refine own_pre (fun _ kz_ => XS.lloadN X24.here hx rfl (hb hby d5_95) rfl kz_) ?_
          show OwnGoes p e below _ (T24.setTop (mkF m 96 #[.val (.ref ob), .val (.long q), .second, .val (.int (-2147483648 : Int32)), .val (.int (0 : Int32))] [(.long q), (.long (own_hi x0))]))
          refine own_pre (fun _ kz_ => XS.lcmp X24.here hx rfl (hb hby d5_96) rfl kz_) ?_
          show OwnGoes p e below _ (T24.setTop (mkF m 97 #[.val (.ref ob), .val (.long q), .second, .val (.int (-2147483648 : Int32)), .val (.int (0 : Int32))] [(.int (lcmpW (own_hi x0) q))]))
          by_cases h97 : (own_hi x0) = q
          · refine own_pre (fun _ kz_ => XS.ifNo X24.here hx rfl (hb hby d5_97) rfl ((if0 _ _).trans (teq ((lw_eq (own_hi x0) q).mpr h97)).2) kz_) ?_
            show OwnGoes p e below _ (T24.setTop (mkF m 100 #[.val (.ref ob), .val (.long q), .second, .val (.int (-2147483648 : Int32)), .val (.int (0 : Int32))] []))
            refine own_pre (fun _ kz_ => XS.aloadN X24.here hx rfl (hb hby d5_100) rfl rfl kz_) ?_
            show OwnGoes p e below _ (T24.setTop (mkF m 101 #[.val (.ref ob), .val (.long q), .second, .val (.int (-2147483648 : Int32)), .val (.int (0 : Int32))] [(.ref ob)]))
            obtain ⟨T25, X25, e25, st25⟩ := getF X24 hx hZ hown (host := "") (Or.inl (hw _ (List.mem_of_getElem? (i := 15) rfl))) Via.refl e24 F0 (g := (mkF m 101 #[.val (.ref ob), .val (.long q), .second, .val (.int (-2147483648 : Int32)), .val (.int (0 : Int32))] [(.ref ob)])) rfl rfl (hb hby d5_101)
            refine own_pre st25 ?_
            show OwnGoes p e below _ (T25.setTop (mkF m 104 #[.val (.ref ob), .val (.long q), .second, .val (.int (-2147483648 : Int32)), .val (.int (0 : Int32))] [(.ref b)]))
            refine own_pre (fun _ kz_ => XS.iload X25.here hx rfl (hb hby d5_104) rfl kz_) ?_
            show OwnGoes p e below _ (T25.setTop (mkF m 106 #[.val (.ref ob), .val (.long q), .second, .val (.int (-2147483648 : Int32)), .val (.int (0 : Int32))] [(.int (0 : Int32)), (.ref b)]))
            refine own_pre (own_lald X25 hx hZ e25 V (j := (0 : Int32)) (v := (.long x0)) (by decide) rfl (g := (mkF m 106 #[.val (.ref ob), .val (.long q), .second, .val (.int (-2147483648 : Int32)), .val (.int (0 : Int32))] [(.int (0 : Int32)), (.ref b)])) rfl rfl (hb hby d5_106)) ?_
            show OwnGoes p e below _ (T25.setTop (mkF m 107 #[.val (.ref ob), .val (.long q), .second, .val (.int (-2147483648 : Int32)), .val (.int (0 : Int32))] [(.long x0)]))
            refine own_pre (fun _ kz_ => XS.l2i X25.here hx rfl (hb hby d5_107) rfl kz_) ?_
            show OwnGoes p e below _ (T25.setTop (mkF m 108 #[.val (.ref ob), .val (.long q), .second, .val (.int (-2147483648 : Int32)), .val (.int (0 : Int32))] [(.int (x0.toInt32))]))
            refine own_pre (fun _ kz_ => XS.istoreN X25.here hx rfl (hb hby d5_108) rfl (l' := #[.val (.ref ob), .val (.long q), .second, .val (.int (x0.toInt32)), .val (.int (0 : Int32))]) rfl kz_) ?_
            show OwnGoes p e below _ (T25.setTop (mkF m 109 #[.val (.ref ob), .val (.long q), .second, .val (.int (x0.toInt32)), .val (.int (0 : Int32))] []))
            refine own_pre (fun _ kz_ => XS.iloadN X25.here hx rfl (hb hby d5_109) rfl kz_) ?_
            show OwnGoes p e below _ (T25.setTop (mkF m 110 #[.val (.ref ob), .val (.long q), .second, .val (.int (x0.toInt32)), .val (.int (0 : Int32))] [(.int (x0.toInt32))]))
            exact own_ret X25 hx Bd.returns (rfl) (Or.inl ⟨rfl, by simp, _, rfl⟩) Bd.notSynchronized (hb hby d5_110) ⟨by unfold own_r; rw [if_pos (show own_in q from ⟨h6, h14⟩), if_neg hlt, if_pos h97], N18, _, by rw [e25]; exact ⟨b, tl, Eo, F0, F1, F2, V, ht, g_ob, g_b, hne⟩⟩ (by decide) (by decide)
          · refine own_pre (fun _ kz_ => XS.ifYes X24.here hx rfl (pc0 := 97) (pc' := 109) rfl (hb hby d5_97) rfl ((if0 _ _).trans (feq (fun qz_ => h97 ((lw_eq (own_hi x0) q).mp qz_))).2) (by decide) (by decide) kz_) ?_
            show OwnGoes p e below _ (T24.setTop (mkF m 109 #[.val (.ref ob), .val (.long q), .second, .val (.int (-2147483648 : Int32)), .val (.int (0 : Int32))] []))
            refine own_pre (fun _ kz_ => XS.iloadN X24.here hx rfl (hb hby d5_109) rfl kz_) ?_
            show OwnGoes p e below _ (T24.setTop (mkF m 110 #[.val (.ref ob), .val (.long q), .second, .val (.int (-2147483648 : Int32)), .val (.int (0 : Int32))] [(.int (-2147483648 : Int32))]))
            exact own_ret X24 hx Bd.returns (rfl) (Or.inl ⟨rfl, by simp, _, rfl⟩) Bd.notSynchronized (hb hby d5_110) ⟨by unfold own_r; rw [if_pos (show own_in q from ⟨h6, h14⟩), if_neg hlt, if_neg h97], N18, _, by rw [e24]; exact ⟨b, tl, Eo, F0, F1, F2, V, ht, g_ob, g_b, hne⟩⟩ (by decide) (by decide)
  · refine own_pre (fun _ kz_ => XS.ifYes X0.here hx rfl (pc0 := 6) (pc' := 109) rfl (hb hby d5_6) rfl ((if0 _ _).trans (flt (fun qz_ => h6 ((lw_gt q (0 : Int64)).mp qz_))).2.2.2) (by decide) (by decide) kz_) ?_
    show OwnGoes p e below _ (s₁.setTop (mkF m 109 #[.val (.ref ob), .val (.long q), .second, .val (.int (-2147483648 : Int32)), .unset] []))
    refine own_pre (fun _ kz_ => XS.iloadN X0.here hx rfl (hb hby d5_109) rfl kz_) ?_
    show OwnGoes p e below _ (s₁.setTop (mkF m 110 #[.val (.ref ob), .val (.long q), .second, .val (.int (-2147483648 : Int32)), .unset] [(.int (-2147483648 : Int32))]))
    exact own_ret X0 hx Bd.returns (rfl) (Or.inl ⟨rfl, by simp, _, rfl⟩) Bd.notSynchronized (hb hby d5_110) ⟨by rw [own_rout (show ¬ own_in q from fun z => by first | exact h6 z.1 | exact z.2 h14)], N0, _, by rw [e0]; exact ⟨b, tl, Eo, F0, F1, F2, V, ht, g_ob, g_b, hne⟩⟩ (by decide) (by decide)
set_option maxRecDepth 65536 in
set_option maxHeartbeats 40000000 in
theorem rmCO2 (l : Launch) (Z : State) (a0 : Array Value) (hw : ∀ d ∈ tables_1, d.before a0 Z = true) (ws : List Jvm.Cond) (ob : Addr) (q : Int64) (s_ : Int32) (x0 x1 : Int64) (h0 : Heap) (n0 : Nat) (Z0 : n0 ≤ h0.size) (I0 : OwnRC Z n0 h0 ob (2 : Int32) s_ x0 x1) :
    MetFree l (⟨"com/example/holdfast/holdfast/net/ReferencedClasses", "classOf", "(J)I"⟩ : MethodName) (head1 (Jvm.Cond.code (⟨"com/example/holdfast/holdfast/net/ReferencedClasses", "classOf", "(J)I"⟩ : MethodName) prog_71_method_4_code 5 (some .int) :: ws) ({ frames := 4, cells := 0, slots := 0, locals := 90 } : Room)) (fun a U => a = #[(.ref ob), (.long q)] ∧ Z.Warmed39 U.vm ∧ U.heap = h0) (fun _ _ _ _ _ => True) (fun _ Uw_ ow_ Ue_ => ∃ vw_ Lw_, ow_ = .returned vw_ ∧ QCO2 Z ob h0 n0 vw_ Ue_.heap Lw_ ∧ FrameEnd Uw_ ow_ Ue_ Lw_ ({ frames := 4, cells := 0, slots := 0, locals := 90 } : Room).cells ({ frames := 4, cells := 0, slots := 0, locals := 90 } : Room).slots) := by
  refine MetFree.of_bodySF (plainFor_of_name (by first | (simp [plainName, overriddenIn]; done) | decide +kernel)) hisR ?_
  intro p e s m args below meth c s₁ Bd hml0 hP hK
  obtain ⟨rfl, hZ, hh⟩ := hP
  have hx := Bd.exec
  have hby := Bd.bytes
  have hml : c.maxLocals = 5 := hml0
  have hown : s.vm.findClass "com/example/holdfast/holdfast/net/ReferencedClasses" = some m.cls := findClass_of_methodNamed Bd.named
  have hnm := (name_of_methodNamed Bd.named Bd.method).1
  have X0 : Stand p l e ({ frames := 4, cells := 0, slots := 0, locals := 90 } : Room) s m #[(.ref ob), (.long q)] below meth c s₁ [] 0 0 := Stand.of_body Bd
  have e0 : s₁.heap = h0 := by rw [← hh, Bd.state]; rfl
  have N0 := Fr.nil n0
  have ef : entryFrame m #[(.ref ob), (.long q)] 5 = (mkF m 0 #[.val (.ref ob), .val (.long q), .second, .unset, .unset] []) := by first | (simp [entryFrame, mkF, argsToLocals, Value.category]; done) | rfl
  show OwnGoes p e below (fun ow_ Ue_ => ∃ vw_ Lw_, ow_ = .returned vw_ ∧ QCO2 Z ob h0 n0 vw_ Ue_.heap Lw_ ∧ FrameEnd s ow_ Ue_ Lw_ ({ frames := 4, cells := 0, slots := 0, locals := 90 } : Room).cells ({ frames := 4, cells := 0, slots := 0, locals := 90 } : Room).slots) (s₁.setTop (entryFrame m #[(.ref ob), (.long q)] 5))
  refine own_pre (fun t k => castTop ef k) ?_
  obtain ⟨b, tl, Eo, F0, F1, F2, V, ht, g_ob, g_b, hne⟩ := I0
  show OwnGoes p e below _ (s₁.setTop (mkF m 0 #[.val (.ref ob), .val (.long q), .second, .unset, .unset] []))
  refine own_pre (fun _ kz_ => X0.ldcInt hx hown (mvT hZ (hw _ (List.mem_of_getElem? (i := 33) rfl))) (g := (mkF m 0 #[.val (.ref ob), .val (.long q), .second, .unset, .unset] [])) rfl (hb hby d5_0) _ kz_) ?_
  show OwnGoes p e below _ (s₁.setTop (mkF m 2 #[.val (.ref ob), .val (.long q), .second, .unset, .unset] [(.int (-2147483648 : Int32))]))
  refine own_pre (fun _ kz_ => XS.istoreN X0.here hx rfl (hb hby d5_2) rfl (l' := #[.val (.ref ob), .val (.long q), .second, .val (.int (-2147483648 : Int32)), .unset]) rfl kz_) ?_
  show OwnGoes p e below _ (s₁.setTop (mkF m 3 #[.val (.ref ob), .val (.long q), .second, .val (.int (-2147483648 : Int32)), .unset] []))
  refine own_pre (fun _ kz_ => XS.lloadN X0.here hx rfl (hb hby d5_3) rfl kz_) ?_
  show OwnGoes p e below _ (s₁.setTop (mkF m 4 #[.val (.ref ob), .val (.long q), .second, .val (.int (-2147483648 : Int32)), .unset] [(.long q)]))
  refine own_pre (fun _ kz_ => XS.lconst X0.here hx rfl (hb hby d5_4) kz_) ?_
  show OwnGoes p e below _ (s₁.setTop (mkF m 5 #[.val (.ref ob), .val (.long q), .second, .val (.int (-2147483648 : Int32)), .unset] [(.long (0 : Int64)), (.long q)]))
  refine own_pre (fun _ kz_ => XS.lcmp X0.here hx rfl (hb hby d5_5) rfl kz_) ?_
  show OwnGoes p e below _ (s₁.setTop (mkF m 6 #[.val (.ref ob), .val (.long q), .second, .val (.int (-2147483648 : Int32)), .unset] [(.int (lcmpW q (0 : Int64)))]))
  by_cases h6 : (0 : Int64) < q
  · refine own_pre (fun _ kz_ => XS.ifNo X0.here hx rfl (hb hby d5_6) rfl ((if0 _ _).trans (tlt ((lw_gt q (0 : Int64)).mpr h6)).2.2.2) kz_) ?_
    show OwnGoes p e below _ (s₁.setTop (mkF m 9 #[.val (.ref ob), .val (.long q), .second, .val (.int (-2147483648 : Int32)), .unset] []))
    refine own_pre (fun _ kz_ => XS.lloadN X0.here hx rfl (hb hby d5_9) rfl kz_) ?_
    show OwnGoes p e below _ (s₁.setTop (mkF m 10 #[.val (.ref ob), .val (.long q), .second, .val (.int (-2147483648 : Int32)), .unset] [(.long q)]))
    refine own_pre (fun _ kz_ => X0.ldc2Long hx hown (mvT hZ (hw _ (List.mem_of_getElem? (i := 24) rfl))) (g := (mkF m 10 #[.val (.ref ob), .val (.long q), .second, .val (.int (-2147483648 : Int32)), .unset] [(.long q)])) rfl (hb hby d5_10) _ kz_) ?_
    show OwnGoes p e below _ (s₁.setTop (mkF m 13 #[.val (.ref ob), .val (.long q), .second, .val (.int (-2147483648 : Int32)), .unset] [(.long (2147483647 : Int64)), (.long q)]))
    refine own_pre (fun _ kz_ => XS.lcmp X0.here hx rfl (hb hby d5_13) rfl kz_) ?_
    show OwnGoes p e below _ (s₁.setTop (mkF m 14 #[.val (.ref ob), .val (.long q), .second, .val (.int (-2147483648 : Int32)), .unset] [(.int (lcmpW q (2147483647 : Int64)))]))
    by_cases h14 : (2147483647 : Int64) < q
    · refine own_pre (fun _ kz_ => XS.ifYes X0.here hx rfl (pc0 := 14) (pc' := 109) rfl (hb hby d5_14) rfl ((if0 _ _).trans (tlt ((lw_gt q (2147483647 : Int64)).mpr h14)).2.2.1) (by decide) (by decide) kz_) ?_
      show OwnGoes p e below _ (s₁.setTop (mkF m 109 #[.val (.ref ob), .val (.long q), .second, .val (.int (-2147483648 : Int32)), .unset] []))
      refine own_pre (fun _ kz_ => XS.iloadN X0.here hx rfl (hb hby d5_109) rfl kz_) ?_
      show OwnGoes p e below _ (s₁.setTop (mkF m 110 #[.val (.ref ob), .val (.long q), .second, .val (.int (-2147483648 : Int32)), .unset] [(.int (-2147483648 : Int32))]))
      exact own_ret X0 hx Bd.returns (rfl) (Or.inl ⟨rfl, by simp, _, rfl⟩) Bd.notSynchronized (hb hby d5_110) ⟨_, rfl, N0, _, _, _, by rw [e0]; exact ⟨b, tl, Eo, F0, F1, F2, V, ht, g_ob, g_b, hne⟩⟩ (by decide) (by decide)
    · refine own_pre (fun _ kz_ => XS.ifNo X0.here hx rfl (hb hby d5_14) rfl ((if0 _ _).trans (flt (fun qz_ => h14 ((lw_gt q (2147483647 : Int64)).mp qz_))).2.2.1) kz_) ?_
      show OwnGoes p e below _ (s₁.setTop (mkF m 17 #[.val (.ref ob), .val (.long q), .second, .val (.int (-2147483648 : Int32)), .unset] []))
      refine own_pre (fun _ kz_ => XS.aloadN X0.here hx rfl (hb hby d5_17) rfl rfl kz_) ?_
      show OwnGoes p e below _ (s₁.setTop (mkF m 18 #[.val (.ref ob), .val (.long q), .second, .val (.int (-2147483648 : Int32)), .unset] [(.ref ob)]))
      obtain ⟨T1, X1, e1, st1⟩ := getF X0 hx hZ hown (host := "") (Or.inl (hw _ (List.mem_of_getElem? (i := 17) rfl))) Via.refl e0 F2 (g := (mkF m 18 #[.val (.ref ob), .val (.long q), .second, .val (.int (-2147483648 : Int32)), .unset] [(.ref ob)])) rfl rfl (hb hby d5_18)
      refine own_pre st1 ?_
      show OwnGoes p e below _ (T1.setTop (mkF m 21 #[.val (.ref ob), .val (.long q), .second, .val (.int (-2147483648 : Int32)), .unset] [(.int s_)]))
      by_cases h21 : s_ = (0 : Int32)
      · refine own_pre (fun _ kz_ => XS.ifNo X1.here hx rfl (hb hby d5_21) rfl ((if0 _ _).trans (teq h21).2) kz_) ?_
        show OwnGoes p e below _ (T1.setTop (mkF m 24 #[.val (.ref ob), .val (.long q), .second, .val (.int (-2147483648 : Int32)), .unset] []))
        refine own_pre (fun _ kz_ => XS.aloadN X1.here hx rfl (hb hby d5_24) rfl rfl kz_) ?_
        show OwnGoes p e below _ (T1.setTop (mkF m 25 #[.val (.ref ob), .val (.long q), .second, .val (.int (-2147483648 : Int32)), .unset] [(.ref ob)]))
        obtain ⟨T2, X2, e2, st2⟩ := getF X1 hx hZ hown (host := "") (Or.inl (hw _ (List.mem_of_getElem? (i := 15) rfl))) Via.refl e1 F0 (g := (mkF m 25 #[.val (.ref ob), .val (.long q), .second, .val (.int (-2147483648 : Int32)), .unset] [(.ref ob)])) rfl rfl (hb hby d5_25)
        refine own_pre st2 ?_
        show OwnGoes p e below _ (T2.setTop (mkF m 28 #[.val (.ref ob), .val (.long q), .second, .val (.int (-2147483648 : Int32)), .unset] [(.ref b)]))
        refine own_pre (fun _ kz_ => XS.iconst X2.here hx rfl (hb hby d5_28) kz_) ?_
        show OwnGoes p e below _ (T2.setTop (mkF m 29 #[.val (.ref ob), .val (.long q), .second, .val (.int (-2147483648 : Int32)), .unset] [(.int (0 : Int32)), (.ref b)]))
        refine own_pre (fun _ kz_ => XS.aloadN X2.here hx rfl (hb hby d5_29) rfl rfl kz_) ?_
        show OwnGoes p e below _ (T2.setTop (mkF m 30 #[.val (.ref ob), .val (.long q), .second, .val (.int (-2147483648 : Int32)), .unset] [(.ref ob), (.int (0 : Int32)), (.ref b)]))
        obtain ⟨T3, X3, e3, st3⟩ := getF X2 hx hZ hown (host := "") (Or.inl (hw _ (List.mem_of_getElem? (i := 25) rfl))) Via.refl e2 F1 (g := (mkF m 30 #[.val (.ref ob), .val (.long q), .second, .val (.int (-2147483648 : Int32)), .unset] [(.ref ob), (.int (0 : Int32)), (.ref b)])) rfl rfl (hb hby d5_30)
        refine own_pre st3 ?_
        show OwnGoes p e below _ (T3.setTop (mkF m 33 #[.val (.ref ob), .val (.long q), .second, .val (.int (-2147483648 : Int32)), .unset] [(.int (2 : Int32)), (.int (0 : Int32)), (.ref b)]))
        obtain ⟨_, _, ⟨T4, L4, k4, n4⟩, -, X4, ⟨Lc4, hQ4, l4, y4, z4⟩, st4⟩ := Jvm.LawKit.callS X3 hx (y := (⟨"java/util/Arrays", "sort", "([JII)V"⟩ : MethodName)) hown (mvT hZ (hw _ (List.mem_of_getElem? (i := 34) rfl))) (mvT hZ (hw _ (List.mem_of_getElem? (i := 35) rfl))) (mvT hZ (hw _ (List.mem_of_getElem? (i := 36) rfl))) (mvT hZ (hw _ (List.mem_of_getElem? (i := 37) rfl))) (by decide) (backOf (W := 0) (rmSo2 l Z a0 hw [] b x0 x1 tl h0 n0 Z0 V ht g_b) hZ (hw _ (List.mem_of_getElem? (i := 37) rfl)) (hw _ (List.mem_of_getElem? (i := 36) rfl)) (by decide) (by decide)) (g := (mkF m 33 #[.val (.ref ob), .val (.long q), .second, .val (.int (-2147483648 : Int32)), .unset] [(.int (2 : Int32)), (.int (0 : Int32)), (.ref b)])) rfl (by rw [hml]; rfl) (argsL := [(.ref b), (.int (0 : Int32)), (.int (2 : Int32))]) (rest := []) (lenOf (d := "([JII)V") (ps := [(.array .long), .int, .int]) (r := none) (by decide +kernel) rfl) rfl (by show 2 * 0 + _ ≤ _; exact Nat.le_of_eq rfl) (hb hby d5_33) (fun _ _ => ⟨rfl, e3, (by decide : 0 + 0 ≤ _), (by decide : 0 + 0 ≤ _)⟩)
        dsimp only [Pt.U, Pt.locs, Pt.cells, Pt.slots] at X4 l4 y4 z4 st4 hQ4
        subst l4 y4 z4
        obtain ⟨rfl, N4q, K4q, y0_, y1_, V4q⟩ := hQ4
        have N4 := Fr.app N0 N4q
        refine own_pre st4 ?_
        have f4_5 := Eo.keep K4q
        have f4_4 := F0.keep K4q (fun q => hne (List.mem_singleton.mp q))
        have f4_3 := F1.keep K4q (fun q => hne (List.mem_singleton.mp q))
        have f4_2 := F2.keep K4q (fun q => hne (List.mem_singleton.mp q))
        have Z4 := Nat.le_trans Z0 K4q.1
        have KK4 := ((Keep.refl h0 [ob, b])).trans K4q (fun x hx => by simp only [List.mem_cons, List.not_mem_nil, or_false] at hx; rcases hx with rfl <;> first | exact Or.inl (List.mem_of_getElem? (i := 0) rfl) | exact Or.inl (List.mem_of_getElem? (i := 1) rfl) )
        show OwnGoes p e below _ (T4.setTop (mkF m 36 #[.val (.ref ob), .val (.long q), .second, .val (.int (-2147483648 : Int32)), .unset] []))
        refine own_pre (fun _ kz_ => XS.aloadN X4.here hx rfl (hb hby d5_36) rfl rfl kz_) ?_
        show OwnGoes p e below _ (T4.setTop (mkF m 37 #[.val (.ref ob), .val (.long q), .second, .val (.int (-2147483648 : Int32)), .unset] [(.ref ob)]))
        refine own_pre (fun _ kz_ => XS.iconst X4.here hx rfl (hb hby d5_37) kz_) ?_
        show OwnGoes p e below _ (T4.setTop (mkF m 38 #[.val (.ref ob), .val (.long q), .second, .val (.int (-2147483648 : Int32)), .unset] [(.int (1 : Int32)), (.ref ob)]))
        obtain ⟨T5, h5, X5, e5, W5, st5⟩ := putFN X4 hx hZ hown (hw _ (List.mem_of_getElem? (i := 17) rfl)) Via.refl rfl f4_2 f4_5 (Or.inl (hw _ (List.mem_of_getElem? (i := 18) rfl))) (hw _ (List.mem_of_getElem? (i := 6) rfl)) (ty := .boolean) (v' := (.int (1 : Int32))) (by decide) rfl rfl (g := (mkF m 38 #[.val (.ref ob), .val (.long q), .second, .val (.int (-2147483648 : Int32)), .unset] [(.int (1 : Int32)), (.ref ob)])) rfl rfl (hb hby d5_38)
        have f5_5 := f4_5.wr W5
        have f5_4 := f4_4.other W5 (Or.inr (slot_ne (Or.inl (hw _ (List.mem_of_getElem? (i := 16) rfl))) (Or.inl (hw _ (List.mem_of_getElem? (i := 18) rfl))) (by decide) (t := (.array .long)) (t' := .boolean) (by decide) (by decide)))
        have f5_3 := f4_3.other W5 (Or.inr (slot_ne (Or.inl (hw _ (List.mem_of_getElem? (i := 26) rfl))) (Or.inl (hw _ (List.mem_of_getElem? (i := 18) rfl))) (by decide) (t := .int) (t' := .boolean) (by decide) (by decide)))
        have f5_1 := V4q.other W5 (Ne.symm hne)
        have K5 := (KK4).wr W5 (Or.inl (List.mem_of_getElem? (i := 0) rfl))
        have Z5 := Nat.le_trans Z4 (Keep.of_wr W5).1
        have Fw5 := f4_2.same W5
        have N5 := Fr.snoc X5 N4 g_ob
        refine own_pre st5 ?_
        show OwnGoes p e below _ (T5.setTop (mkF m 41 #[.val (.ref ob), .val (.long q), .second, .val (.int (-2147483648 : Int32)), .unset] []))
        refine own_pre (fun _ kz_ => XS.aloadN X5.here hx rfl (hb hby d5_41) rfl rfl kz_) ?_
        show OwnGoes p e below _ (T5.setTop (mkF m 42 #[.val (.ref ob), .val (.long q), .second, .val (.int (-2147483648 : Int32)), .unset] [(.ref ob)]))
        obtain ⟨T6, X6, e6, st6⟩ := getF X5 hx hZ hown (host := "") (Or.inl (hw _ (List.mem_of_getElem? (i := 15) rfl))) Via.refl e5 f5_4 (g := (mkF m 42 #[.val (.ref ob), .val (.long q), .second, .val (.int (-2147483648 : Int32)), .unset] [(.ref ob)])) rfl rfl (hb hby d5_42)
        refine own_pre st6 ?_
        show OwnGoes p e below _ (T6.setTop (mkF m 45 #[.val (.ref ob), .val (.long q), .second, .val (.int (-2147483648 : Int32)), .unset] [(.ref b)]))
        refine own_pre (fun _ kz_ => XS.iconst X6.here hx rfl (hb hby d5_45) kz_) ?_
        show OwnGoes p e below _ (T6.setTop (mkF m 46 #[.val (.ref ob), .val (.long q), .second, .val (.int (-2147483648 : Int32)), .unset] [(.int (0 : Int32)), (.ref b)]))
        refine own_pre (fun _ kz_ => XS.aloadN X6.here hx rfl (hb hby d5_46) rfl rfl kz_) ?_
        show OwnGoes p e below _ (T6.setTop (mkF m 47 #[.val (.ref ob), .val (.long q), .second, .val (.int (-2147483648 : Int32)), .unset] [(.ref ob), (.int (0 : Int32)), (.ref b)]))
        obtain ⟨T7, X7, e7, st7⟩ := getF X6 hx hZ hown (host := "") (Or.inl (hw _ (List.mem_of_getElem? (i := 25) rfl))) Via.refl e6 f5_3 (g := (mkF m 47 #[.val (.ref ob), .val (.long q), .second, .val (.int (-2147483648 : Int32)), .unset] [(.ref ob), (.int (0 : Int32)), (.ref b)])) rfl rfl (hb hby d5_47)
        refine own_pre st7 ?_
        show OwnGoes p e below _ (T7.setTop (mkF m 50 #[.val (.ref ob), .val (.long q), .second, .val (.int (-2147483648 : Int32)), .unset] [(.int (2 : Int32)), (.int (0 : Int32)), (.ref b)]))
        refine own_pre (fun _ kz_ => XS.lloadN X7.here hx rfl (hb hby d5_50) rfl kz_) ?_
        show OwnGoes p e below _ (T7.setTop (mkF m 51 #[.val (.ref ob), .val (.long q), .second, .val (.int (-2147483648 : Int32)), .unset] [(.long q), (.int (2 : Int32)), (.int (0 : Int32)), (.ref b)]))
        refine own_pre (fun _ kz_ => XS.bipush X7.here hx rfl (hb hby d5_51) kz_) ?_
        show OwnGoes p e below _ (T7.setTop (mkF m 53 #[.val (.ref ob), .val (.long q), .second, .val (.int (-2147483648 : Int32)), .unset] [(.int (32 : Int32)), (.long q), (.int (2 : Int32)), (.int (0 : Int32)), (.ref b)]))
        refine own_pre (fun _ kz_ => XS.lshl X7.here hx rfl (hb hby d5_53) rfl kz_) ?_
        show OwnGoes p e below _ (T7.setTop (mkF m 54 #[.val (.ref ob), .val (.long q), .second, .val (.int (-2147483648 : Int32)), .unset] [(.long (own_key q)), (.int (2 : Int32)), (.int (0 : Int32)), (.ref b)]))
        obtain ⟨_, _, ⟨T8, L8, k8, n8⟩, -, X8, ⟨Lc8, hQ8, l8, y8, z8⟩, st8⟩ := Jvm.LawKit.callS X7 hx (y := (⟨"java/util/Arrays", "binarySearch", "([JIIJ)I"⟩ : MethodName)) hown (mvT hZ (hw _ (List.mem_of_getElem? (i := 51) rfl))) (mvT hZ (hw _ (List.mem_of_getElem? (i := 52) rfl))) (mvT hZ (hw _ (List.mem_of_getElem? (i := 36) rfl))) (mvT hZ (hw _ (List.mem_of_getElem? (i := 53) rfl))) (by decide) (backOf (W := 0) (rmBS2 l Z a0 hw [] b y0_ y1_ tl (own_key q) h5 n0 Z5 f5_1 ht g_b) hZ (hw _ (List.mem_of_getElem? (i := 53) rfl)) (hw _ (List.mem_of_getElem? (i := 36) rfl)) (by decide) (by decide)) (g := (mkF m 54 #[.val (.ref ob), .val (.long q), .second, .val (.int (-2147483648 : Int32)), .unset] [(.long (own_key q)), (.int (2 : Int32)), (.int (0 : Int32)), (.ref b)])) rfl (by rw [hml]; rfl) (argsL := [(.ref b), (.int (0 : Int32)), (.int (2 : Int32)), (.long (own_key q))]) (rest := []) (lenOf (d := "([JIIJ)I") (ps := [(.array .long), .int, .int, .long]) (r := some .int) (by decide +kernel) rfl) rfl (by show 2 * 0 + _ ≤ _; exact Nat.le_of_eq rfl) (hb hby d5_54) (fun _ _ => ⟨rfl, e7, (by decide : 0 + 0 ≤ _), (by decide : 0 + 0 ≤ _)⟩)
        dsimp only [Pt.U, Pt.locs, Pt.cells, Pt.slots] at X8 l8 y8 z8 st8 hQ8
        subst l8 y8 z8
        obtain ⟨r_, rfl, N8q, e8, hr_⟩ := hQ8
        have N8 := Fr.app N5 N8q
        refine own_pre st8 ?_
        show OwnGoes p e below _ (T8.setTop (mkF m 57 #[.val (.ref ob), .val (.long q), .second, .val (.int (-2147483648 : Int32)), .unset] [(.int r_)]))
        rcases hr_ with rfl | rfl | rfl | rfl | rfl
        · show OwnGoes p e below _ (T8.setTop (mkF m 57 #[.val (.ref ob), .val (.long q), .second, .val (.int (-2147483648 : Int32)), .unset] [(.int (-3 : Int32))]))
          refine own_pre (fun _ kz_ => XS.istore X8.here hx rfl (hb hby d5_57) rfl (l' := #[.val (.ref ob), .val (.long q), .second, .val (.int (-2147483648 : Int32)), .val (.int (-3 : Int32))]) rfl kz_) ?_
          show OwnGoes p e below _ (T8.setTop (mkF m 59 #[.val (.ref ob), .val (.long q), .second, .val (.int (-2147483648 : Int32)), .val (.int (-3 : Int32))] []))
          refine own_pre (fun _ kz_ => XS.iload X8.here hx rfl (hb hby d5_59) rfl kz_) ?_
          show OwnGoes p e below _ (T8.setTop (mkF m 61 #[.val (.ref ob), .val (.long q), .second, .val (.int (-2147483648 : Int32)), .val (.int (-3 : Int32))] [(.int (-3 : Int32))]))
          refine own_pre (fun _ kz_ => XS.ifYes X8.here hx rfl (pc0 := 61) (pc' := 69) rfl (hb hby d5_61) rfl ((if0 _ _).trans (tlt (by decide : (-3 : Int32) < (0 : Int32))).1) (by decide) (by decide) kz_) ?_
          show OwnGoes p e below _ (T8.setTop (mkF m 69 #[.val (.ref ob), .val (.long q), .second, .val (.int (-2147483648 : Int32)), .val (.int (-3 : Int32))] []))
          refine own_pre (fun _ kz_ => XS.iload X8.here hx rfl (hb hby d5_69) rfl kz_) ?_
          show OwnGoes p e below _ (T8.setTop (mkF m 71 #[.val (.ref ob), .val (.long q), .second, .val (.int (-2147483648 : Int32)), .val (.int (-3 : Int32))] [(.int (-3 : Int32))]))
          refine own_pre (fun _ kz_ => XS.ineg X8.here hx rfl (hb hby d5_71) rfl kz_) ?_
          show OwnGoes p e below _ (T8.setTop (mkF m 72 #[.val (.ref ob), .val (.long q), .second, .val (.int (-2147483648 : Int32)), .val (.int (-3 : Int32))] [(.int (-(-3 : Int32)))]))
          rw [show (-(-3 : Int32)) = (3 : Int32) from by decide]
          show OwnGoes p e below _ (T8.setTop (mkF m 72 #[.val (.ref ob), .val (.long q), .second, .val (.int (-2147483648 : Int32)), .val (.int (-3 : Int32))] [(.int (3 : Int32))]))
          refine own_pre (fun _ kz_ => XS.iconst X8.here hx rfl (hb hby d5_72) kz_) ?_
          show OwnGoes p e below _ (T8.setTop (mkF m 73 #[.val (.ref ob), .val (.long q), .second, .val (.int (-2147483648 : Int32)), .val (.int (-3 : Int32))] [(.int (1 : Int32)), (.int (3 : Int32))]))
          refine own_pre (fun _ kz_ => XS.isub X8.here hx rfl (hb hby d5_73) rfl kz_) ?_
          show OwnGoes p e below _ (T8.setTop (mkF m 74 #[.val (.ref ob), .val (.long q), .second, .val (.int (-2147483648 : Int32)), .val (.int (-3 : Int32))] [(.int ((3 : Int32) - (1 : Int32)))]))
          rw [show ((3 : Int32) - (1 : Int32)) = (2 : Int32) from by decide]
          show OwnGoes p e below _ (T8.setTop (mkF m 74 #[.val (.ref ob), .val (.long q), .second, .val (.int (-2147483648 : Int32)), .val (.int (-3 : Int32))] [(.int (2 : Int32))]))
          refine own_pre (fun _ kz_ => XS.istore X8.here hx rfl (hb hby d5_74) rfl (l' := #[.val (.ref ob), .val (.long q), .second, .val (.int (-2147483648 : Int32)), .val (.int (2 : Int32))]) rfl kz_) ?_
          show OwnGoes p e below _ (T8.setTop (mkF m 76 #[.val (.ref ob), .val (.long q), .second, .val (.int (-2147483648 : Int32)), .val (.int (2 : Int32))] []))
          refine own_pre (fun _ kz_ => XS.iload X8.here hx rfl (hb hby d5_76) rfl kz_) ?_
          show OwnGoes p e below _ (T8.setTop (mkF m 78 #[.val (.ref ob), .val (.long q), .second, .val (.int (-2147483648 : Int32)), .val (.int (2 : Int32))] [(.int (2 : Int32))]))
          refine own_pre (fun _ kz_ => XS.aloadN X8.here hx rfl (hb hby d5_78) rfl rfl kz_) ?_
          show OwnGoes p e below _ (T8.setTop (mkF m 79 #[.val (.ref ob), .val (.long q), .second, .val (.int (-2147483648 : Int32)), .val (.int (2 : Int32))] [(.ref ob), (.int (2 : Int32))]))
          obtain ⟨T9, X9, e9, st9⟩ := getF X8 hx hZ hown (host := "") (Or.inl (hw _ (List.mem_of_getElem? (i := 25) rfl))) Via.refl e8 f5_3 (g := (mkF m 79 #[.val (.ref ob), .val (.long q), .second, .val (.int (-2147483648 : Int32)), .val (.int (2 : Int32))] [(.ref ob), (.int (2 : Int32))])) rfl rfl (hb hby d5_79)
          refine own_pre st9 ?_
          show OwnGoes p e below _ (T9.setTop (mkF m 82 #[.val (.ref ob), .val (.long q), .second, .val (.int (-2147483648 : Int32)), .val (.int (2 : Int32))] [(.int (2 : Int32)), (.int (2 : Int32))]))
          refine own_pre (fun _ kz_ => XS.icmpYes X9.here hx rfl (pc0 := 82) (pc' := 109) rfl (hb hby d5_82) rfl (flt (by decide : ¬ ((2 : Int32) < (2 : Int32)))).2.1 (by decide) (by decide) kz_) ?_
          show OwnGoes p e below _ (T9.setTop (mkF m 109 #[.val (.ref ob), .val (.long q), .second, .val (.int (-2147483648 : Int32)), .val (.int (2 : Int32))] []))
          refine own_pre (fun _ kz_ => XS.iloadN X9.here hx rfl (hb hby d5_109) rfl kz_) ?_
          show OwnGoes p e below _ (T9.setTop (mkF m 110 #[.val (.ref ob), .val (.long q), .second, .val (.int (-2147483648 : Int32)), .val (.int (2 : Int32))] [(.int (-2147483648 : Int32))]))
          exact own_ret X9 hx Bd.returns (rfl) (Or.inl ⟨rfl, by simp, _, rfl⟩) Bd.notSynchronized (hb hby d5_110) ⟨_, rfl, N8, _, _, _, by rw [e9]; exact ⟨b, tl, f5_5, f5_4, f5_3, Fw5, f5_1, ht, g_ob, g_b, hne⟩⟩ (by decide) (by decide)
        · show OwnGoes p e below _ (T8.setTop (mkF m 57 #[.val (.ref ob), .val (.long q), .second, .val (.int (-2147483648 : Int32)), .unset] [(.int (-2 : Int32))]))
          refine own_pre (fun _ kz_ => XS.istore X8.here hx rfl (hb hby d5_57) rfl (l' := #[.val (.ref ob), .val (.long q), .second, .val (.int (-2147483648 : Int32)), .val (.int (-2 : Int32))]) rfl kz_) ?_
          show OwnGoes p e below _ (T8.setTop (mkF m 59 #[.val (.ref ob), .val (.long q), .second, .val (.int (-2147483648 : Int32)), .val (.int (-2 : Int32))] []))
          refine own_pre (fun _ kz_ => XS.iload X8.here hx rfl (hb hby d5_59) rfl kz_) ?_
          show OwnGoes p e below _ (T8.setTop (mkF m 61 #[.val (.ref ob), .val (.long q), .second, .val (.int (-2147483648 : Int32)), .val (.int (-2 : Int32))] [(.int (-2 : Int32))]))
          refine own_pre (fun _ kz_ => XS.ifYes X8.here hx rfl (pc0 := 61) (pc' := 69) rfl (hb hby d5_61) rfl ((if0 _ _).trans (tlt (by decide : (-2 : Int32) < (0 : Int32))).1) (by decide) (by decide) kz_) ?_
          show OwnGoes p e below _ (T8.setTop (mkF m 69 #[.val (.ref ob), .val (.long q), .second, .val (.int (-2147483648 : Int32)), .val (.int (-2 : Int32))] []))
          refine own_pre (fun _ kz_ => XS.iload X8.here hx rfl (hb hby d5_69) rfl kz_) ?_
          show OwnGoes p e below _ (T8.setTop (mkF m 71 #[.val (.ref ob), .val (.long q), .second, .val (.int (-2147483648 : Int32)), .val (.int (-2 : Int32))] [(.int (-2 : Int32))]))
          refine own_pre (fun _ kz_ => XS.ineg X8.here hx rfl (hb hby d5_71) rfl kz_) ?_
          show OwnGoes p e below _ (T8.setTop (mkF m 72 #[.val (.ref ob), .val (.long q), .second, .val (.int (-2147483648 : Int32)), .val (.int (-2 : Int32))] [(.int (-(-2 : Int32)))]))
          rw [show (-(-2 : Int32)) = (2 : Int32) from by decide]
          show OwnGoes p e below _ (T8.setTop (mkF m 72 #[.val (.ref ob), .val (.long q), .second, .val (.int (-2147483648 : Int32)), .val (.int (-2 : Int32))] [(.int (2 : Int32))]))
          refine own_pre (fun _ kz_ => XS.iconst X8.here hx rfl (hb hby d5_72) kz_) ?_
          show OwnGoes p e below _ (T8.setTop (mkF m 73 #[.val (.ref ob), .val (.long q), .second, .val (.int (-2147483648 : Int32)), .val (.int (-2 : Int32))] [(.int (1 : Int32)), (.int (2 : Int32))]))
          refine own_pre (fun _ kz_ => XS.isub X8.here hx rfl (hb hby d5_73) rfl kz_) ?_
          show OwnGoes p e below _ (T8.setTop (mkF m 74 #[.val (.ref ob), .val (.long q), .second, .val (.int (-2147483648 : Int32)), .val (.int (-2 : Int32))] [(.int ((2 : Int32) - (1 : Int32)))]))
          rw [show ((2 : Int32) - (1 : Int32)) = (1 : Int32) from by decide]
          show OwnGoes p e below _ (T8.setTop (mkF m 74 #[.val (.ref ob), .val (.long q), .second, .val (.int (-2147483648 : Int32)), .val (.int (-2 : Int32))] [(.int (1 : Int32))]))
          refine own_pre (fun _ kz_ => XS.istore X8.here hx rfl (hb hby d5_74) rfl (l' := #[.val (.ref ob), .val (.long q), .second, .val (.int (-2147483648 : Int32)), .val (.int (1 : Int32))]) rfl kz_) ?_
          show OwnGoes p e below _ (T8.setTop (mkF m 76 #[.val (.ref ob), .val (.long q), .second, .val (.int (-2147483648 : Int32)), .val (.int (1 : Int32))] []))
          refine own_pre (fun _ kz_ => XS.iload X8.here hx rfl (hb hby d5_76) rfl kz_) ?_
          show OwnGoes p e below _ (T8.setTop (mkF m 78 #[.val (.ref ob), .val (.long q), .second, .val (.int (-2147483648 : Int32)), .val (.int (1 : Int32))] [(.int (1 : Int32))]))
          refine own_pre (fun _ kz_ => XS.aloadN X8.here hx rfl (hb hby d5_78) rfl rfl kz_) ?_
          show OwnGoes p e below _ (T8.setTop (mkF m 79 #[.val (.ref ob), .val (.long q), .second, .val (.int (-2147483648 : Int32)), .val (.int (1 : Int32))] [(.ref ob), (.int (1 : Int32))]))
          obtain ⟨T10, X10, e10, st10⟩ := getF X8 hx hZ hown (host := "") (Or.inl (hw _ (List.mem_of_getElem? (i := 25) rfl))) Via.refl e8 f5_3 (g := (mkF m 79 #[.val (.ref ob), .val (.long q), .second, .val (.int (-2147483648 : Int32)), .val (.int (1 : Int32))] [(.ref ob), (.int (1 : Int32))])) rfl rfl (hb hby d5_79)
          refine own_pre st10 ?_
          show OwnGoes p e below _ (T10.setTop (mkF m 82 #[.val (.ref ob), .val (.long q), .second, .val (.int (-2147483648 : Int32)), .val (.int (1 : Int32))] [(.int (2 : Int32)), (.int (1 : Int32))]))
          refine own_pre (fun _ kz_ => XS.icmpNo X10.here hx rfl (hb hby d5_82) rfl (tlt (by decide : (1 : Int32) < (2 : Int32))).2.1 kz_) ?_
          show OwnGoes p e below _ (T10.setTop (mkF m 85 #[.val (.ref ob), .val (.long q), .second, .val (.int (-2147483648 : Int32)), .val (.int (1 : Int32))] []))
          refine own_pre (fun _ kz_ => XS.aloadN X10.here hx rfl (hb hby d5_85) rfl rfl kz_) ?_
          show OwnGoes p e below _ (T10.setTop (mkF m 86 #[.val (.ref ob), .val (.long q), .second, .val (.int (-2147483648 : Int32)), .val (.int (1 : Int32))] [(.ref ob)]))
          obtain ⟨T11, X11, e11, st11⟩ := getF X10 hx hZ hown (host := "") (Or.inl (hw _ (List.mem_of_getElem? (i := 15) rfl))) Via.refl e10 f5_4 (g := (mkF m 86 #[.val (.ref ob), .val (.long q), .second, .val (.int (-2147483648 : Int32)), .val (.int (1 : Int32))] [(.ref ob)])) rfl rfl (hb hby d5_86)
          refine own_pre st11 ?_
          show OwnGoes p e below _ (T11.setTop (mkF m 89 #[.val (.ref ob), .val (.long q), .second, .val (.int (-2147483648 : Int32)), .val (.int (1 : Int32))] [(.ref b)]))
          refine own_pre (fun _ kz_ => XS.iload X11.here hx rfl (hb hby d5_89) rfl kz_) ?_
          show OwnGoes p e below _ (T11.setTop (mkF m 91 #[.val (.ref ob), .val (.long q), .second, .val (.int (-2147483648 : Int32)), .val (.int (1 : Int32))] [(.int (1 : Int32)), (.ref b)]))
          refine own_pre (own_lald X11 hx hZ e11 f5_1 (j := (1 : Int32)) (v := (.long y1_)) (by decide) rfl (g := (mkF m 91 #[.val (.ref ob), .val (.long q), .second, .val (.int (-2147483648 : Int32)), .val (.int (1 : Int32))] [(.int (1 : Int32)), (.ref b)])) rfl rfl (hb hby d5_91)) ?_
          show OwnGoes p e below _ (T11.setTop (mkF m 92 #[.val (.ref ob), .val (.long q), .second, .val (.int (-2147483648 : Int32)), .val (.int (1 : Int32))] [(.long y1_)]))
          refine own_pre (fun _ kz_ => XS.bipush X11.here hx rfl (hb hby d5_92) kz_) ?_
          show OwnGoes p e below _ (T11.setTop (mkF m 94 #[.val (.ref ob), .val (.long q), .second, .val (.int (-2147483648 : Int32)), .val (.int (1 : Int32))] [(.int (32 : Int32)), (.long y1_)]))
          refine own_pre (fun _ kz_ => XS.lushr X11.here hx rfl (hb hby d5_94) rfl kz_) ?_
          show OwnGoes p e below _ (T11.setTop (mkF m 95 #[.val (.ref ob), .val (.long q), .second, .val (.int (-2147483648 : Int32)), .val (.int (1 : Int32))] [(.long (own_hi y1_))]))
          refine own_pre (fun _ kz_ => XS.lloadN X11.here hx rfl (hb hby d5_95) rfl kz_) ?_
          show OwnGoes p e below _ (T11.setTop (mkF m 96 #[.val (.ref ob), .val (.long q), .second, .val (.int (-2147483648 : Int32)), .val (.int (1 : Int32))] [(.long q), (.long (own_hi y1_))]))
          refine own_pre (fun _ kz_ => XS.lcmp X11.here hx rfl (hb hby d5_96) rfl kz_) ?_
          show OwnGoes p e below _ (T11.setTop (mkF m 97 #[.val (.ref ob), .val (.long q), .second, .val (.int (-2147483648 : Int32)), .val (.int (1 : Int32))] [(.int (lcmpW (own_hi y1_) q))]))
          by_cases h97 : (own_hi y1_) = q
          · refine own_pre (fun _ kz_ => XS.ifNo X11.here hx rfl (hb hby d5_97) rfl ((if0 _ _).trans (teq ((lw_eq (own_hi y1_) q).mpr h97)).2) kz_) ?_
            show OwnGoes p e below _ (T11.setTop (mkF m 100 #[.val (.ref ob), .val (.long q), .second, .val (.int (-2147483648 : Int32)), .val (.int (1 : Int32))] []))
            refine own_pre (fun _ kz_ => XS.aloadN X11.here hx rfl (hb hby d5_100) rfl rfl kz_) ?_
            show OwnGoes p e below _ (T11.setTop (mkF m 101 #[.val (.ref ob), .val (.long q), .second, .val (.int (-2147483648 : Int32)), .val (.int (1 : Int32))] [(.ref ob)]))
            obtain ⟨T12, X12, e12, st12⟩ := getF X11 hx hZ hown (host := "") (Or.inl (hw _ (List.mem_of_getElem? (i := 15) rfl))) Via.refl e11 f5_4 (g := (mkF m 101 #[.val (.ref ob), .val (.long q), .second, .val (.int (-2147483648 : Int32)), .val (.int (1 : Int32))] [(.ref ob)])) rfl rfl (hb hby d5_101)
            refine own_pre st12 ?_
            show OwnGoes p e below _ (T12.setTop (mkF m 104 #[.val (.ref ob), .val (.long q), .second, .val (.int (-2147483648 : Int32)), .val (.int (1 : Int32))] [(.ref b)]))
            refine own_pre (fun _ kz_ => XS.iload X12.here hx rfl (hb hby d5_104) rfl kz_) ?_
            show OwnGoes p e below _ (T12.setTop (mkF m 106 #[.val (.ref ob), .val (.long q), .second, .val (.int (-2147483648 : Int32)), .val (.int (1 : Int32))] [(.int (1 : Int32)), (.ref b)]))
            refine own_pre (own_lald X12 hx hZ e12 f5_1 (j := (1 : Int32)) (v := (.long y1_)) (by decide) rfl (g := (mkF m 106 #[.val (.ref ob), .val (.long q), .second, .val (.int (-2147483648 : Int32)), .val (.int (1 : Int32))] [(.int (1 : Int32)), (.ref b)])) rfl rfl (hb hby d5_106)) ?_
            show OwnGoes p e below _ (T12.setTop (mkF m 107 #[.val (.ref ob), .val (.long q), .second, .val (.int (-2147483648 : Int32)), .val (.int (1 : Int32))] [(.long y1_)]))
            refine own_pre (fun _ kz_ => XS.l2i X12.here hx rfl (hb hby d5_107) rfl kz_) ?_
            show OwnGoes p e below _ (T12.setTop (mkF m 108 #[.val (.ref ob), .val (.long q), .second, .val (.int (-2147483648 : Int32)), .val (.int (1 : Int32))] [(.int (y1_.toInt32))]))
            refine own_pre (fun _ kz_ => XS.istoreN X12.here hx rfl (hb hby d5_108) rfl (l' := #[.val (.ref ob), .val (.long q), .second, .val (.int (y1_.toInt32)), .val (.int (1 : Int32))]) rfl kz_) ?_
            show OwnGoes p e below _ (T12.setTop (mkF m 109 #[.val (.ref ob), .val (.long q), .second, .val (.int (y1_.toInt32)), .val (.int (1 : Int32))] []))
            refine own_pre (fun _ kz_ => XS.iloadN X12.here hx rfl (hb hby d5_109) rfl kz_) ?_
            show OwnGoes p e below _ (T12.setTop (mkF m 110 #[.val (.ref ob), .val (.long q), .second, .val (.int (y1_.toInt32)), .val (.int (1 : Int32))] [(.int (y1_.toInt32))]))
            exact own_ret X12 hx Bd.returns (rfl) (Or.inl ⟨rfl, by simp, _, rfl⟩) Bd.notSynchronized (hb hby d5_110) ⟨_, rfl, N8, _, _, _, by rw [e12]; exact ⟨b, tl, f5_5, f5_4, f5_3, Fw5, f5_1, ht, g_ob, g_b, hne⟩⟩ (by decide) (by decide)
          · refine own_pre (fun _ kz_ => XS.ifYes X11.here hx rfl (pc0 := 97) (pc' := 109) rfl (hb hby d5_97) rfl ((if0 _ _).trans (feq (fun qz_ => h97 ((lw_eq (own_hi y1_) q).mp qz_))).2) (by decide) (by decide) kz_) ?_
            show OwnGoes p e below _ (T11.setTop (mkF m 109 #[.val (.ref ob), .val (.long q), .second, .val (.int (-2147483648 : Int32)), .val (.int (1 : Int32))] []))
            refine own_pre (fun _ kz_ => XS.iloadN X11.here hx rfl (hb hby d5_109) rfl kz_) ?_
            show OwnGoes p e below _ (T11.setTop (mkF m 110 #[.val (.ref ob), .val (.long q), .second, .val (.int (-2147483648 : Int32)), .val (.int (1 : Int32))] [(.int (-2147483648 : Int32))]))
            exact own_ret X11 hx Bd.returns (rfl) (Or.inl ⟨rfl, by simp, _, rfl⟩) Bd.notSynchronized (hb hby d5_110) ⟨_, rfl, N8, _, _, _, by rw [e11]; exact ⟨b, tl, f5_5, f5_4, f5_3, Fw5, f5_1, ht, g_ob, g_b, hne⟩⟩ (by decide) (by decide)
        · show OwnGoes p e below _ (T8.setTop (mkF m 57 #[.val (.ref ob), .val (.long q), .second, .val (.int (-2147483648 : Int32)), .unset] [(.int (-1 : Int32))]))
          refine own_pre (fun _ kz_ => XS.istore X8.here hx rfl (hb hby d5_57) rfl (l' := #[.val (.ref ob), .val (.long q), .second, .val (.int (-2147483648 : Int32)), .val (.int (-1 : Int32))]) rfl kz_) ?_
          show OwnGoes p e below _ (T8.setTop (mkF m 59 #[.val (.ref ob), .val (.long q), .second, .val (.int (-2147483648 : Int32)), .val (.int (-1 : Int32))] []))
          refine own_pre (fun _ kz_ => XS.iload X8.here hx rfl (hb hby d5_59) rfl kz_) ?_
          show OwnGoes p e below _ (T8.setTop (mkF m 61 #[.val (.ref ob), .val (.long q), .second, .val (.int (-2147483648 : Int32)), .val (.int (-1 : Int32))] [(.int (-1 : Int32))]))
          refine own_pre (fun _ kz_ => XS.ifYes X8.here hx rfl (pc0 := 61) (pc' := 69) rfl (hb hby d5_61) rfl ((if0 _ _).trans (tlt (by decide : (-1 : Int32) < (0 : Int32))).1) (by decide) (by decide) kz_) ?_
          show OwnGoes p e below _ (T8.setTop (mkF m 69 #[.val (.ref ob), .val (.long q), .second, .val (.int (-2147483648 : Int32)), .val (.int (-1 : Int32))] []))
          refine own_pre (fun _ kz_ => XS.iload X8.here hx rfl (hb hby d5_69) rfl kz_) ?_
          show OwnGoes p e below _ (T8.setTop (mkF m 71 #[.val (.ref ob), .val (.long q), .second, .val (.int (-2147483648 : Int32)), .val (.int (-1 : Int32))] [(.int (-1 : Int32))]))
          refine own_pre (fun _ kz_ => XS.ineg X8.here hx rfl (hb hby d5_71) rfl kz_) ?_
          show OwnGoes p e below _ (T8.setTop (mkF m 72 #[.val (.ref ob), .val (.long q), .second, .val (.int (-2147483648 : Int32)), .val (.int (-1 : Int32))] [(.int (-(-1 : Int32)))]))
          rw [show (-(-1 : Int32)) = (1 : Int32) from by decide]
          show OwnGoes p e below _ (T8.setTop (mkF m 72 #[.val (.ref ob), .val (.long q), .second, .val (.int (-2147483648 : Int32)), .val (.int (-1 : Int32))] [(.int (1 : Int32))]))
          refine own_pre (fun _ kz_ => XS.iconst X8.here hx rfl (hb hby d5_72) kz_) ?_
          show OwnGoes p e below _ (T8.setTop (mkF m 73 #[.val (.ref ob), .val (.long q), .second, .val (.int (-2147483648 : Int32)), .val (.int (-1 : Int32))] [(.int (1 : Int32)), (.int (1 : Int32))]))
          refine own_pre (fun _ kz_ => XS.isub X8.here hx rfl (hb hby d5_73) rfl kz_) ?_
          show OwnGoes p e below _ (T8.setTop (mkF m 74 #[.val (.ref ob), .val (.long q), .second, .val (.int (-2147483648 : Int32)), .val (.int (-1 : Int32))] [(.int ((1 : Int32) - (1 : Int32)))]))
          rw [show ((1 : Int32) - (1 : Int32)) = (0 : Int32) from by decide]
          show OwnGoes p e below _ (T8.setTop (mkF m 74 #[.val (.ref ob), .val (.long q), .second, .val (.int (-2147483648 : Int32)), .val (.int (-1 : Int32))] [(.int (0 : Int32))]))
          refine own_pre (fun _ kz_ => XS.istore X8.here hx rfl (hb hby d5_74) rfl (l' := #[.val (.ref ob), .val (.long q), .second, .val (.int (-2147483648 : Int32)), .val (.int (0 : Int32))]) rfl kz_) ?_
          show OwnGoes p e below _ (T8.setTop (mkF m 76 #[.val (.ref ob), .val (.long q), .second, .val (.int (-2147483648 : Int32)), .val (.int (0 : Int32))] []))
          refine own_pre (fun _ kz_ => XS.iload X8.here hx rfl (hb hby d5_76) rfl kz_) ?_
          show OwnGoes p e below _ (T8.setTop (mkF m 78 #[.val (.ref ob), .val (.long q), .second, .val (.int (-2147483648 : Int32)), .val (.int (0 : Int32))] [(.int (0 : Int32))]))
          refine own_pre (fun _ kz_ => XS.aloadN X8.here hx rfl (hb hby d5_78) rfl rfl kz_) ?_
          show OwnGoes p e below _ (T8.setTop (mkF m 79 #[.val (.ref ob), .val (.long q), .second, .val (.int (-2147483648 : Int32)), .val (.int (0 : Int32))] [(.ref ob), (.int (0 : Int32))]))
          obtain ⟨T13, X13, e13, st13⟩ := getF X8 hx hZ hown (host := "") (Or.inl (hw _ (List.mem_of_getElem? (i := 25) rfl))) Via.refl e8 f5_3 (g := (mkF m 79 #[.val (.ref ob), .val (.long q), .second, .val (.int (-2147483648 : Int32)), .val (.int (0 : Int32))] [(.ref ob), (.int (0 : Int32))])) rfl rfl (hb hby d5_79)
          refine own_pre st13 ?_
          show OwnGoes p e below _ (T13.setTop (mkF m 82 #[.val (.ref ob), .val (.long q), .second, .val (.int (-2147483648 : Int32)), .val (.int (0 : Int32))] [(.int (2 : Int32)), (.int (0 : Int32))]))
          refine own_pre (fun _ kz_ => XS.icmpNo X13.here hx rfl (hb hby d5_82) rfl (tlt (by decide : (0 : Int32) < (2 : Int32))).2.1 kz_) ?_
          show OwnGoes p e below _ (T13.setTop (mkF m 85 #[.val (.ref ob), .val (.long q), .second, .val (.int (-2147483648 : Int32)), .val (.int (0 : Int32))] []))
          refine own_pre (fun _ kz_ => XS.aloadN X13.here hx rfl (hb hby d5_85) rfl rfl kz_) ?_
          show OwnGoes p e below _ (T13.setTop (mkF m 86 #[.val (.ref ob), .val (.long q), .second, .val (.int (-2147483648 : Int32)), .val (.int (0 : Int32))] [(.ref ob)]))
          obtain ⟨T14, X14, e14, st14⟩ := getF X13 hx hZ hown (host := "") (Or.inl (hw _ (List.mem_of_getElem? (i := 15) rfl))) Via.refl e13 f5_4 (g := (mkF m 86 #[.val (.ref ob), .val (.long q), .second, .val (.int (-2147483648 : Int32)), .val (.int (0 : Int32))] [(.ref ob)])) rfl rfl (hb hby d5_86)
          refine own_pre st14 ?_
          show OwnGoes p e below _ (T14.setTop (mkF m 89 #[.val (.ref ob), .val (.long q), .second, .val (.int (-2147483648 : Int32)), .val (.int (0 : Int32))] [(.ref b)]))
          refine own_pre (fun _ kz_ => XS.iload X14.here hx rfl (hb hby d5_89) rfl kz_) ?_
          show OwnGoes p e below _ (T14.setTop (mkF m 91 #[.val (.ref ob), .val (.long q), .second, .val (.int (-2147483648 : Int32)), .val (.int (0 : Int32))] [(.int (0 : Int32)), (.ref b)]))
          refine own_pre (own_lald X14 hx hZ e14 f5_1 (j := (0 : Int32)) (v := (.long y0_)) (by decide) rfl (g := (mkF m 91 #[.val (.ref ob), .val (.long q), .second, .val (.int (-2147483648 : Int32)), .val (.int (0 : Int32))] [(.int (0 : Int32)), (.ref b)])) rfl rfl (hb hby d5_91)) ?_
          show OwnGoes p e below _ (T14.setTop (mkF m 92 #[.val (.ref ob), .val (.long q), .second, .val (.int (-2147483648 : Int32)), .val (.int (0 : Int32))] [(.long y0_)]))
          refine own_pre (fun _ kz_ => XS.bipush X14.here hx rfl (hb hby d5_92) kz_) ?_
          show OwnGoes p e below _ (T14.setTop (mkF m 94 #[.val (.ref ob), .val (.long q), .second, .val (.int (-2147483648 : Int32)), .val (.int (0 : Int32))] [(.int (32 : Int32)), (.long y0_)]))
          refine own_pre (fun _ kz_ => XS.lushr X14.here hx rfl (hb hby d5_94) rfl kz_) ?_
          show OwnGoes p e below _ (T14.setTop (mkF m 95 #[.val (.ref ob), .val (.long q), .second, .val (.int (-2147483648 : Int32)), .val (.int (0 : Int32))] [(.long (own_hi y0_))]))
          refine own_pre (fun _ kz_ => XS.lloadN X14.here hx rfl (hb hby d5_95) rfl kz_) ?_
          show OwnGoes p e below _ (T14.setTop (mkF m 96 #[.val (.ref ob), .val (.long q), .second, .val (.int (-2147483648 : Int32)), .val (.int (0 : Int32))] [(.long q), (.long (own_hi y0_))]))
          refine own_pre (fun _ kz_ => XS.lcmp X14.here hx rfl (hb hby d5_96) rfl kz_) ?_
          show OwnGoes p e below _ (T14.setTop (mkF m 97 #[.val (.ref ob), .val (.long q), .second, .val (.int (-2147483648 : Int32)), .val (.int (0 : Int32))] [(.int (lcmpW (own_hi y0_) q))]))
          by_cases h97 : (own_hi y0_) = q
          · refine own_pre (fun _ kz_ => XS.ifNo X14.here hx rfl (hb hby d5_97) rfl ((if0 _ _).trans (teq ((lw_eq (own_hi y0_) q).mpr h97)).2) kz_) ?_
            show OwnGoes p e below _ (T14.setTop (mkF m 100 #[.val (.ref ob), .val (.long q), .second, .val (.int (-2147483648 : Int32)), .val (.int (0 : Int32))] []))
            refine own_pre (fun _ kz_ => XS.aloadN X14.here hx rfl (hb hby d5_100) rfl rfl kz_) ?_
            show OwnGoes p e below _ (T14.setTop (mkF m 101 #[.val (.ref ob), .val (.long q), .second, .val (.int (-2147483648 : Int32)), .val (.int (0 : Int32))] [(.ref ob)]))
            obtain ⟨T15, X15, e15, st15⟩ := getF X14 hx hZ hown (host := "") (Or.inl (hw _ (List.mem_of_getElem? (i := 15) rfl))) Via.refl e14 f5_4 (g := (mkF m 101 #[.val (.ref ob), .val (.long q), .second, .val (.int (-2147483648 : Int32)), .val (.int (0 : Int32))] [(.ref ob)])) rfl rfl (hb hby d5_101)
            refine own_pre st15 ?_
            show OwnGoes p e below _ (T15.setTop (mkF m 104 #[.val (.ref ob), .val (.long q), .second, .val (.int (-2147483648 : Int32)), .val (.int (0 : Int32))] [(.ref b)]))
            refine own_pre (fun _ kz_ => XS.iload X15.here hx rfl (hb hby d5_104) rfl kz_) ?_
            show OwnGoes p e below _ (T15.setTop (mkF m 106 #[.val (.ref ob), .val (.long q), .second, .val (.int (-2147483648 : Int32)), .val (.int (0 : Int32))] [(.int (0 : Int32)), (.ref b)]))
            refine own_pre (own_lald X15 hx hZ e15 f5_1 (j := (0 : Int32)) (v := (.long y0_)) (by decide) rfl (g := (mkF m 106 #[.val (.ref ob), .val (.long q), .second, .val (.int (-2147483648 : Int32)), .val (.int (0 : Int32))] [(.int (0 : Int32)), (.ref b)])) rfl rfl (hb hby d5_106)) ?_
            show OwnGoes p e below _ (T15.setTop (mkF m 107 #[.val (.ref ob), .val (.long q), .second, .val (.int (-2147483648 : Int32)), .val (.int (0 : Int32))] [(.long y0_)]))
            refine own_pre (fun _ kz_ => XS.l2i X15.here hx rfl (hb hby d5_107) rfl kz_) ?_
            show OwnGoes p e below _ (T15.setTop (mkF m 108 #[.val (.ref ob), .val (.long q), .second, .val (.int (-2147483648 : Int32)), .val (.int (0 : Int32))] [(.int (y0_.toInt32))]))
            refine own_pre (fun _ kz_ => XS.istoreN X15.here hx rfl (hb hby d5_108) rfl (l' := #[.val (.ref ob), .val (.long q), .second, .val (.int (y0_.toInt32)), .val (.int (0 : Int32))]) rfl kz_) ?_
            show OwnGoes p e below _ (T15.setTop (mkF m 109 #[.val (.ref ob), .val (.long q), .second, .val (.int (y0_.toInt32)), .val (.int (0 : Int32))] []))
            refine own_pre (fun _ kz_ => XS.iloadN X15.here hx rfl (hb hby d5_109) rfl kz_) ?_
            show OwnGoes p e below _ (T15.setTop (mkF m 110 #[.val (.ref ob), .val (.long q), .second, .val (.int (y0_.toInt32)), .val (.int (0 : Int32))] [(.int (y0_.toInt32))]))
            exact own_ret X15 hx Bd.returns (rfl) (Or.inl ⟨rfl, by simp, _, rfl⟩) Bd.notSynchronized (hb hby d5_110) ⟨_, rfl, N8, _, _, _, by rw [e15]; exact ⟨b, tl, f5_5, f5_4, f5_3, Fw5, f5_1, ht, g_ob, g_b, hne⟩⟩ (by decide) (by decide)
          · refine own_pre (fun _ kz_ => XS.ifYes X14.here hx rfl (pc0 := 97) (pc' := 109) rfl (hb hby d5_97) rfl ((if0 _ _).trans (feq (fun qz_ => h97 ((lw_eq (own_hi y0_) q).mp qz_))).2) (by decide) (by decide) kz_) ?_
            show OwnGoes p e below _ (T14.setTop (mkF m 109 #[.val (.ref ob), .val (.long q), .second, .val (.int (-2147483648 : Int32)), .val (.int (0 : Int32))] []))
            refine own_pre (fun _ kz_ => XS.iloadN X14.here hx rfl (hb hby d5_109) rfl kz_) ?_
            show OwnGoes p e below _ (T14.setTop (mkF m 110 #[.val (.ref ob), .val (.long q), .second, .val (.int (-2147483648 : Int32)), .val (.int (0 : Int32))] [(.int (-2147483648 : Int32))]))
            exact own_ret X14 hx Bd.returns (rfl) (Or.inl ⟨rfl, by simp, _, rfl⟩) Bd.notSynchronized (hb hby d5_110) ⟨_, rfl, N8, _, _, _, by rw [e14]; exact ⟨b, tl, f5_5, f5_4, f5_3, Fw5, f5_1, ht, g_ob, g_b, hne⟩⟩ (by decide) (by decide)
        · show OwnGoes p e below _ (T8.setTop (mkF m 57 #[.val (.ref ob), .val (.long q), .second, .val (.int (-2147483648 : Int32)), .unset] [(.int (0 : Int32))]))
          refine own_pre (fun _ kz_ => XS.istore X8.here hx rfl (hb hby d5_57) rfl (l' := #[.val (.ref ob), .val (.long q), .second, .val (.int (-2147483648 : Int32)), .val (.int (0 : Int32))]) rfl kz_) ?_
          show OwnGoes p e below _ (T8.setTop (mkF m 59 #[.val (.ref ob), .val (.long q), .second, .val (.int (-2147483648 : Int32)), .val (.int (0 : Int32))] []))
          refine own_pre (fun _ kz_ => XS.iload X8.here hx rfl (hb hby d5_59) rfl kz_) ?_
          show OwnGoes p e below _ (T8.setTop (mkF m 61 #[.val (.ref ob), .val (.long q), .second, .val (.int (-2147483648 : Int32)), .val (.int (0 : Int32))] [(.int (0 : Int32))]))
          refine own_pre (fun _ kz_ => XS.ifNo X8.here hx rfl (hb hby d5_61) rfl ((if0 _ _).trans (flt (by decide : ¬ ((0 : Int32) < (0 : Int32)))).1) kz_) ?_
          show OwnGoes p e below _ (T8.setTop (mkF m 64 #[.val (.ref ob), .val (.long q), .second, .val (.int (-2147483648 : Int32)), .val (.int (0 : Int32))] []))
          refine own_pre (fun _ kz_ => XS.iload X8.here hx rfl (hb hby d5_64) rfl kz_) ?_
          show OwnGoes p e below _ (T8.setTop (mkF m 66 #[.val (.ref ob), .val (.long q), .second, .val (.int (-2147483648 : Int32)), .val (.int (0 : Int32))] [(.int (0 : Int32))]))
          refine own_pre (fun _ kz_ => XS.goto X8.here hx rfl (pc0 := 66) (pc' := 74) rfl (hb hby d5_66) (by decide) (by decide) kz_) ?_
          show OwnGoes p e below _ (T8.setTop (mkF m 74 #[.val (.ref ob), .val (.long q), .second, .val (.int (-2147483648 : Int32)), .val (.int (0 : Int32))] [(.int (0 : Int32))]))
          refine own_pre (fun _ kz_ => XS.istore X8.here hx rfl (hb hby d5_74) rfl (l' := #[.val (.ref ob), .val (.long q), .second, .val (.int (-2147483648 : Int32)), .val (.int (0 : Int32))]) rfl kz_) ?_
          show OwnGoes p e below _ (T8.setTop (mkF m 76 #[.val (.ref ob), .val (.long q), .second, .val (.int (-2147483648 : Int32)), .val (.int (0 : Int32))] []))
          refine own_pre (fun _ kz_ => XS.iload X8.here hx rfl (hb hby d5_76) rfl kz_) ?_
          show OwnGoes p e below _ (T8.setTop (mkF m 78 #[.val (.ref ob), .val (.long q), .second, .val (.int (-2147483648 : Int32)), .val (.int (0 : Int32))] [(.int (0 : Int32))]))
          refine own_pre (fun _ kz_ => XS.aloadN X8.here hx rfl (hb hby d5_78) rfl rfl kz_) ?_
          show OwnGoes p e below _ (T8.setTop (mkF m 79 #[.val (.ref ob), .val (.long q), .second, .val (.int (-2147483648 : Int32)), .val (.int (0 : Int32))] [(.ref ob), (.int (0 : Int32))]))
          obtain ⟨T16, X16, e16, st16⟩ := getF X8 hx hZ hown (host := "") (Or.inl (hw _ (List.mem_of_getElem? (i := 25) rfl))) Via.refl e8 f5_3 (g := (mkF m 79 #[.val (.ref ob), .val (.long q), .second, .val (.int (-2147483648 : Int32)), .val (.int (0 : Int32))] [(.ref ob), (.int (0 : Int32))])) rfl rfl (hb hby d5_79)
          refine own_pre st16 ?_
          show OwnGoes p e below _ (T16.setTop (mkF m 82 #[.val (.ref ob), .val (.long q), .second, .val (.int (-2147483648 : Int32)), .val (.int (0 : Int32))] [(.int (2 : Int32)), (.int (0 : Int32))]))
          refine own_pre (fun _ kz_ => XS.icmpNo X16.here hx rfl (hb hby d5_82) rfl (tlt (by decide : (0 : Int32) < (2 : Int32))).2.1 kz_) ?_
          show OwnGoes p e below _ (T16.setTop (mkF m 85 #[.val (.ref ob), .val (.long q), .second, .val (.int (-2147483648 : Int32)), .val (.int (0 : Int32))] []))
          refine own_pre (fun _ kz_ => XS.aloadN X16.here hx rfl (hb hby d5_85) rfl rfl kz_) ?_
          show OwnGoes p e below _ (T16.setTop (mkF m 86 #[.val (.ref ob), .val (.long q), .second, .val (.int (-2147483648 : Int32)), .val (.int (0 : Int32))] [(.ref ob)]))
          obtain ⟨T17, X17, e17, st17⟩ := getF X16 hx hZ hown (host := "") (Or.inl (hw _ (List.mem_of_getElem? (i := 15) rfl))) Via.refl e16 f5_4 (g := (mkF m 86 #[.val (.ref ob), .val (.long q), .second, .val (.int (-2147483648 : Int32)), .val (.int (0 : Int32))] [(.ref ob)])) rfl rfl (hb hby d5_86)
          refine own_pre st17 ?_
          show OwnGoes p e below _ (T17.setTop (mkF m 89 #[.val (.ref ob), .val (.long q), .second, .val (.int (-2147483648 : Int32)), .val (.int (0 : Int32))] [(.ref b)]))
          refine own_pre (fun _ kz_ => XS.iload X17.here hx rfl (hb hby d5_89) rfl kz_) ?_
          show OwnGoes p e below _ (T17.setTop (mkF m 91 #[.val (.ref ob), .val (.long q), .second, .val (.int (-2147483648 : Int32)), .val (.int (0 : Int32))] [(.int (0 : Int32)), (.ref b)]))
          refine own_pre (own_lald X17 hx hZ e17 f5_1 (j := (0 : Int32)) (v := (.long y0_)) (by decide) rfl (g := (mkF m 91 #[.val (.ref ob), .val (.long q), .second, .val (.int (-2147483648 : Int32)), .val (.int (0 : Int32))] [(.int (0 : Int32)), (.ref b)])) rfl rfl (hb hby d5_91)) ?_
          show OwnGoes p e below _ (T17.setTop (mkF m 92 #[.val (.ref ob), .val (.long q), .second, .val (.int (-2147483648 : Int32)), .val (.int (0 : Int32))] [(.long y0_)]))
          refine own_pre (fun _ kz_ => XS.bipush X17.here hx rfl (hb hby d5_92) kz_) ?_
          show OwnGoes p e below _ (T17.setTop (mkF m 94 #[.val (.ref ob), .val (.long q), .second, .val (.int (-2147483648 : Int32)), .val (.int (0 : Int32))] [(.int (32 : Int32)), (.long y0_)]))
          refine own_pre (fun _ kz_ => XS.lushr X17.here hx rfl (hb hby d5_94) rfl kz_) ?_
          show OwnGoes p e below _ (T17.setTop (mkF m 95 #[.val (.ref ob), .val (.long q), .second, .val (.int (-2147483648 : Int32)), .val (.int (0 : Int32))] [(.long (own_hi y0_))]))
          refine own_pre (fun _ kz_ => XS.lloadN X17.here hx rfl (hb hby d5_95) rfl kz_) ?_
          show OwnGoes p e below _ (T17.setTop (mkF m 96 #[.val (.ref ob), .val (.long q), .second, .val (.int (-2147483648 : Int32)), .val (.int (0 : Int32))] [(.long q), (.long (own_hi y0_))]))
          refine own_pre (fun _ kz_ => XS.lcmp X17.here hx rfl (hb hby d5_96) rfl kz_) ?_
          show OwnGoes p e below _ (T17.setTop (mkF m 97 #[.val (.ref ob), .val (.long q), .second, .val (.int (-2147483648 : Int32)), .val (.int (0 : Int32))] [(.int (lcmpW (own_hi y0_) q))]))
          by_cases h97 : (own_hi y0_) = q
          · refine own_pre (fun _ kz_ => XS.ifNo X17.here hx rfl (hb hby d5_97) rfl ((if0 _ _).trans (teq ((lw_eq (own_hi y0_) q).mpr h97)).2) kz_) ?_
            show OwnGoes p e below _ (T17.setTop (mkF m 100 #[.val (.ref ob), .val (.long q), .second, .val (.int (-2147483648 : Int32)), .val (.int (0 : Int32))] []))
            refine own_pre (fun _ kz_ => XS.aloadN X17.here hx rfl (hb hby d5_100) rfl rfl kz_) ?_
            show OwnGoes p e below _ (T17.setTop (mkF m 101 #[.val (.ref ob), .val (.long q), .second, .val (.int (-2147483648 : Int32)), .val (.int (0 : Int32))] [(.ref ob)]))
            obtain ⟨T18, X18, e18, st18⟩ := getF X17 hx hZ hown (host := "") (Or.inl (hw _ (List.mem_of_getElem? (i := 15) rfl))) Via.refl e17 f5_4 (g := (mkF m 101 #[.val (.ref ob), .val (.long q), .second, .val (.int (-2147483648 : Int32)), .val (.int (0 : Int32))] [(.ref ob)])) rfl rfl (hb hby d5_101)
            refine own_pre st18 ?_
            show OwnGoes p e below _ (T18.setTop (mkF m 104 #[.val (.ref ob), .val (.long q), .second, .val (.int (-2147483648 : Int32)), .val (.int (0 : Int32))] [(.ref b)]))
            refine own_pre (fun _ kz_ => XS.iload X18.here hx rfl (hb hby d5_104) rfl kz_) ?_
            show OwnGoes p e below _ (T18.setTop (mkF m 106 #[.val (.ref ob), .val (.long q), .second, .val (.int (-2147483648 : Int32)), .val (.int (0 : Int32))] [(.int (0 : Int32)), (.ref b)]))
            refine own_pre (own_lald X18 hx hZ e18 f5_1 (j := (0 : Int32)) (v := (.long y0_)) (by decide) rfl (g := (mkF m 106 #[.val (.ref ob), .val (.long q), .second, .val (.int (-2147483648 : Int32)), .val (.int (0 : Int32))] [(.int (0 : Int32)), (.ref b)])) rfl rfl (hb hby d5_106)) ?_
            show OwnGoes p e below _ (T18.setTop (mkF m 107 #[.val (.ref ob), .val (.long q), .second, .val (.int (-2147483648 : Int32)), .val (.int (0 : Int32))] [(.long y0_)]))
            refine own_pre (fun _ kz_ => XS.l2i X18.here hx rfl (hb hby d5_107) rfl kz_) ?_
            show OwnGoes p e below _ (T18.setTop (mkF m 108 #[.val (.ref ob), .val (.long q), .second, .val (.int (-2147483648 : Int32)), .val (.int (0 : Int32))] [(.int (y0_.toInt32))]))
            refine own_pre (fun _ kz_ => XS.istoreN X18.here hx rfl (hb hby d5_108) rfl (l' := #[.val (.ref ob), .val (.long q), .second, .val (.int (y0_.toInt32)), .val (.int (0 : Int32))]) rfl kz_) ?_
            show OwnGoes p e below _ (T18.setTop (mkF m 109 #[.val (.ref ob), .val (.long q), .second, .val (.int (y0_.toInt32)), .val (.int (0 : Int32))] []))
            refine own_pre (fun _ kz_ => XS.iloadN X18.here hx rfl (hb hby d5_109) rfl kz_) ?_
            show OwnGoes p e below _ (T18.setTop (mkF m 110 #[.val (.ref ob), .val (.long q), .second, .val (.int (y0_.toInt32)), .val (.int (0 : Int32))] [(.int (y0_.toInt32))]))
            exact own_ret X18 hx Bd.returns (rfl) (Or.inl ⟨rfl, by simp, _, rfl⟩) Bd.notSynchronized (hb hby d5_110) ⟨_, rfl, N8, _, _, _, by rw [e18]; exact ⟨b, tl, f5_5, f5_4, f5_3, Fw5, f5_1, ht, g_ob, g_b, hne⟩⟩ (by decide) (by decide)
          · refine own_pre (fun _ kz_ => XS.ifYes X17.here hx rfl (pc0 := 97) (pc' := 109) rfl (hb hby d5_97) rfl ((if0 _ _).trans (feq (fun qz_ => h97 ((lw_eq (own_hi y0_) q).mp qz_))).2) (by decide) (by decide) kz_) ?_
            show OwnGoes p e below _ (T17.setTop (mkF m 109 #[.val (.ref ob), .val (.long q), .second, .val (.int (-2147483648 : Int32)), .val (.int (0 : Int32))] []))
            refine own_pre (fun _ kz_ => XS.iloadN X17.here hx rfl (hb hby d5_109) rfl kz_) ?_
            show OwnGoes p e below _ (T17.setTop (mkF m 110 #[.val (.ref ob), .val (.long q), .second, .val (.int (-2147483648 : Int32)), .val (.int (0 : Int32))] [(.int (-2147483648 : Int32))]))
            exact own_ret X17 hx Bd.returns (rfl) (Or.inl ⟨rfl, by simp, _, rfl⟩) Bd.notSynchronized (hb hby d5_110) ⟨_, rfl, N8, _, _, _, by rw [e17]; exact ⟨b, tl, f5_5, f5_4, f5_3, Fw5, f5_1, ht, g_ob, g_b, hne⟩⟩ (by decide) (by decide)
        · show OwnGoes p e below _ (T8.setTop (mkF m 57 #[.val (.ref ob), .val (.long q), .second, .val (.int (-2147483648 : Int32)), .unset] [(.int (1 : Int32))]))
          refine own_pre (fun _ kz_ => XS.istore X8.here hx rfl (hb hby d5_57) rfl (l' := #[.val (.ref ob), .val (.long q), .second, .val (.int (-2147483648 : Int32)), .val (.int (1 : Int32))]) rfl kz_) ?_
          show OwnGoes p e below _ (T8.setTop (mkF m 59 #[.val (.ref ob), .val (.long q), .second, .val (.int (-2147483648 : Int32)), .val (.int (1 : Int32))] []))
          refine own_pre (fun _ kz_ => XS.iload X8.here hx rfl (hb hby d5_59) rfl kz_) ?_
          show OwnGoes p e below _ (T8.setTop (mkF m 61 #[.val (.ref ob), .val (.long q), .second, .val (.int (-2147483648 : Int32)), .val (.int (1 : Int32))] [(.int (1 : Int32))]))
          refine own_pre (fun _ kz_ => XS.ifNo X8.here hx rfl (hb hby d5_61) rfl ((if0 _ _).trans (flt (by decide : ¬ ((1 : Int32) < (0 : Int32)))).1) kz_) ?_
          show OwnGoes p e below _ (T8.setTop (mkF m 64 #[.val (.ref ob), .val (.long q), .second, .val (.int (-2147483648 : Int32)), .val (.int (1 : Int32))] []))
          refine own_pre (fun _ kz_ => XS.iload X8.here hx rfl (hb hby d5_64) rfl kz_) ?_
          show OwnGoes p e below _ (T8.setTop (mkF m 66 #[.val (.ref ob), .val (.long q), .second, .val (.int (-2147483648 : Int32)), .val (.int (1 : Int32))] [(.int (1 : Int32))]))
          refine own_pre (fun _ kz_ => XS.goto X8.here hx rfl (pc0 := 66) (pc' := 74) rfl (hb hby d5_66) (by decide) (by decide) kz_) ?_
          show OwnGoes p e below _ (T8.setTop (mkF m 74 #[.val (.ref ob), .val (.long q), .second, .val (.int (-2147483648 : Int32)), .val (.int (1 : Int32))] [(.int (1 : Int32))]))
          refine own_pre (fun _ kz_ => XS.istore X8.here hx rfl (hb hby d5_74) rfl (l' := #[.val (.ref ob), .val (.long q), .second, .val (.int (-2147483648 : Int32)), .val (.int (1 : Int32))]) rfl kz_) ?_
          show OwnGoes p e below _ (T8.setTop (mkF m 76 #[.val (.ref ob), .val (.long q), .second, .val (.int (-2147483648 : Int32)), .val (.int (1 : Int32))] []))
          refine own_pre (fun _ kz_ => XS.iload X8.here hx rfl (hb hby d5_76) rfl kz_) ?_
          show OwnGoes p e below _ (T8.setTop (mkF m 78 #[.val (.ref ob), .val (.long q), .second, .val (.int (-2147483648 : Int32)), .val (.int (1 : Int32))] [(.int (1 : Int32))]))
          refine own_pre (fun _ kz_ => XS.aloadN X8.here hx rfl (hb hby d5_78) rfl rfl kz_) ?_
          show OwnGoes p e below _ (T8.setTop (mkF m 79 #[.val (.ref ob), .val (.long q), .second, .val (.int (-2147483648 : Int32)), .val (.int (1 : Int32))] [(.ref ob), (.int (1 : Int32))]))
          obtain ⟨T19, X19, e19, st19⟩ := getF X8 hx hZ hown (host := "") (Or.inl (hw _ (List.mem_of_getElem? (i := 25) rfl))) Via.refl e8 f5_3 (g := (mkF m 79 #[.val (.ref ob), .val (.long q), .second, .val (.int (-2147483648 : Int32)), .val (.int (1 : Int32))] [(.ref ob), (.int (1 : Int32))])) rfl rfl (hb hby d5_79)
          refine own_pre st19 ?_
          show OwnGoes p e below _ (T19.setTop (mkF m 82 #[.val (.ref ob), .val (.long q), .second, .val (.int (-2147483648 : Int32)), .val (.int (1 : Int32))] [(.int (2 : Int32)), (.int (1 : Int32))]))
          refine own_pre (fun _ kz_ => XS.icmpNo X19.here hx rfl (hb hby d5_82) rfl (tlt (by decide : (1 : Int32) < (2 : Int32))).2.1 kz_) ?_
          show OwnGoes p e below _ (T19.setTop (mkF m 85 #[.val (.ref ob), .val (.long q), .second, .val (.int (-2147483648 : Int32)), .val (.int (1 : Int32))] []))
          refine own_pre (fun _ kz_ => XS.aloadN X19.here hx rfl (hb hby d5_85) rfl rfl kz_) ?_
          show OwnGoes p e below _ (T19.setTop (mkF m 86 #[.val (.ref ob), .val (.long q), .second, .val (.int (-2147483648 : Int32)), .val (.int (1 : Int32))] [(.ref ob)]))
          obtain ⟨T20, X20, e20, st20⟩ := getF X19 hx hZ hown (host := "") (Or.inl (hw _ (List.mem_of_getElem? (i := 15) rfl))) Via.refl e19 f5_4 (g := (mkF m 86 #[.val (.ref ob), .val (.long q), .second, .val (.int (-2147483648 : Int32)), .val (.int (1 : Int32))] [(.ref ob)])) rfl rfl (hb hby d5_86)
          refine own_pre st20 ?_
          show OwnGoes p e below _ (T20.setTop (mkF m 89 #[.val (.ref ob), .val (.long q), .second, .val (.int (-2147483648 : Int32)), .val (.int (1 : Int32))] [(.ref b)]))
          refine own_pre (fun _ kz_ => XS.iload X20.here hx rfl (hb hby d5_89) rfl kz_) ?_
          show OwnGoes p e below _ (T20.setTop (mkF m 91 #[.val (.ref ob), .val (.long q), .second, .val (.int (-2147483648 : Int32)), .val (.int (1 : Int32))] [(.int (1 : Int32)), (.ref b)]))
          refine own_pre (own_lald X20 hx hZ e20 f5_1 (j := (1 : Int32)) (v := (.long y1_)) (by decide) rfl (g := (mkF m 91 #[.val (.ref ob), .val (.long q), .second, .val (.int (-2147483648 : Int32)), .val (.int (1 : Int32))] [(.int (1 : Int32)), (.ref b)])) rfl rfl (hb hby d5_91)) ?_
          show OwnGoes p e below _ (T20.setTop (mkF m 92 #[.val (.ref ob), .val (.long q), .second, .val (.int (-2147483648 : Int32)), .val (.int (1 : Int32))] [(.long y1_)]))
          refine own_pre (fun _ kz_ => XS.bipush X20.here hx rfl (hb hby d5_92) kz_) ?_
          show OwnGoes p e below _ (T20.setTop (mkF m 94 #[.val (.ref ob), .val (.long q), .second, .val (.int (-2147483648 : Int32)), .val (.int (1 : Int32))] [(.int (32 : Int32)), (.long y1_)]))
          refine own_pre (fun _ kz_ => XS.lushr X20.here hx rfl (hb hby d5_94) rfl kz_) ?_
          show OwnGoes p e below _ (T20.setTop (mkF m 95 #[.val (.ref ob), .val (.long q), .second, .val (.int (-2147483648 : Int32)), .val (.int (1 : Int32))] [(.long (own_hi y1_))]))
          refine own_pre (fun _ kz_ => XS.lloadN X20.here hx rfl (hb hby d5_95) rfl kz_) ?_
          show OwnGoes p e below _ (T20.setTop (mkF m 96 #[.val (.ref ob), .val (.long q), .second, .val (.int (-2147483648 : Int32)), .val (.int (1 : Int32))] [(.long q), (.long (own_hi y1_))]))
          refine own_pre (fun _ kz_ => XS.lcmp X20.here hx rfl (hb hby d5_96) rfl kz_) ?_
          show OwnGoes p e below _ (T20.setTop (mkF m 97 #[.val (.ref ob), .val (.long q), .second, .val (.int (-2147483648 : Int32)), .val (.int (1 : Int32))] [(.int (lcmpW (own_hi y1_) q))]))
          by_cases h97 : (own_hi y1_) = q
          · refine own_pre (fun _ kz_ => XS.ifNo X20.here hx rfl (hb hby d5_97) rfl ((if0 _ _).trans (teq ((lw_eq (own_hi y1_) q).mpr h97)).2) kz_) ?_
            show OwnGoes p e below _ (T20.setTop (mkF m 100 #[.val (.ref ob), .val (.long q), .second, .val (.int (-2147483648 : Int32)), .val (.int (1 : Int32))] []))
            refine own_pre (fun _ kz_ => XS.aloadN X20.here hx rfl (hb hby d5_100) rfl rfl kz_) ?_
            show OwnGoes p e below _ (T20.setTop (mkF m 101 #[.val (.ref ob), .val (.long q), .second, .val (.int (-2147483648 : Int32)), .val (.int (1 : Int32))] [(.ref ob)]))
            obtain ⟨T21, X21, e21, st21⟩ := getF X20 hx hZ hown (host := "") (Or.inl (hw _ (List.mem_of_getElem? (i := 15) rfl))) Via.refl e20 f5_4 (g := (mkF m 101 #[.val (.ref ob), .val (.long q), .second, .val (.int (-2147483648 : Int32)), .val (.int (1 : Int32))] [(.ref ob)])) rfl rfl (hb hby d5_101)
            refine own_pre st21 ?_
            show OwnGoes p e below _ (T21.setTop (mkF m 104 #[.val (.ref ob), .val (.long q), .second, .val (.int (-2147483648 : Int32)), .val (.int (1 : Int32))] [(.ref b)]))
            refine own_pre (fun _ kz_ => XS.iload X21.here hx rfl (hb hby d5_104) rfl kz_) ?_
            show OwnGoes p e below _ (T21.setTop (mkF m 106 #[.val (.ref ob), .val (.long q), .second, .val (.int (-2147483648 : Int32)), .val (.int (1 : Int32))] [(.int (1 : Int32)), (.ref b)]))
            refine own_pre (own_lald X21 hx hZ e21 f5_1 (j := (1 : Int32)) (v := (.long y1_)) (by decide) rfl (g := (mkF m 106 #[.val (.ref ob), .val (.long q), .second, .val (.int (-2147483648 : Int32)), .val (.int (1 : Int32))] [(.int (1 : Int32)), (.ref b)])) rfl rfl (hb hby d5_106)) ?_
            show OwnGoes p e below _ (T21.setTop (mkF m 107 #[.val (.ref ob), .val (.long q), .second, .val (.int (-2147483648 : Int32)), .val (.int (1 : Int32))] [(.long y1_)]))
            refine own_pre (fun _ kz_ => XS.l2i X21.here hx rfl (hb hby d5_107) rfl kz_) ?_
            show OwnGoes p e below _ (T21.setTop (mkF m 108 #[.val (.ref ob), .val (.long q), .second, .val (.int (-2147483648 : Int32)), .val (.int (1 : Int32))] [(.int (y1_.toInt32))]))
            refine own_pre (fun _ kz_ => XS.istoreN X21.here hx rfl (hb hby d5_108) rfl (l' := #[.val (.ref ob), .val (.long q), .second, .val (.int (y1_.toInt32)), .val (.int (1 : Int32))]) rfl kz_) ?_
            show OwnGoes p e below _ (T21.setTop (mkF m 109 #[.val (.ref ob), .val (.long q), .second, .val (.int (y1_.toInt32)), .val (.int (1 : Int32))] []))
            refine own_pre (fun _ kz_ => XS.iloadN X21.here hx rfl (hb hby d5_109) rfl kz_) ?_
            show OwnGoes p e below _ (T21.setTop (mkF m 110 #[.val (.ref ob), .val (.long q), .second, .val (.int (y1_.toInt32)), .val (.int (1 : Int32))] [(.int (y1_.toInt32))]))
            exact own_ret X21 hx Bd.returns (rfl) (Or.inl ⟨rfl, by simp, _, rfl⟩) Bd.notSynchronized (hb hby d5_110) ⟨_, rfl, N8, _, _, _, by rw [e21]; exact ⟨b, tl, f5_5, f5_4, f5_3, Fw5, f5_1, ht, g_ob, g_b, hne⟩⟩ (by decide) (by decide)
          · refine own_pre (fun _ kz_ => XS.ifYes X20.here hx rfl (pc0 := 97) (pc' := 109) rfl (hb hby d5_97) rfl ((if0 _ _).trans (feq (fun qz_ => h97 ((lw_eq (own_hi y1_) q).mp qz_))).2) (by decide) (by decide) kz_) ?_
            show OwnGoes p e below _ (T20.setTop (mkF m 109 #[.val (.ref ob), .val (.long q), .second, .val (.int (-2147483648 : Int32)), .val (.int (1 : Int32))] []))
            refine own_pre (fun _ kz_ => XS.iloadN X20.here hx rfl (hb hby d5_109) rfl kz_) ?_
            show OwnGoes p e below _ (T20.setTop (mkF m 110 #[.val (.ref ob), .val (.long q), .second, .val (.int (-2147483648 : Int32)), .val (.int (1 : Int32))] [(.int (-2147483648 : Int32))]))
            exact own_ret X20 hx Bd.returns (rfl) (Or.inl ⟨rfl, by simp, _, rfl⟩) Bd.notSynchronized (hb hby d5_110) ⟨_, rfl, N8, _, _, _, by rw [e20]; exact ⟨b, tl, f5_5, f5_4, f5_3, Fw5, f5_1, ht, g_ob, g_b, hne⟩⟩ (by decide) (by decide)
      · refine own_pre (fun _ kz_ => XS.ifYes X1.here hx rfl (pc0 := 21) (pc' := 41) rfl (hb hby d5_21) rfl ((if0 _ _).trans (feq h21).2) (by decide) (by decide) kz_) ?_
        show OwnGoes p e below _ (T1.setTop (mkF m 41 #[.val (.ref ob), .val (.long q), .second, .val (.int (-2147483648 : Int32)), .unset] []))
        refine own_pre (fun _ kz_ => XS.aloadN X1.here hx rfl (hb hby d5_41) rfl rfl kz_) ?_
        show OwnGoes p e below _ (T1.setTop (mkF m 42 #[.val (.ref ob), .val (.long q), .second, .val (.int (-2147483648 : Int32)), .unset] [(.ref ob)]))
        obtain ⟨T22, X22, e22, st22⟩ := getF X1 hx hZ hown (host := "") (Or.inl (hw _ (List.mem_of_getElem? (i := 15) rfl))) Via.refl e1 F0 (g := (mkF m 42 #[.val (.ref ob), .val (.long q), .second, .val (.int (-2147483648 : Int32)), .unset] [(.ref ob)])) rfl rfl (hb hby d5_42)
        refine own_pre st22 ?_
        show OwnGoes p e below _ (T22.setTop (mkF m 45 #[.val (.ref ob), .val (.long q), .second, .val (.int (-2147483648 : Int32)), .unset] [(.ref b)]))
        refine own_pre (fun _ kz_ => XS.iconst X22.here hx rfl (hb hby d5_45) kz_) ?_
        show OwnGoes p e below _ (T22.setTop (mkF m 46 #[.val (.ref ob), .val (.long q), .second, .val (.int (-2147483648 : Int32)), .unset] [(.int (0 : Int32)), (.ref b)]))
        refine own_pre (fun _ kz_ => XS.aloadN X22.here hx rfl (hb hby d5_46) rfl rfl kz_) ?_
        show OwnGoes p e below _ (T22.setTop (mkF m 47 #[.val (.ref ob), .val (.long q), .second, .val (.int (-2147483648 : Int32)), .unset] [(.ref ob), (.int (0 : Int32)), (.ref b)]))
        obtain ⟨T23, X23, e23, st23⟩ := getF X22 hx hZ hown (host := "") (Or.inl (hw _ (List.mem_of_getElem? (i := 25) rfl))) Via.refl e22 F1 (g := (mkF m 47 #[.val (.ref ob), .val (.long q), .second, .val (.int (-2147483648 : Int32)), .unset] [(.ref ob), (.int (0 : Int32)), (.ref b)])) rfl rfl (hb hby d5_47)
        refine own_pre st23 ?_
        show OwnGoes p e below _ (T23.setTop (mkF m 50 #[.val (.ref ob), .val (.long q), .second, .val (.int (-2147483648 : Int32)), .unset] [(.int (2 : Int32)), (.int (0 : Int32)), (.ref b)]))
        refine own_pre (fun _ kz_ => XS.lloadN X23.here hx rfl (hb hby d5_50) rfl kz_) ?_
        show OwnGoes p e below _ (T23.setTop (mkF m 51 #[.val (.ref ob), .val (.long q), .second, .val (.int (-2147483648 : Int32)), .unset] [(.long q), (.int (2 : Int32)), (.int (0 : Int32)), (.ref b)]))
        refine own_pre (fun _ kz_ => XS.bipush X23.here hx rfl (hb hby d5_51) kz_) ?_
        show OwnGoes p e below _ (T23.setTop (mkF m 53 #[.val (.ref ob), .val (.long q), .second, .val (.int (-2147483648 : Int32)), .unset] [(.int (32 : Int32)), (.long q), (.int (2 : Int32)), (.int (0 : Int32)), (.ref b)]))
        refine own_pre (fun _ kz_ => XS.lshl X23.here hx rfl (hb hby d5_53) rfl kz_) ?_
        show OwnGoes p e below _ (T23.setTop (mkF m 54 #[.val (.ref ob), .val (.long q), .second, .val (.int (-2147483648 : Int32)), .unset] [(.long (own_key q)), (.int (2 : Int32)), (.int (0 : Int32)), (.ref b)]))
        obtain ⟨_, _, ⟨T24, L24, k24, n24⟩, -, X24, ⟨Lc24, hQ24, l24, y24, z24⟩, st24⟩ := Jvm.LawKit.callS X23 hx (y := (⟨"java/util/Arrays", "binarySearch", "([JIIJ)I"⟩ : MethodName)) hown (mvT hZ (hw _ (List.mem_of_getElem? (i := 51) rfl))) (mvT hZ (hw _ (List.mem_of_getElem? (i := 52) rfl))) (mvT hZ (hw _ (List.mem_of_getElem? (i := 36) rfl))) (mvT hZ (hw _ (List.mem_of_getElem? (i := 53) rfl))) (by decide) (backOf (W := 0) (rmBS2 l Z a0 hw [] b x0 x1 tl (own_key q) h0 n0 Z0 V ht g_b) hZ (hw _ (List.mem_of_getElem? (i := 53) rfl)) (hw _ (List.mem_of_getElem? (i := 36) rfl)) (by decide) (by decide)) (g := (mkF m 54 #[.val (.ref ob), .val (.long q), .second, .val (.int (-2147483648 : Int32)), .unset] [(.long (own_key q)), (.int (2 : Int32)), (.int (0 : Int32)), (.ref b)])) rfl (by rw [hml]; rfl) (argsL := [(.ref b), (.int (0 : Int32)), (.int (2 : Int32)), (.long (own_key q))]) (rest := []) (lenOf (d := "([JIIJ)I") (ps := [(.array .long), .int, .int, .long]) (r := some .int) (by decide +kernel) rfl) rfl (by show 2 * 0 + _ ≤ _; exact Nat.le_of_eq rfl) (hb hby d5_54) (fun _ _ => ⟨rfl, e23, (by decide : 0 + 0 ≤ _), (by decide : 0 + 0 ≤ _)⟩)
        dsimp only [Pt.U, Pt.locs, Pt.cells, Pt.slots] at X24 l24 y24 z24 st24 hQ24
        subst l24 y24 z24
        obtain ⟨r_, rfl, N24q, e24, hr_⟩ := hQ24
        have N24 := Fr.app N0 N24q
        refine own_pre st24 ?_
        show OwnGoes p e below _ (T24.setTop (mkF m 57 #[.val (.ref ob), .val (.long q), .second, .val (.int (-2147483648 : Int32)), .unset] [(.int r_)]))
        rcases hr_ with rfl | rfl | rfl | rfl | rfl
        · show OwnGoes p e below _ (T24.setTop (mkF m 57 #[.val (.ref ob), .val (.long q), .second, .val (.int (-2147483648 : Int32)), .unset] [(.int (-3 : Int32))]))
          refine own_pre (fun _ kz_ => XS.istore X24.here hx rfl (hb hby d5_57) rfl (l' := #[.val (.ref ob), .val (.long q), .second, .val (.int (-2147483648 : Int32)), .val (.int (-3 : Int32))]) rfl kz_) ?_
          show OwnGoes p e below _ (T24.setTop (mkF m 59 #[.val (.ref ob), .val (.long q), .second, .val (.int (-2147483648 : Int32)), .val (.int (-3 : Int32))] []))
          refine own_pre (fun _ kz_ => XS.iload X24.here hx rfl (hb hby d5_59) rfl kz_) ?_
          show OwnGoes p e below _ (T24.setTop (mkF m 61 #[.val (.ref ob), .val (.long q), .second, .val (.int (-2147483648 : Int32)), .val (.int (-3 : Int32))] [(.int (-3 : Int32))]))
          refine own_pre (fun _ kz_ => XS.ifYes X24.here hx rfl (pc0 := 61) (pc' := 69) rfl (hb hby d5_61) rfl ((if0 _ _).trans (tlt (by decide : (-3 : Int32) < (0 : Int32))).1) (by decide) (by decide) kz_) ?_
          show OwnGoes p e below _ (T24.setTop (mkF m 69 #[.val (.ref ob), .val (.long q), .second, .val (.int (-2147483648 : Int32)), .val (.int (-3 : Int32))] []))
          refine own_pre (fun _ kz_ => XS.iload X24.here hx rfl (hb hby d5_69) rfl kz_) ?_
          show OwnGoes p e below _ (T24.setTop (mkF m 71 #[.val (.ref ob), .val (.long q), .second, .val (.int (-2147483648 : Int32)), .val (.int (-3 : Int32))] [(.int (-3 : Int32))]))
          refine own_pre (fun _ kz_ => XS.ineg X24.here hx rfl (hb hby d5_71) rfl kz_) ?_
          show OwnGoes p e below _ (T24.setTop (mkF m 72 #[.val (.ref ob), .val (.long q), .second, .val (.int (-2147483648 : Int32)), .val (.int (-3 : Int32))] [(.int (-(-3 : Int32)))]))
          rw [show (-(-3 : Int32)) = (3 : Int32) from by decide]
          show OwnGoes p e below _ (T24.setTop (mkF m 72 #[.val (.ref ob), .val (.long q), .second, .val (.int (-2147483648 : Int32)), .val (.int (-3 : Int32))] [(.int (3 : Int32))]))
          refine own_pre (fun _ kz_ => XS.iconst X24.here hx rfl (hb hby d5_72) kz_) ?_
          show OwnGoes p e below _ (T24.setTop (mkF m 73 #[.val (.ref ob), .val (.long q), .second, .val (.int (-2147483648 : Int32)), .val (.int (-3 : Int32))] [(.int (1 : Int32)), (.int (3 : Int32))]))
          refine own_pre (fun _ kz_ => XS.isub X24.here hx rfl (hb hby d5_73) rfl kz_) ?_
          show OwnGoes p e below _ (T24.setTop (mkF m 74 #[.val (.ref ob), .val (.long q), .second, .val (.int (-2147483648 : Int32)), .val (.int (-3 : Int32))] [(.int ((3 : Int32) - (1 : Int32)))]))
          rw [show ((3 : Int32) - (1 : Int32)) = (2 : Int32) from by decide]
          show OwnGoes p e below _ (T24.setTop (mkF m 74 #[.val (.ref ob), .val (.long q), .second, .val (.int (-2147483648 : Int32)), .val (.int (-3 : Int32))] [(.int (2 : Int32))]))
          refine own_pre (fun _ kz_ => XS.istore X24.here hx rfl (hb hby d5_74) rfl (l' := #[.val (.ref ob), .val (.long q), .second, .val (.int (-2147483648 : Int32)), .val (.int (2 : Int32))]) rfl kz_) ?_
          show OwnGoes p e below _ (T24.setTop (mkF m 76 #[.val (.ref ob), .val (.long q), .second, .val (.int (-2147483648 : Int32)), .val (.int (2 : Int32))] []))
          refine own_pre (fun _ kz_ => XS.iload X24.here hx rfl (hb hby d5_76) rfl kz_) ?_
          show OwnGoes p e below _ (T24.setTop (mkF m 78 #[.val (.ref ob), .val (.long q), .second, .val (.int (-2147483648 : Int32)), .val (.int (2 : Int32))] [(.int (2 : Int32))]))
          refine own_pre (fun _ kz_ => XS.aloadN X24.here hx rfl (hb hby d5_78) rfl rfl kz_) ?_
          show OwnGoes p e below _ (T24.setTop (mkF m 79 #[.val (.ref ob), .val (.long q), .second, .val (.int (-2147483648 : Int32)), .val (.int (2 : Int32))] [(.ref ob), (.int (2 : Int32))]))
          obtain ⟨T25, X25, e25, st25⟩ := getF X24 hx hZ hown (host := "") (Or.inl (hw _ (List.mem_of_getElem? (i := 25) rfl))) Via.refl e24 F1 (g := (mkF m 79 #[.val (.ref ob), .val (.long q), .second, .val (.int (-2147483648 : Int32)), .val (.int (2 : Int32))] [(.ref ob), (.int (2 : Int32))])) rfl rfl (hb hby d5_79)
          refine own_pre st25 ?_
          show OwnGoes p e below _ (T25.setTop (mkF m 82 #[.val (.ref ob), .val (.long q), .second, .val (.int (-2147483648 : Int32)), .val (.int (2 : Int32))] [(.int (2 : Int32)), (.int (2 : Int32))]))
          refine own_pre (fun _ kz_ => XS.icmpYes X25.here hx rfl (pc0 := 82) (pc' := 109) rfl (hb hby d5_82) rfl (flt (by decide : ¬ ((2 : Int32) < (2 : Int32)))).2.1 (by decide) (by decide) kz_) ?_
          show OwnGoes p e below _ (T25.setTop (mkF m 109 #[.val (.ref ob), .val (.long q), .second, .val (.int (-2147483648 : Int32)), .val (.int (2 : Int32))] []))
          refine own_pre (fun _ kz_ => XS.iloadN X25.here hx rfl (hb hby d5_109) rfl kz_) ?_
          show OwnGoes p e below _ (T25.setTop (mkF m 110 #[.val (.ref ob), .val (.long q), .second, .val (.int (-2147483648 : Int32)), .val (.int (2 : Int32))] [(.int (-2147483648 : Int32))]))
          exact own_ret X25 hx Bd.returns (rfl) (Or.inl ⟨rfl, by simp, _, rfl⟩) Bd.notSynchronized (hb hby d5_110) ⟨_, rfl, N24, _, _, _, by rw [e25]; exact ⟨b, tl, Eo, F0, F1, F2, V, ht, g_ob, g_b, hne⟩⟩ (by decide) (by decide)
        · show OwnGoes p e below _ (T24.setTop (mkF m 57 #[.val (.ref ob), .val (.long q), .second, .val (.int (-2147483648 : Int32)), .unset] [(.int (-2 : Int32))]))
          refine own_pre (fun _ kz_ => XS.istore X24.here hx rfl (hb hby d5_57) rfl (l' := #[.val (.ref ob), .val (.long q), .second, .val (.int (-2147483648 : Int32)), .val (.int (-2 : Int32))]) rfl kz_) ?_
          show OwnGoes p e below _ (T24.setTop (mkF m 59 #[.val (.ref ob), .val (.long q), .second, .val (.int (-2147483648 : Int32)), .val (.int (-2 : Int32))] []))
          refine own_pre (fun _ kz_ => XS.iload X24.here hx rfl (hb hby d5_59) rfl kz_) ?_
          show OwnGoes p e below _ (T24.setTop (mkF m 61 #[.val (.ref ob), .val (.long q), .second, .val (.int (-2147483648 : Int32)), .val (.int (-2 : Int32))] [(.int (-2 : Int32))]))
          refine own_pre (fun _ kz_ => XS.ifYes X24.here hx rfl (pc0 := 61) (pc' := 69) rfl (hb hby d5_61) rfl ((if0 _ _).trans (tlt (by decide : (-2 : Int32) < (0 : Int32))).1) (by decide) (by decide) kz_) ?_
          show OwnGoes p e below _ (T24.setTop (mkF m 69 #[.val (.ref ob), .val (.long q), .second, .val (.int (-2147483648 : Int32)), .val (.int (-2 : Int32))] []))
          refine own_pre (fun _ kz_ => XS.iload X24.here hx rfl (hb hby d5_69) rfl kz_) ?_
          show OwnGoes p e below _ (T24.setTop (mkF m 71 #[.val (.ref ob), .val (.long q), .second, .val (.int (-2147483648 : Int32)), .val (.int (-2 : Int32))] [(.int (-2 : Int32))]))
          refine own_pre (fun _ kz_ => XS.ineg X24.here hx rfl (hb hby d5_71) rfl kz_) ?_
          show OwnGoes p e below _ (T24.setTop (mkF m 72 #[.val (.ref ob), .val (.long q), .second, .val (.int (-2147483648 : Int32)), .val (.int (-2 : Int32))] [(.int (-(-2 : Int32)))]))
          rw [show (-(-2 : Int32)) = (2 : Int32) from by decide]
          show OwnGoes p e below _ (T24.setTop (mkF m 72 #[.val (.ref ob), .val (.long q), .second, .val (.int (-2147483648 : Int32)), .val (.int (-2 : Int32))] [(.int (2 : Int32))]))
          refine own_pre (fun _ kz_ => XS.iconst X24.here hx rfl (hb hby d5_72) kz_) ?_
          show OwnGoes p e below _ (T24.setTop (mkF m 73 #[.val (.ref ob), .val (.long q), .second, .val (.int (-2147483648 : Int32)), .val (.int (-2 : Int32))] [(.int (1 : Int32)), (.int (2 : Int32))]))
          refine own_pre (fun _ kz_ => XS.isub X24.here hx rfl (hb hby d5_73) rfl kz_) ?_
          show OwnGoes p e below _ (T24.setTop (mkF m 74 #[.val (.ref ob), .val (.long q), .second, .val (.int (-2147483648 : Int32)), .val (.int (-2 : Int32))] [(.int ((2 : Int32) - (1 : Int32)))]))
          rw [show ((2 : Int32) - (1 : Int32)) = (1 : Int32) from by decide]
          show OwnGoes p e below _ (T24.setTop (mkF m 74 #[.val (.ref ob), .val (.long q), .second, .val (.int (-2147483648 : Int32)), .val (.int (-2 : Int32))] [(.int (1 : Int32))]))
          refine own_pre (fun _ kz_ => XS.istore X24.here hx rfl (hb hby d5_74) rfl (l' := #[.val (.ref ob), .val (.long q), .second, .val (.int (-2147483648 : Int32)), .val (.int (1 : Int32))]) rfl kz_) ?_
          show OwnGoes p e below _ (T24.setTop (mkF m 76 #[.val (.ref ob), .val (.long q), .second, .val (.int (-2147483648 : Int32)), .val (.int (1 : Int32))] []))
          refine own_pre (fun _ kz_ => XS.iload X24.here hx rfl (hb hby d5_76) rfl kz_) ?_
          show OwnGoes p e below _ (T24.setTop (mkF m 78 #[.val (.ref ob), .val (.long q), .second, .val (.int (-2147483648 : Int32)), .val (.int (1 : Int32))] [(.int (1 : Int32))]))
          refine own_pre (fun _ kz_ => XS.aloadN X24.here hx rfl (hb hby d5_78) rfl rfl kz_) ?_
          show OwnGoes p e below _ (T24.setTop (mkF m 79 #[.val (.ref ob), .val (.long q), .second, .val (.int (-2147483648 : Int32)), .val (.int (1 : Int32))] [(.ref ob), (.int (1 : Int32))]))
          obtain ⟨T26, X26, e26, st26⟩ := getF X24 hx hZ hown (host := "") (Or.inl (hw _ (List.mem_of_getElem? (i := 25) rfl))) Via.refl e24 F1 (g := (mkF m 79 #[.val (.ref ob), .val (.long q), .second, .val (.int (-2147483648 : Int32)), .val (.int (1 : Int32))] [(.ref ob), (.int (1 : Int32))])) rfl rfl (hb hby d5_79)
          refine own_pre st26 ?_
          show OwnGoes p e below _ (T26.setTop (mkF m 82 #[.val (.ref ob), .val (.long q), .second, .val (.int (-2147483648 : Int32)), .val (.int (1 : Int32))] [(.int (2 : Int32)), (.int (1 : Int32))]))
          refine own_pre (fun _ kz_ => XS.icmpNo X26.here hx rfl (hb hby d5_82) rfl (tlt (by decide : (1 : Int32) < (2 : Int32))).2.1 kz_) ?_
          show OwnGoes p e below _ (T26.setTop (mkF m 85 #[.val (.ref ob), .val (.long q), .second, .val (.int (-2147483648 : Int32)), .val (.int (1 : Int32))] []))
          refine own_pre (fun _ kz_ => XS.aloadN X26.here hx rfl (hb hby d5_85) rfl rfl kz_) ?_
          show OwnGoes p e below _ (T26.setTop (mkF m 86 #[.val (.ref ob), .val (.long q), .second, .val (.int (-2147483648 : Int32)), .val (.int (1 : Int32))] [(.ref ob)]))
          obtain ⟨T27, X27, e27, st27⟩ := getF X26 hx hZ hown (host := "") (Or.inl (hw _ (List.mem_of_getElem? (i := 15) rfl))) Via.refl e26 F0 (g := (mkF m 86 #[.val (.ref ob), .val (.long q), .second, .val (.int (-2147483648 : Int32)), .val (.int (1 : Int32))] [(.ref ob)])) rfl rfl (hb hby d5_86)
          refine own_pre st27 ?_
          show OwnGoes p e below _ (T27.setTop (mkF m 89 #[.val (.ref ob), .val (.long q), .second, .val (.int (-2147483648 : Int32)), .val (.int (1 : Int32))] [(.ref b)]))
          refine own_pre (fun _ kz_ => XS.iload X27.here hx rfl (hb hby d5_89) rfl kz_) ?_
          show OwnGoes p e below _ (T27.setTop (mkF m 91 #[.val (.ref ob), .val (.long q), .second, .val (.int (-2147483648 : Int32)), .val (.int (1 : Int32))] [(.int (1 : Int32)), (.ref b)]))
          refine own_pre (own_lald X27 hx hZ e27 V (j := (1 : Int32)) (v := (.long x1)) (by decide) rfl (g := (mkF m 91 #[.val (.ref ob), .val (.long q), .second, .val (.int (-2147483648 : Int32)), .val (.int (1 : Int32))] [(.int (1 : Int32)), (.ref b)])) rfl rfl (hb hby d5_91)) ?_
          show OwnGoes p e below _ (T27.setTop (mkF m 92 #[.val (.ref ob), .val (.long q), .second, .val (.int (-2147483648 : Int32)), .val (.int (1 : Int32))] [(.long x1)]))
          refine own_pre (fun _ kz_ => XS.bipush X27.here hx rfl (hb hby d5_92) kz_) ?_
          show OwnGoes p e below _ (T27.setTop (mkF m 94 #[.val (.ref ob), .val (.long q), .second, .val (.int (-2147483648 : Int32)), .val (.int (1 : Int32))] [(.int (32 : Int32)), (.long x1)]))
          refine own_pre (fun _ kz_ => XS.lushr X27.here hx rfl (hb hby d5_94) rfl kz_) ?_
          show OwnGoes p e below _ (T27.setTop (mkF m 95 #[.val (.ref ob), .val (.long q), .second, .val (.int (-2147483648 : Int32)), .val (.int (1 : Int32))] [(.long (own_hi x1))]))
          refine own_pre (fun _ kz_ => XS.lloadN X27.here hx rfl (hb hby d5_95) rfl kz_) ?_
          show OwnGoes p e below _ (T27.setTop (mkF m 96 #[.val (.ref ob), .val (.long q), .second, .val (.int (-2147483648 : Int32)), .val (.int (1 : Int32))] [(.long q), (.long (own_hi x1))]))
          refine own_pre (fun _ kz_ => XS.lcmp X27.here hx rfl (hb hby d5_96) rfl kz_) ?_
          show OwnGoes p e below _ (T27.setTop (mkF m 97 #[.val (.ref ob), .val (.long q), .second, .val (.int (-2147483648 : Int32)), .val (.int (1 : Int32))] [(.int (lcmpW (own_hi x1) q))]))
          by_cases h97 : (own_hi x1) = q
          · refine own_pre (fun _ kz_ => XS.ifNo X27.here hx rfl (hb hby d5_97) rfl ((if0 _ _).trans (teq ((lw_eq (own_hi x1) q).mpr h97)).2) kz_) ?_
            show OwnGoes p e below _ (T27.setTop (mkF m 100 #[.val (.ref ob), .val (.long q), .second, .val (.int (-2147483648 : Int32)), .val (.int (1 : Int32))] []))
            refine own_pre (fun _ kz_ => XS.aloadN X27.here hx rfl (hb hby d5_100) rfl rfl kz_) ?_
            show OwnGoes p e below _ (T27.setTop (mkF m 101 #[.val (.ref ob), .val (.long q), .second, .val (.int (-2147483648 : Int32)), .val (.int (1 : Int32))] [(.ref ob)]))
            obtain ⟨T28, X28, e28, st28⟩ := getF X27 hx hZ hown (host := "") (Or.inl (hw _ (List.mem_of_getElem? (i := 15) rfl))) Via.refl e27 F0 (g := (mkF m 101 #[.val (.ref ob), .val (.long q), .second, .val (.int (-2147483648 : Int32)), .val (.int (1 : Int32))] [(.ref ob)])) rfl rfl (hb hby d5_101)
            refine own_pre st28 ?_
            show OwnGoes p e below _ (T28.setTop (mkF m 104 #[.val (.ref ob), .val (.long q), .second, .val (.int (-2147483648 : Int32)), .val (.int (1 : Int32))] [(.ref b)]))
            refine own_pre (fun _ kz_ => XS.iload X28.here hx rfl (hb hby d5_104) rfl kz_) ?_
            show OwnGoes p e below _ (T28.setTop (mkF m 106 #[.val (.ref ob), .val (.long q), .second, .val (.int (-2147483648 : Int32)), .val (.int (1 : Int32))] [(.int (1 : Int32)), (.ref b)]))
            refine own_pre (own_lald X28 hx hZ e28 V (j := (1 : Int32)) (v := (.long x1)) (by decide) rfl (g := (mkF m 106 #[.val (.ref ob), .val (.long q), .second, .val (.int (-2147483648 : Int32)), .val (.int (1 : Int32))] [(.int (1 : Int32)), (.ref b)])) rfl rfl (hb hby d5_106)) ?_
            show OwnGoes p e below _ (T28.setTop (mkF m 107 #[.val (.ref ob), .val (.long q), .second, .val (.int (-2147483648 : Int32)), .val (.int (1 : Int32))] [(.long x1)]))
            refine own_pre (fun _ kz_ => XS.l2i X28.here hx rfl (hb hby d5_107) rfl kz_) ?_
            show OwnGoes p e below _ (T28.setTop (mkF m 108 #[.val (.ref ob), .val (.long q), .second, .val (.int (-2147483648 : Int32)), .val (.int (1 : Int32))] [(.int (x1.toInt32))]))
            refine own_pre (fun _ kz_ => XS.istoreN X28.here hx rfl (hb hby d5_108) rfl (l' := #[.val (.ref ob), .val (.long q), .second, .val (.int (x1.toInt32)), .val (.int (1 : Int32))]) rfl kz_) ?_
            show OwnGoes p e below _ (T28.setTop (mkF m 109 #[.val (.ref ob), .val (.long q), .second, .val (.int (x1.toInt32)), .val (.int (1 : Int32))] []))
            refine own_pre (fun _ kz_ => XS.iloadN X28.here hx rfl (hb hby d5_109) rfl kz_) ?_
            show OwnGoes p e below _ (T28.setTop (mkF m 110 #[.val (.ref ob), .val (.long q), .second, .val (.int (x1.toInt32)), .val (.int (1 : Int32))] [(.int (x1.toInt32))]))
            exact own_ret X28 hx Bd.returns (rfl) (Or.inl ⟨rfl, by simp, _, rfl⟩) Bd.notSynchronized (hb hby d5_110) ⟨_, rfl, N24, _, _, _, by rw [e28]; exact ⟨b, tl, Eo, F0, F1, F2, V, ht, g_ob, g_b, hne⟩⟩ (by decide) (by decide)
          · refine own_pre (fun _ kz_ => XS.ifYes X27.here hx rfl (pc0 := 97) (pc' := 109) rfl (hb hby d5_97) rfl ((if0 _ _).trans (feq (fun qz_ => h97 ((lw_eq (own_hi x1) q).mp qz_))).2) (by decide) (by decide) kz_) ?_
            show OwnGoes p e below _ (T27.setTop (mkF m 109 #[.val (.ref ob), .val (.long q), .second, .val (.int (-2147483648 : Int32)), .val (.int (1 : Int32))] []))
            refine own_pre (fun _ kz_ => XS.iloadN X27.here hx rfl (hb hby d5_109) rfl kz_) ?_
            show OwnGoes p e below _ (T27.setTop (mkF m 110 #[.val (.ref ob), .val (.long q), .second, .val (.int (-2147483648 : Int32)), .val (.int (1 : Int32))] [(.int (-2147483648 : Int32))]))
            exact own_ret X27 hx Bd.returns (rfl) (Or.inl ⟨rfl, by simp, _, rfl⟩) Bd.notSynchronized (hb hby d5_110) ⟨_, rfl, N24, _, _, _, by rw [e27]; exact ⟨b, tl, Eo, F0, F1, F2, V, ht, g_ob, g_b, hne⟩⟩ (by decide) (by decide)
        · show OwnGoes p e below _ (T24.setTop (mkF m 57 #[.val (.ref ob), .val (.long q), .second, .val (.int (-2147483648 : Int32)), .unset] [(.int (-1 : Int32))]))
          refine own_pre (fun _ kz_ => XS.istore X24.here hx rfl (hb hby d5_57) rfl (l' := #[.val (.ref ob), .val (.long q), .second, .val (.int (-2147483648 : Int32)), .val (.int (-1 : Int32))]) rfl kz_) ?_
          show OwnGoes p e below _ (T24.setTop (mkF m 59 #[.val (.ref ob), .val (.long q), .second, .val (.int (-2147483648 : Int32)), .val (.int (-1 : Int32))] []))
          refine own_pre (fun _ kz_ => XS.iload X24.here hx rfl (hb hby d5_59) rfl kz_) ?_
          show OwnGoes p e below _ (T24.setTop (mkF m 61 #[.val (.ref ob), .val (.long q), .second, .val (.int (-2147483648 : Int32)), .val (.int (-1 : Int32))] [(.int (-1 : Int32))]))
          refine own_pre (fun _ kz_ => XS.ifYes X24.here hx rfl (pc0 := 61) (pc' := 69) rfl (hb hby d5_61) rfl ((if0 _ _).trans (tlt (by decide : (-1 : Int32) < (0 : Int32))).1) (by decide) (by decide) kz_) ?_
          show OwnGoes p e below _ (T24.setTop (mkF m 69 #[.val (.ref ob), .val (.long q), .second, .val (.int (-2147483648 : Int32)), .val (.int (-1 : Int32))] []))
          refine own_pre (fun _ kz_ => XS.iload X24.here hx rfl (hb hby d5_69) rfl kz_) ?_
          show OwnGoes p e below _ (T24.setTop (mkF m 71 #[.val (.ref ob), .val (.long q), .second, .val (.int (-2147483648 : Int32)), .val (.int (-1 : Int32))] [(.int (-1 : Int32))]))
          refine own_pre (fun _ kz_ => XS.ineg X24.here hx rfl (hb hby d5_71) rfl kz_) ?_
          show OwnGoes p e below _ (T24.setTop (mkF m 72 #[.val (.ref ob), .val (.long q), .second, .val (.int (-2147483648 : Int32)), .val (.int (-1 : Int32))] [(.int (-(-1 : Int32)))]))
          rw [show (-(-1 : Int32)) = (1 : Int32) from by decide]
          show OwnGoes p e below _ (T24.setTop (mkF m 72 #[.val (.ref ob), .val (.long q), .second, .val (.int (-2147483648 : Int32)), .val (.int (-1 : Int32))] [(.int (1 : Int32))]))
          refine own_pre (fun _ kz_ => XS.iconst X24.here hx rfl (hb hby d5_72) kz_) ?_
          show OwnGoes p e below _ (T24.setTop (mkF m 73 #[.val (.ref ob), .val (.long q), .second, .val (.int (-2147483648 : Int32)), .val (.int (-1 : Int32))] [(.int (1 : Int32)), (.int (1 : Int32))]))
          refine own_pre (fun _ kz_ => XS.isub X24.here hx rfl (hb hby d5_73) rfl kz_) ?_
          show OwnGoes p e below _ (T24.setTop (mkF m 74 #[.val (.ref ob), .val (.long q), .second, .val (.int (-2147483648 : Int32)), .val (.int (-1 : Int32))] [(.int ((1 : Int32) - (1 : Int32)))]))
          rw [show ((1 : Int32) - (1 : Int32)) = (0 : Int32) from by decide]
          show OwnGoes p e below _ (T24.setTop (mkF m 74 #[.val (.ref ob), .val (.long q), .second, .val (.int (-2147483648 : Int32)), .val (.int (-1 : Int32))] [(.int (0 : Int32))]))
          refine own_pre (fun _ kz_ => XS.istore X24.here hx rfl (hb hby d5_74) rfl (l' := #[.val (.ref ob), .val (.long q), .second, .val (.int (-2147483648 : Int32)), .val (.int (0 : Int32))]) rfl kz_) ?_
          show OwnGoes p e below _ (T24.setTop (mkF m 76 #[.val (.ref ob), .val (.long q), .second, .val (.int (-2147483648 : Int32)), .val (.int (0 : Int32))] []))
          refine own_pre (fun _ kz_ => XS.iload X24.here hx rfl (hb hby d5_76) rfl kz_) ?_
          show OwnGoes p e below _ (T24.setTop (mkF m 78 #[.val (.ref ob), .val (.long q), .second, .val (.int (-2147483648 : Int32)), .val (.int (0 : Int32))] [(.int (0 : Int32))]))
          refine own_pre (fun _ kz_ => XS.aloadN X24.here hx rfl (hb hby d5_78) rfl rfl kz_) ?_
          show OwnGoes p e below _ (T24.setTop (mkF m 79 #[.val (.ref ob), .val (.long q), .second, .val (.int (-2147483648 : Int32)), .val (.int (0 : Int32))] [(.ref ob), (.int (0 : Int32))]))
          obtain ⟨T29, X29, e29, st29⟩ := getF X24 hx hZ hown (host := "") (Or.inl (hw _ (List.mem_of_getElem? (i := 25) rfl))) Via.refl e24 F1 (g := (mkF m 79 #[.val (.ref ob), .val (.long q), .second, .val (.int (-2147483648 : Int32)), .val (.int (0 : Int32))] [(.ref ob), (.int (0 : Int32))])) rfl rfl (hb hby d5_79)
          refine own_pre st29 ?_
          show OwnGoes p e below _ (T29.setTop (mkF m 82 #[.val (.ref ob), .val (.long q), .second, .val (.int (-2147483648 : Int32)), .val (.int (0 : Int32))] [(.int (2 : Int32)), (.int (0 : Int32))]))
          refine own_pre (fun _ kz_ => XS.icmpNo X29.here hx rfl (hb hby d5_82) rfl (tlt (by decide : (0 : Int32) < (2 : Int32))).2.1 kz_) ?_
          show OwnGoes p e below _ (T29.setTop (mkF m 85 #[.val (.ref ob), .val (.long q), .second, .val (.int (-2147483648 : Int32)), .val (.int (0 : Int32))] []))
          refine own_pre (fun _ kz_ => XS.aloadN X29.here hx rfl (hb hby d5_85) rfl rfl kz_) ?_
          show OwnGoes p e below _ (T29.setTop (mkF m 86 #[.val (.ref ob), .val (.long q), .second, .val (.int (-2147483648 : Int32)), .val (.int (0 : Int32))] [(.ref ob)]))
          obtain ⟨T30, X30, e30, st30⟩ := getF X29 hx hZ hown (host := "") (Or.inl (hw _ (List.mem_of_getElem? (i := 15) rfl))) Via.refl e29 F0 (g := (mkF m 86 #[.val (.ref ob), .val (.long q), .second, .val (.int (-2147483648 : Int32)), .val (.int (0 : Int32))] [(.ref ob)])) rfl rfl (hb hby d5_86)
          refine own_pre st30 ?_
          show OwnGoes p e below _ (T30.setTop (mkF m 89 #[.val (.ref ob), .val (.long q), .second, .val (.int (-2147483648 : Int32)), .val (.int (0 : Int32))] [(.ref b)]))
          refine own_pre (fun _ kz_ => XS.iload X30.here hx rfl (hb hby d5_89) rfl kz_) ?_
          show OwnGoes p e below _ (T30.setTop (mkF m 91 #[.val (.ref ob), .val (.long q), .second, .val (.int (-2147483648 : Int32)), .val (.int (0 : Int32))] [(.int (0 : Int32)), (.ref b)]))
          refine own_pre (own_lald X30 hx hZ e30 V (j := (0 : Int32)) (v := (.long x0)) (by decide) rfl (g := (mkF m 91 #[.val (.ref ob), .val (.long q), .second, .val (.int (-2147483648 : Int32)), .val (.int (0 : Int32))] [(.int (0 : Int32)), (.ref b)])) rfl rfl (hb hby d5_91)) ?_
          show OwnGoes p e below _ (T30.setTop (mkF m 92 #[.val (.ref ob), .val (.long q), .second, .val (.int (-2147483648 : Int32)), .val (.int (0 : Int32))] [(.long x0)]))
          refine own_pre (fun _ kz_ => XS.bipush X30.here hx rfl (hb hby d5_92) kz_) ?_
          show OwnGoes p e below _ (T30.setTop (mkF m 94 #[.val (.ref ob), .val (.long q), .second, .val (.int (-2147483648 : Int32)), .val (.int (0 : Int32))] [(.int (32 : Int32)), (.long x0)]))
          refine own_pre (fun _ kz_ => XS.lushr X30.here hx rfl (hb hby d5_94) rfl kz_) ?_
          show OwnGoes p e below _ (T30.setTop (mkF m 95 #[.val (.ref ob), .val (.long q), .second, .val (.int (-2147483648 : Int32)), .val (.int (0 : Int32))] [(.long (own_hi x0))]))
          refine own_pre (fun _ kz_ => XS.lloadN X30.here hx rfl (hb hby d5_95) rfl kz_) ?_
          show OwnGoes p e below _ (T30.setTop (mkF m 96 #[.val (.ref ob), .val (.long q), .second, .val (.int (-2147483648 : Int32)), .val (.int (0 : Int32))] [(.long q), (.long (own_hi x0))]))
          refine own_pre (fun _ kz_ => XS.lcmp X30.here hx rfl (hb hby d5_96) rfl kz_) ?_
          show OwnGoes p e below _ (T30.setTop (mkF m 97 #[.val (.ref ob), .val (.long q), .second, .val (.int (-2147483648 : Int32)), .val (.int (0 : Int32))] [(.int (lcmpW (own_hi x0) q))]))
          by_cases h97 : (own_hi x0) = q
          · refine own_pre (fun _ kz_ => XS.ifNo X30.here hx rfl (hb hby d5_97) rfl ((if0 _ _).trans (teq ((lw_eq (own_hi x0) q).mpr h97)).2) kz_) ?_
            show OwnGoes p e below _ (T30.setTop (mkF m 100 #[.val (.ref ob), .val (.long q), .second, .val (.int (-2147483648 : Int32)), .val (.int (0 : Int32))] []))
            refine own_pre (fun _ kz_ => XS.aloadN X30.here hx rfl (hb hby d5_100) rfl rfl kz_) ?_
            show OwnGoes p e below _ (T30.setTop (mkF m 101 #[.val (.ref ob), .val (.long q), .second, .val (.int (-2147483648 : Int32)), .val (.int (0 : Int32))] [(.ref ob)]))
            obtain ⟨T31, X31, e31, st31⟩ := getF X30 hx hZ hown (host := "") (Or.inl (hw _ (List.mem_of_getElem? (i := 15) rfl))) Via.refl e30 F0 (g := (mkF m 101 #[.val (.ref ob), .val (.long q), .second, .val (.int (-2147483648 : Int32)), .val (.int (0 : Int32))] [(.ref ob)])) rfl rfl (hb hby d5_101)
            refine own_pre st31 ?_
            show OwnGoes p e below _ (T31.setTop (mkF m 104 #[.val (.ref ob), .val (.long q), .second, .val (.int (-2147483648 : Int32)), .val (.int (0 : Int32))] [(.ref b)]))
            refine own_pre (fun _ kz_ => XS.iload X31.here hx rfl (hb hby d5_104) rfl kz_) ?_
            show OwnGoes p e below _ (T31.setTop (mkF m 106 #[.val (.ref ob), .val (.long q), .second, .val (.int (-2147483648 : Int32)), .val (.int (0 : Int32))] [(.int (0 : Int32)), (.ref b)]))
            refine own_pre (own_lald X31 hx hZ e31 V (j := (0 : Int32)) (v := (.long x0)) (by decide) rfl (g := (mkF m 106 #[.val (.ref ob), .val (.long q), .second, .val (.int (-2147483648 : Int32)), .val (.int (0 : Int32))] [(.int (0 : Int32)), (.ref b)])) rfl rfl (hb hby d5_106)) ?_
            show OwnGoes p e below _ (T31.setTop (mkF m 107 #[.val (.ref ob), .val (.long q), .second, .val (.int (-2147483648 : Int32)), .val (.int (0 : Int32))] [(.long x0)]))
            refine own_pre (fun _ kz_ => XS.l2i X31.here hx rfl (hb hby d5_107) rfl kz_) ?_
            show OwnGoes p e below _ (T31.setTop (mkF m 108 #[.val (.ref ob), .val (.long q), .second, .val (.int (-2147483648 : Int32)), .val (.int (0 : Int32))] [(.int (x0.toInt32))]))
            refine own_pre (fun _ kz_ => XS.istoreN X31.here hx rfl (hb hby d5_108) rfl (l' := #[.val (.ref ob), .val (.long q), .second, .val (.int (x0.toInt32)), .val (.int (0 : Int32))]) rfl kz_) ?_
            show OwnGoes p e below _ (T31.setTop (mkF m 109 #[.val (.ref ob), .val (.long q), .second, .val (.int (x0.toInt32)), .val (.int (0 : Int32))] []))
            refine own_pre (fun _ kz_ => XS.iloadN X31.here hx rfl (hb hby d5_109) rfl kz_) ?_
            show OwnGoes p e below _ (T31.setTop (mkF m 110 #[.val (.ref ob), .val (.long q), .second, .val (.int (x0.toInt32)), .val (.int (0 : Int32))] [(.int (x0.toInt32))]))
            exact own_ret X31 hx Bd.returns (rfl) (Or.inl ⟨rfl, by simp, _, rfl⟩) Bd.notSynchronized (hb hby d5_110) ⟨_, rfl, N24, _, _, _, by rw [e31]; exact ⟨b, tl, Eo, F0, F1, F2, V, ht, g_ob, g_b, hne⟩⟩ (by decide) (by decide)
          · refine own_pre (fun _ kz_ => XS.ifYes X30.here hx rfl (pc0 := 97) (pc' := 109) rfl (hb hby d5_97) rfl ((if0 _ _).trans (feq (fun qz_ => h97 ((lw_eq (own_hi x0) q).mp qz_))).2) (by decide) (by decide) kz_) ?_
            show OwnGoes p e below _ (T30.setTop (mkF m 109 #[.val (.ref ob), .val (.long q), .second, .val (.int (-2147483648 : Int32)), .val (.int (0 : Int32))] []))
            refine own_pre (fun _ kz_ => XS.iloadN X30.here hx rfl (hb hby d5_109) rfl kz_) ?_
            show OwnGoes p e below _ (T30.setTop (mkF m 110 #[.val (.ref ob), .val (.long q), .second, .val (.int (-2147483648 : Int32)), .val (.int (0 : Int32))] [(.int (-2147483648 : Int32))]))
            exact own_ret X30 hx Bd.returns (rfl) (Or.inl ⟨rfl, by simp, _, rfl⟩) Bd.notSynchronized (hb hby d5_110) ⟨_, rfl, N24, _, _, _, by rw [e30]; exact ⟨b, tl, Eo, F0, F1, F2, V, ht, g_ob, g_b, hne⟩⟩ (by decide) (by decide)
        · show OwnGoes p e below _ (T24.setTop (mkF m 57 #[.val (.ref ob), .val (.long q), .second, .val (.int (-2147483648 : Int32)), .unset] [(.int (0 : Int32))]))
          refine own_pre (fun _ kz_ => XS.istore X24.here hx rfl (hb hby d5_57) rfl (l' := #[.val (.ref ob), .val (.long q), .second, .val (.int (-2147483648 : Int32)), .val (.int (0 : Int32))]) rfl kz_) ?_
          show OwnGoes p e below _ (T24.setTop (mkF m 59 #[.val (.ref ob), .val (.long q), .second, .val (.int (-2147483648 : Int32)), .val (.int (0 : Int32))] []))
          refine own_pre (fun _ kz_ => XS.iload X24.here hx rfl (hb hby d5_59) rfl kz_) ?_
          show OwnGoes p e below _ (T24.setTop (mkF m 61 #[.val (.ref ob), .val (.long q), .second, .val (.int (-2147483648 : Int32)), .val (.int (0 : Int32))] [(.int (0 : Int32))]))
          refine own_pre (fun _ kz_ => XS.ifNo X24.here hx rfl (hb hby d5_61) rfl ((if0 _ _).trans (flt (by decide : ¬ ((0 : Int32) < (0 : Int32)))).1) kz_) ?_
          show OwnGoes p e below _ (T24.setTop (mkF m 64 #[.val (.ref ob), .val (.long q), .second, .val (.int (-2147483648 : Int32)), .val (.int (0 : Int32))] []))
          refine own_pre (fun _ kz_ => XS.iload X24.here hx rfl (hb hby d5_64) rfl kz_) ?_
          show OwnGoes p e below _ (T24.setTop (mkF m 66 #[.val (.ref ob), .val (.long q), .second, .val (.int (-2147483648 : Int32)), .val (.int (0 : Int32))] [(.int (0 : Int32))]))
          refine own_pre (fun _ kz_ => XS.goto X24.here hx rfl (pc0 := 66) (pc' := 74) rfl (hb hby d5_66) (by decide) (by decide) kz_) ?_
          show OwnGoes p e below _ (T24.setTop (mkF m 74 #[.val (.ref ob), .val (.long q), .second, .val (.int (-2147483648 : Int32)), .val (.int (0 : Int32))] [(.int (0 : Int32))]))
          refine own_pre (fun _ kz_ => XS.istore X24.here hx rfl (hb hby d5_74) rfl (l' := #[.val (.ref ob), .val (.long q), .second, .val (.int (-2147483648 : Int32)), .val (.int (0 : Int32))]) rfl kz_) ?_
          show OwnGoes p e below _ (T24.setTop (mkF m 76 #[.val (.ref ob), .val (.long q), .second, .val (.int (-2147483648 : Int32)), .val (.int (0 : Int32))] []))
          refine own_pre (fun _ kz_ => XS.iload X24.here hx rfl (hb hby d5_76) rfl kz_) ?_
          show OwnGoes p e below _ (T24.setTop (mkF m 78 #[.val (.ref ob), .val (.long q), .second, .val (.int (-2147483648 : Int32)), .val (.int (0 : Int32))] [(.int (0 : Int32))]))
          refine own_pre (fun _ kz_ => XS.aloadN X24.here hx rfl (hb hby d5_78) rfl rfl kz_) ?_
          show OwnGoes p e below _ (T24.setTop (mkF m 79 #[.val (.ref ob), .val (.long q), .second, .val (.int (-2147483648 : Int32)), .val (.int (0 : Int32))] [(.ref ob), (.int (0 : Int32))]))
          obtain ⟨T32, X32, e32, st32⟩ := getF X24 hx hZ hown (host := "") (Or.inl (hw _ (List.mem_of_getElem? (i := 25) rfl))) Via.refl e24 F1 (g := (mkF m 79 #[.val (.ref ob), .val (.long q), .second, .val (.int (-2147483648 : Int32)), .val (.int (0 : Int32))] [(.ref ob), (.int (0 : Int32))])) rfl rfl (hb hby d5_79)
          refine own_pre st32 ?_
          show OwnGoes p e below _ (T32.setTop (mkF m 82 #[.val (.ref ob), .val (.long q), .second, .val (.int (-2147483648 : Int32)), .val (.int (0 : Int32))] [(.int (2 : Int32)), (.int (0 : Int32))]))
          refine own_pre (fun _ kz_ => XS.icmpNo X32.here hx rfl (hb hby d5_82) rfl (tlt (by decide : (0 : Int32) < (2 : Int32))).2.1 kz_) ?_
          show OwnGoes p e below _ (T32.setTop (mkF m 85 #[.val (.ref ob), .val (.long q), .second, .val (.int (-2147483648 : Int32)), .val (.int (0 : Int32))] []))
          refine own_pre (fun _ kz_ => XS.aloadN X32.here hx rfl (hb hby d5_85) rfl rfl kz_) ?_
          show OwnGoes p e below _ (T32.setTop (mkF m 86 #[.val (.ref ob), .val (.long q), .second, .val (.int (-2147483648 : Int32)), .val (.int (0 : Int32))] [(.ref ob)]))
          obtain ⟨T33, X33, e33, st33⟩ := getF X32 hx hZ hown (host := "") (Or.inl (hw _ (List.mem_of_getElem? (i := 15) rfl))) Via.refl e32 F0 (g := (mkF m 86 #[.val (.ref ob), .val (.long q), .second, .val (.int (-2147483648 : Int32)), .val (.int (0 : Int32))] [(.ref ob)])) rfl rfl (hb hby d5_86)
          refine own_pre st33 ?_
          show OwnGoes p e below _ (T33.setTop (mkF m 89 #[.val (.ref ob), .val (.long q), .second, .val (.int (-2147483648 : Int32)), .val (.int (0 : Int32))] [(.ref b)]))
          refine own_pre (fun _ kz_ => XS.iload X33.here hx rfl (hb hby d5_89) rfl kz_) ?_
          show OwnGoes p e below _ (T33.setTop (mkF m 91 #[.val (.ref ob), .val (.long q), .second, .val (.int (-2147483648 : Int32)), .val (.int (0 : Int32))] [(.int (0 : Int32)), (.ref b)]))
          refine own_pre (own_lald X33 hx hZ e33 V (j := (0 : Int32)) (v := (.long x0)) (by decide) rfl (g := (mkF m 91 #[.val (.ref ob), .val (.long q), .second, .val (.int (-2147483648 : Int32)), .val (.int (0 : Int32))] [(.int (0 : Int32)), (.ref b)])) rfl rfl (hb hby d5_91)) ?_
          show OwnGoes p e below _ (T33.setTop (mkF m 92 #[.val (.ref ob), .val (.long q), .second, .val (.int (-2147483648 : Int32)), .val (.int (0 : Int32))] [(.long x0)]))
          refine own_pre (fun _ kz_ => XS.bipush X33.here hx rfl (hb hby d5_92) kz_) ?_
          show OwnGoes p e below _ (T33.setTop (mkF m 94 #[.val (.ref ob), .val (.long q), .second, .val (.int (-2147483648 : Int32)), .val (.int (0 : Int32))] [(.int (32 : Int32)), (.long x0)]))
          refine own_pre (fun _ kz_ => XS.lushr X33.here hx rfl (hb hby d5_94) rfl kz_) ?_
          show OwnGoes p e below _ (T33.setTop (mkF m 95 #[.val (.ref ob), .val (.long q), .second, .val (.int (-2147483648 : Int32)), .val (.int (0 : Int32))] [(.long (own_hi x0))]))
          refine own_pre (fun _ kz_ => XS.lloadN X33.here hx rfl (hb hby d5_95) rfl kz_) ?_
          show OwnGoes p e below _ (T33.setTop (mkF m 96 #[.val (.ref ob), .val (.long q), .second, .val (.int (-2147483648 : Int32)), .val (.int (0 : Int32))] [(.long q), (.long (own_hi x0))]))
          refine own_pre (fun _ kz_ => XS.lcmp X33.here hx rfl (hb hby d5_96) rfl kz_) ?_
          show OwnGoes p e below _ (T33.setTop (mkF m 97 #[.val (.ref ob), .val (.long q), .second, .val (.int (-2147483648 : Int32)), .val (.int (0 : Int32))] [(.int (lcmpW (own_hi x0) q))]))
          by_cases h97 : (own_hi x0) = q
          · refine own_pre (fun _ kz_ => XS.ifNo X33.here hx rfl (hb hby d5_97) rfl ((if0 _ _).trans (teq ((lw_eq (own_hi x0) q).mpr h97)).2) kz_) ?_
            show OwnGoes p e below _ (T33.setTop (mkF m 100 #[.val (.ref ob), .val (.long q), .second, .val (.int (-2147483648 : Int32)), .val (.int (0 : Int32))] []))
            refine own_pre (fun _ kz_ => XS.aloadN X33.here hx rfl (hb hby d5_100) rfl rfl kz_) ?_
            show OwnGoes p e below _ (T33.setTop (mkF m 101 #[.val (.ref ob), .val (.long q), .second, .val (.int (-2147483648 : Int32)), .val (.int (0 : Int32))] [(.ref ob)]))
            obtain ⟨T34, X34, e34, st34⟩ := getF X33 hx hZ hown (host := "") (Or.inl (hw _ (List.mem_of_getElem? (i := 15) rfl))) Via.refl e33 F0 (g := (mkF m 101 #[.val (.ref ob), .val (.long q), .second, .val (.int (-2147483648 : Int32)), .val (.int (0 : Int32))] [(.ref ob)])) rfl rfl (hb hby d5_101)
            refine own_pre st34 ?_
            show OwnGoes p e below _ (T34.setTop (mkF m 104 #[.val (.ref ob), .val (.long q), .second, .val (.int (-2147483648 : Int32)), .val (.int (0 : Int32))] [(.ref b)]))
            refine own_pre (fun _ kz_ => XS.iload X34.here hx rfl (hb hby d5_104) rfl kz_) ?_
            show OwnGoes p e below _ (T34.setTop (mkF m 106 #[.val (.ref ob), .val (.long q), .second, .val (.int (-2147483648 : Int32)), .val (.int (0 : Int32))] [(.int (0 : Int32)), (.ref b)]))
            refine own_pre (own_lald X34 hx hZ e34 V (j := (0 : Int32)) (v := (.long x0)) (by decide) rfl (g := (mkF m 106 #[.val (.ref ob), .val (.long q), .second, .val (.int (-2147483648 : Int32)), .val (.int (0 : Int32))] [(.int (0 : Int32)), (.ref b)])) rfl rfl (hb hby d5_106)) ?_
            show OwnGoes p e below _ (T34.setTop (mkF m 107 #[.val (.ref ob), .val (.long q), .second, .val (.int (-2147483648 : Int32)), .val (.int (0 : Int32))] [(.long x0)]))
            refine own_pre (fun _ kz_ => XS.l2i X34.here hx rfl (hb hby d5_107) rfl kz_) ?_
            show OwnGoes p e below _ (T34.setTop (mkF m 108 #[.val (.ref ob), .val (.long q), .second, .val (.int (-2147483648 : Int32)), .val (.int (0 : Int32))] [(.int (x0.toInt32))]))
            refine own_pre (fun _ kz_ => XS.istoreN X34.here hx rfl (hb hby d5_108) rfl (l' := #[.val (.ref ob), .val (.long q), .second, .val (.int (x0.toInt32)), .val (.int (0 : Int32))]) rfl kz_) ?_
            show OwnGoes p e below _ (T34.setTop (mkF m 109 #[.val (.ref ob), .val (.long q), .second, .val (.int (x0.toInt32)), .val (.int (0 : Int32))] []))
            refine own_pre (fun _ kz_ => XS.iloadN X34.here hx rfl (hb hby d5_109) rfl kz_) ?_
            show OwnGoes p e below _ (T34.setTop (mkF m 110 #[.val (.ref ob), .val (.long q), .second, .val (.int (x0.toInt32)), .val (.int (0 : Int32))] [(.int (x0.toInt32))]))
            exact own_ret X34 hx Bd.returns (rfl) (Or.inl ⟨rfl, by simp, _, rfl⟩) Bd.notSynchronized (hb hby d5_110) ⟨_, rfl, N24, _, _, _, by rw [e34]; exact ⟨b, tl, Eo, F0, F1, F2, V, ht, g_ob, g_b, hne⟩⟩ (by decide) (by decide)
          · refine own_pre (fun _ kz_ => XS.ifYes X33.here hx rfl (pc0 := 97) (pc' := 109) rfl (hb hby d5_97) rfl ((if0 _ _).trans (feq (fun qz_ => h97 ((lw_eq (own_hi x0) q).mp qz_))).2) (by decide) (by decide) kz_) ?_
            show OwnGoes p e below _ (T33.setTop (mkF m 109 #[.val (.ref ob), .val (.long q), .second, .val (.int (-2147483648 : Int32)), .val (.int (0 : Int32))] []))
            refine own_pre (fun _ kz_ => XS.iloadN X33.here hx rfl (hb hby d5_109) rfl kz_) ?_
            show OwnGoes p e below _ (T33.setTop (mkF m 110 #[.val (.ref ob), .val (.long q), .second, .val (.int (-2147483648 : Int32)), .val (.int (0 : Int32))] [(.int (-2147483648 : Int32))]))
            exact own_ret X33 hx Bd.returns (rfl) (Or.inl ⟨rfl, by simp, _, rfl⟩) Bd.notSynchronized (hb hby d5_110) ⟨_, rfl, N24, _, _, _, by rw [e33]; exact ⟨b, tl, Eo, F0, F1, F2, V, ht, g_ob, g_b, hne⟩⟩ (by decide) (by decide)
        · show OwnGoes p e below _ (T24.setTop (mkF m 57 #[.val (.ref ob), .val (.long q), .second, .val (.int (-2147483648 : Int32)), .unset] [(.int (1 : Int32))]))
          refine own_pre (fun _ kz_ => XS.istore X24.here hx rfl (hb hby d5_57) rfl (l' := #[.val (.ref ob), .val (.long q), .second, .val (.int (-2147483648 : Int32)), .val (.int (1 : Int32))]) rfl kz_) ?_
          show OwnGoes p e below _ (T24.setTop (mkF m 59 #[.val (.ref ob), .val (.long q), .second, .val (.int (-2147483648 : Int32)), .val (.int (1 : Int32))] []))
          refine own_pre (fun _ kz_ => XS.iload X24.here hx rfl (hb hby d5_59) rfl kz_) ?_
          show OwnGoes p e below _ (T24.setTop (mkF m 61 #[.val (.ref ob), .val (.long q), .second, .val (.int (-2147483648 : Int32)), .val (.int (1 : Int32))] [(.int (1 : Int32))]))
          refine own_pre (fun _ kz_ => XS.ifNo X24.here hx rfl (hb hby d5_61) rfl ((if0 _ _).trans (flt (by decide : ¬ ((1 : Int32) < (0 : Int32)))).1) kz_) ?_
          show OwnGoes p e below _ (T24.setTop (mkF m 64 #[.val (.ref ob), .val (.long q), .second, .val (.int (-2147483648 : Int32)), .val (.int (1 : Int32))] []))
          refine own_pre (fun _ kz_ => XS.iload X24.here hx rfl (hb hby d5_64) rfl kz_) ?_
          show OwnGoes p e below _ (T24.setTop (mkF m 66 #[.val (.ref ob), .val (.long q), .second, .val (.int (-2147483648 : Int32)), .val (.int (1 : Int32))] [(.int (1 : Int32))]))
          refine own_pre (fun _ kz_ => XS.goto X24.here hx rfl (pc0 := 66) (pc' := 74) rfl (hb hby d5_66) (by decide) (by decide) kz_) ?_
          show OwnGoes p e below _ (T24.setTop (mkF m 74 #[.val (.ref ob), .val (.long q), .second, .val (.int (-2147483648 : Int32)), .val (.int (1 : Int32))] [(.int (1 : Int32))]))
          refine own_pre (fun _ kz_ => XS.istore X24.here hx rfl (hb hby d5_74) rfl (l' := #[.val (.ref ob), .val (.long q), .second, .val (.int (-2147483648 : Int32)), .val (.int (1 : Int32))]) rfl kz_) ?_
          show OwnGoes p e below _ (T24.setTop (mkF m 76 #[.val (.ref ob), .val (.long q), .second, .val (.int (-2147483648 : Int32)), .val (.int (1 : Int32))] []))
          refine own_pre (fun _ kz_ => XS.iload X24.here hx rfl (hb hby d5_76) rfl kz_) ?_
          show OwnGoes p e below _ (T24.setTop (mkF m 78 #[.val (.ref ob), .val (.long q), .second, .val (.int (-2147483648 : Int32)), .val (.int (1 : Int32))] [(.int (1 : Int32))]))
          refine own_pre (fun _ kz_ => XS.aloadN X24.here hx rfl (hb hby d5_78) rfl rfl kz_) ?_
          show OwnGoes p e below _ (T24.setTop (mkF m 79 #[.val (.ref ob), .val (.long q), .second, .val (.int (-2147483648 : Int32)), .val (.int (1 : Int32))] [(.ref ob), (.int (1 : Int32))]))
          obtain ⟨T35, X35, e35, st35⟩ := getF X24 hx hZ hown (host := "") (Or.inl (hw _ (List.mem_of_getElem? (i := 25) rfl))) Via.refl e24 F1 (g := (mkF m 79 #[.val (.ref ob), .val (.long q), .second, .val (.int (-2147483648 : Int32)), .val (.int (1 : Int32))] [(.ref ob), (.int (1 : Int32))])) rfl rfl (hb hby d5_79)
          refine own_pre st35 ?_
          show OwnGoes p e below _ (T35.setTop (mkF m 82 #[.val (.ref ob), .val (.long q), .second, .val (.int (-2147483648 : Int32)), .val (.int (1 : Int32))] [(.int (2 : Int32)), (.int (1 : Int32))]))
          refine own_pre (fun _ kz_ => XS.icmpNo X35.here hx rfl (hb hby d5_82) rfl (tlt (by decide : (1 : Int32) < (2 : Int32))).2.1 kz_) ?_
          show OwnGoes p e below _ (T35.setTop (mkF m 85 #[.val (.ref ob), .val (.long q), .second, .val (.int (-2147483648 : Int32)), .val (.int (1 : Int32))] []))
          refine own_pre (fun _ kz_ => XS.aloadN X35.here hx rfl (hb hby d5_85) rfl rfl kz_) ?_
          show OwnGoes p e below _ (T35.setTop (mkF m 86 #[.val (.ref ob), .val (.long q), .second, .val (.int (-2147483648 : Int32)), .val (.int (1 : Int32))] [(.ref ob)]))
          obtain ⟨T36, X36, e36, st36⟩ := getF X35 hx hZ hown (host := "") (Or.inl (hw _ (List.mem_of_getElem? (i := 15) rfl))) Via.refl e35 F0 (g := (mkF m 86 #[.val (.ref ob), .val (.long q), .second, .val (.int (-2147483648 : Int32)), .val (.int (1 : Int32))] [(.ref ob)])) rfl rfl (hb hby d5_86)
          refine own_pre st36 ?_
          show OwnGoes p e below _ (T36.setTop (mkF m 89 #[.val (.ref ob), .val (.long q), .second, .val (.int (-2147483648 : Int32)), .val (.int (1 : Int32))] [(.ref b)]))
          refine own_pre (fun _ kz_ => XS.iload X36.here hx rfl (hb hby d5_89) rfl kz_) ?_
          show OwnGoes p e below _ (T36.setTop (mkF m 91 #[.val (.ref ob), .val (.long q), .second, .val (.int (-2147483648 : Int32)), .val (.int (1 : Int32))] [(.int (1 : Int32)), (.ref b)]))
          refine own_pre (own_lald X36 hx hZ e36 V (j := (1 : Int32)) (v := (.long x1)) (by decide) rfl (g := (mkF m 91 #[.val (.ref ob), .val (.long q), .second, .val (.int (-2147483648 : Int32)), .val (.int (1 : Int32))] [(.int (1 : Int32)), (.ref b)])) rfl rfl (hb hby d5_91)) ?_
          show OwnGoes p e below _ (T36.setTop (mkF m 92 #[.val (.ref ob), .val (.long q), .second, .val (.int (-2147483648 : Int32)), .val (.int (1 : Int32))] [(.long x1)]))
          refine own_pre (fun _ kz_ => XS.bipush X36.here hx rfl (hb hby d5_92) kz_) ?_
          show OwnGoes p e below _ (T36.setTop (mkF m 94 #[.val (.ref ob), .val (.long q), .second, .val (.int (-2147483648 : Int32)), .val (.int (1 : Int32))] [(.int (32 : Int32)), (.long x1)]))
          refine own_pre (fun _ kz_ => XS.lushr X36.here hx rfl (hb hby d5_94) rfl kz_) ?_
          show OwnGoes p e below _ (T36.setTop (mkF m 95 #[.val (.ref ob), .val (.long q), .second, .val (.int (-2147483648 : Int32)), .val (.int (1 : Int32))] [(.long (own_hi x1))]))
          refine own_pre (fun _ kz_ => XS.lloadN X36.here hx rfl (hb hby d5_95) rfl kz_) ?_
          show OwnGoes p e below _ (T36.setTop (mkF m 96 #[.val (.ref ob), .val (.long q), .second, .val (.int (-2147483648 : Int32)), .val (.int (1 : Int32))] [(.long q), (.long (own_hi x1))]))
          refine own_pre (fun _ kz_ => XS.lcmp X36.here hx rfl (hb hby d5_96) rfl kz_) ?_
          show OwnGoes p e below _ (T36.setTop (mkF m 97 #[.val (.ref ob), .val (.long q), .second, .val (.int (-2147483648 : Int32)), .val (.int (1 : Int32))] [(.int (lcmpW (own_hi x1) q))]))
          by_cases h97 : (own_hi x1) = q
          · refine own_pre (fun _ kz_ => XS.ifNo X36.here hx rfl (hb hby d5_97) rfl ((if0 _ _).trans (teq ((lw_eq (own_hi x1) q).mpr h97)).2) kz_) ?_
            show OwnGoes p e below _ (T36.setTop (mkF m 100 #[.val (.ref ob), .val (.long q), .second, .val (.int (-2147483648 : Int32)), .val (.int (1 : Int32))] []))
            refine own_pre (fun _ kz_ => XS.aloadN X36.here hx rfl (hb hby d5_100) rfl rfl kz_) ?_
            show OwnGoes p e below _ (T36.setTop (mkF m 101 #[.val (.ref ob), .val (.long q), .second, .val (.int (-2147483648 : Int32)), .val (.int (1 : Int32))] [(.ref ob)]))
            obtain ⟨T37, X37, e37, st37⟩ := getF X36 hx hZ hown (host := "") (Or.inl (hw _ (List.mem_of_getElem? (i := 15) rfl))) Via.refl e36 F0 (g := (mkF m 101 #[.val (.ref ob), .val (.long q), .second, .val (.int (-2147483648 : Int32)), .val (.int (1 : Int32))] [(.ref ob)])) rfl rfl (hb hby d5_101)
            refine own_pre st37 ?_
            show OwnGoes p e below _ (T37.setTop (mkF m 104 #[.val (.ref ob), .val (.long q), .second, .val (.int (-2147483648 : Int32)), .val (.int (1 : Int32))] [(.ref b)]))
            refine own_pre (fun _ kz_ => XS.iload X37.here hx rfl (hb hby d5_104) rfl kz_) ?_
            show OwnGoes p e below _ (T37.setTop (mkF m 106 #[.val (.ref ob), .val (.long q), .second, .val (.int (-2147483648 : Int32)), .val (.int (1 : Int32))] [(.int (1 : Int32)), (.ref b)]))
            refine own_pre (own_lald X37 hx hZ e37 V (j := (1 : Int32)) (v := (.long x1)) (by decide) rfl (g := (mkF m 106 #[.val (.ref ob), .val (.long q), .second, .val (.int (-2147483648 : Int32)), .val (.int (1 : Int32))] [(.int (1 : Int32)), (.ref b)])) rfl rfl (hb hby d5_106)) ?_
            show OwnGoes p e below _ (T37.setTop (mkF m 107 #[.val (.ref ob), .val (.long q), .second, .val (.int (-2147483648 : Int32)), .val (.int (1 : Int32))] [(.long x1)]))
            refine own_pre (fun _ kz_ => XS.l2i X37.here hx rfl (hb hby d5_107) rfl kz_) ?_
            show OwnGoes p e below _ (T37.setTop (mkF m 108 #[.val (.ref ob), .val (.long q), .second, .val (.int (-2147483648 : Int32)), .val (.int (1 : Int32))] [(.int (x1.toInt32))]))
            refine own_pre (fun _ kz_ => XS.istoreN X37.here hx rfl (hb hby d5_108) rfl (l' := #[.val (.ref ob), .val (.long q), .second, .val (.int (x1.toInt32)), .val (.int (1 : Int32))]) rfl kz_) ?_
            show OwnGoes p e below _ (T37.setTop (mkF m 109 #[.val (.ref ob), .val (.long q), .second, .val (.int (x1.toInt32)), .val (.int (1 : Int32))] []))
            refine own_pre (fun _ kz_ => XS.iloadN X37.here hx rfl (hb hby d5_109) rfl kz_) ?_
            show OwnGoes p e below _ (T37.setTop (mkF m 110 #[.val (.ref ob), .val (.long q), .second, .val (.int (x1.toInt32)), .val (.int (1 : Int32))] [(.int (x1.toInt32))]))
            exact own_ret X37 hx Bd.returns (rfl) (Or.inl ⟨rfl, by simp, _, rfl⟩) Bd.notSynchronized (hb hby d5_110) ⟨_, rfl, N24, _, _, _, by rw [e37]; exact ⟨b, tl, Eo, F0, F1, F2, V, ht, g_ob, g_b, hne⟩⟩ (by decide) (by decide)
          · refine own_pre (fun _ kz_ => XS.ifYes X36.here hx rfl (pc0 := 97) (pc' := 109) rfl (hb hby d5_97) rfl ((if0 _ _).trans (feq (fun qz_ => h97 ((lw_eq (own_hi x1) q).mp qz_))).2) (by decide) (by decide) kz_) ?_
            show OwnGoes p e below _ (T36.setTop (mkF m 109 #[.val (.ref ob), .val (.long q), .second, .val (.int (-2147483648 : Int32)), .val (.int (1 : Int32))] []))
            refine own_pre (fun _ kz_ => XS.iloadN X36.here hx rfl (hb hby d5_109) rfl kz_) ?_
            show OwnGoes p e below _ (T36.setTop (mkF m 110 #[.val (.ref ob), .val (.long q), .second, .val (.int (-2147483648 : Int32)), .val (.int (1 : Int32))] [(.int (-2147483648 : Int32))]))
            exact own_ret X36 hx Bd.returns (rfl) (Or.inl ⟨rfl, by simp, _, rfl⟩) Bd.notSynchronized (hb hby d5_110) ⟨_, rfl, N24, _, _, _, by rw [e36]; exact ⟨b, tl, Eo, F0, F1, F2, V, ht, g_ob, g_b, hne⟩⟩ (by decide) (by decide)
  · refine own_pre (fun _ kz_ => XS.ifYes X0.here hx rfl (pc0 := 6) (pc' := 109) rfl (hb hby d5_6) rfl ((if0 _ _).trans (flt (fun qz_ => h6 ((lw_gt q (0 : Int64)).mp qz_))).2.2.2) (by decide) (by decide) kz_) ?_
    show OwnGoes p e below _ (s₁.setTop (mkF m 109 #[.val (.ref ob), .val (.long q), .second, .val (.int (-2147483648 : Int32)), .unset] []))
    refine own_pre (fun _ kz_ => XS.iloadN X0.here hx rfl (hb hby d5_109) rfl kz_) ?_
    show OwnGoes p e below _ (s₁.setTop (mkF m 110 #[.val (.ref ob), .val (.long q), .second, .val (.int (-2147483648 : Int32)), .unset] [(.int (-2147483648 : Int32))]))
    exact own_ret X0 hx Bd.returns (rfl) (Or.inl ⟨rfl, by simp, _, rfl⟩) Bd.notSynchronized (hb hby d5_110) ⟨_, rfl, N0, _, _, _, by rw [e0]; exact ⟨b, tl, Eo, F0, F1, F2, V, ht, g_ob, g_b, hne⟩⟩ (by decide) (by decide)
def Q0  (h0 : Heap) (n0 : Nat) (v : Option Value) (h : Heap) (L : List Loc) : Prop := v = some (.int (1 : Int32)) ∧ Fr n0 L
set_option maxRecDepth 65536 in
set_option maxHeartbeats 40000000 in
theorem rm0 (l : Launch) (Z : State) (a0 : Array Value) (hw : ∀ d ∈ tables_1, d.before a0 Z = true) (ws : List Jvm.Cond) (q0 q2 q4 : Int64) (p6 p7 p8 : Int32) (h0 : Heap) (n0 : Nat) (Z0 : n0 ≤ h0.size) :
    MetFree l x (head1 (Jvm.Cond.code x code maxLocals ret :: ws) room_1) (fun a U => a = #[(.long q0), (.long q2), (.long q4), (.int p6), (.int p7), (.int p8)] ∧ Z.Warmed39 U.vm ∧ U.heap = h0) (fun _ _ _ _ _ => True) (fun _ Uw_ ow_ Ue_ => ∃ vw_ Lw_, ow_ = .returned vw_ ∧ Q0 h0 n0 vw_ Ue_.heap Lw_ ∧ FrameEnd Uw_ ow_ Ue_ Lw_ room_1.cells room_1.slots) := by
  refine MetFree.of_bodySF (plainFor_of_name (by first | (simp [plainName, overriddenIn]; done) | decide +kernel)) hisR ?_
  intro p e s m args below meth c s₁ Bd hml0 hP hK
  obtain ⟨rfl, hZ, hh⟩ := hP
  have hx := Bd.exec
  have hby := Bd.bytes
  have hml : c.maxLocals = 18 := hml0
  have hown : s.vm.findClass "com/example/holdfast/holdfast/net/ReferencedClassesClearPinLaw" = some m.cls := findClass_of_methodNamed Bd.named
  have hnm := (name_of_methodNamed Bd.named Bd.method).1
  have X0 : Stand p l e room_1 s m #[(.long q0), (.long q2), (.long q4), (.int p6), (.int p7), (.int p8)] below meth c s₁ [] 0 0 := Stand.of_body Bd
  have e0 : s₁.heap = h0 := by rw [← hh, Bd.state]; rfl
  have N0 := Fr.nil n0
  have ef : entryFrame m #[(.long q0), (.long q2), (.long q4), (.int p6), (.int p7), (.int p8)] maxLocals = (mkF m 0 #[.val (.long q0), .second, .val (.long q2), .second, .val (.long q4), .second, .val (.int p6), .val (.int p7), .val (.int p8), .unset, .unset, .unset, .unset, .unset, .unset, .unset, .unset, .unset] []) := by first | (simp [entryFrame, mkF, argsToLocals, Value.category, maxLocals]; done) | rfl
  show OwnGoes p e below (fun ow_ Ue_ => ∃ vw_ Lw_, ow_ = .returned vw_ ∧ Q0 h0 n0 vw_ Ue_.heap Lw_ ∧ FrameEnd s ow_ Ue_ Lw_ room_1.cells room_1.slots) (s₁.setTop (entryFrame m #[(.long q0), (.long q2), (.long q4), (.int p6), (.int p7), (.int p8)] maxLocals))
  refine own_pre (fun t k => castTop ef k) ?_
  show OwnGoes p e below _ (s₁.setTop (mkF m 0 #[.val (.long q0), .second, .val (.long q2), .second, .val (.long q4), .second, .val (.int p6), .val (.int p7), .val (.int p8), .unset, .unset, .unset, .unset, .unset, .unset, .unset, .unset, .unset] []))
  refine own_pre (fun _ kz_ => XS.lloadN X0.here hx rfl (hb hby at_0) rfl kz_) ?_
  show OwnGoes p e below _ (s₁.setTop (mkF m 1 #[.val (.long q0), .second, .val (.long q2), .second, .val (.long q4), .second, .val (.int p6), .val (.int p7), .val (.int p8), .unset, .unset, .unset, .unset, .unset, .unset, .unset, .unset, .unset] [(.long q0)]))
  refine own_pre (fun _ kz_ => XS.iload X0.here hx rfl (hb hby at_1) rfl kz_) ?_
  show OwnGoes p e below _ (s₁.setTop (mkF m 3 #[.val (.long q0), .second, .val (.long q2), .second, .val (.long q4), .second, .val (.int p6), .val (.int p7), .val (.int p8), .unset, .unset, .unset, .unset, .unset, .unset, .unset, .unset, .unset] [(.int p8), (.long q0)]))
  refine own_pre (fun _ kz_ => XS.iconst X0.here hx rfl (hb hby at_3) kz_) ?_
  show OwnGoes p e below _ (s₁.setTop (mkF m 4 #[.val (.long q0), .second, .val (.long q2), .second, .val (.long q4), .second, .val (.int p6), .val (.int p7), .val (.int p8), .unset, .unset, .unset, .unset, .unset, .unset, .unset, .unset, .unset] [(.int (1 : Int32)), (.int p8), (.long q0)]))
  refine own_pre (fun _ kz_ => XS.iushr X0.here hx rfl (hb hby at_4) rfl kz_) ?_
  show OwnGoes p e below _ (s₁.setTop (mkF m 5 #[.val (.long q0), .second, .val (.long q2), .second, .val (.long q4), .second, .val (.int p6), .val (.int p7), .val (.int p8), .unset, .unset, .unset, .unset, .unset, .unset, .unset, .unset, .unset] [(.int ((p8.toUInt32 >>> ((1 : Int32) &&& 31).toUInt32).toInt32)), (.long q0)]))
  obtain ⟨_, _, ⟨T1, L1, k1, n1⟩, -, X1, ⟨Lc1, hQ1, l1, y1, z1⟩, st1⟩ := Jvm.LawKit.callS X0 hx (y := (⟨"com/example/holdfast/holdfast/net/ReferencedClassesClearPinLaw", "shape", "(JI)J"⟩ : MethodName)) hown (mvT hZ (hw _ (List.mem_of_getElem? (i := 0) rfl))) (mvT hZ (hw _ (List.mem_of_getElem? (i := 1) rfl))) (mvT hZ (hw _ (List.mem_of_getElem? (i := 2) rfl))) (mvT hZ (hw _ (List.mem_of_getElem? (i := 3) rfl))) (by decide) (backOf (W := 0) (rmSh l Z a0 hw [] q0 ((p8.toUInt32 >>> ((1 : Int32) &&& 31).toUInt32).toInt32) h0 n0 Z0) hZ (hw _ (List.mem_of_getElem? (i := 3) rfl)) (hw _ (List.mem_of_getElem? (i := 2) rfl)) (by decide) (by decide)) (g := (mkF m 5 #[.val (.long q0), .second, .val (.long q2), .second, .val (.long q4), .second, .val (.int p6), .val (.int p7), .val (.int p8), .unset, .unset, .unset, .unset, .unset, .unset, .unset, .unset, .unset] [(.int ((p8.toUInt32 >>> ((1 : Int32) &&& 31).toUInt32).toInt32)), (.long q0)])) rfl (by rw [hml]; rfl) (argsL := [(.long q0), (.int ((p8.toUInt32 >>> ((1 : Int32) &&& 31).toUInt32).toInt32))]) (rest := []) (lenOf (d := "(JI)J") (ps := [.long, .int]) (r := some .long) (by decide +kernel) rfl) rfl (by show 2 * 0 + _ ≤ _; exact Nat.le_of_eq rfl) (hb hby at_5) (fun _ _ => ⟨rfl, e0, (by decide : 0 + 0 ≤ _), (by decide : 0 + 0 ≤ _)⟩)
  dsimp only [Pt.U, Pt.locs, Pt.cells, Pt.slots] at X1 l1 y1 z1 st1 hQ1
  subst l1 y1 z1
  obtain ⟨A, rfl, N1q, e1⟩ := hQ1
  have N1 := Fr.app N0 N1q
  refine own_pre st1 ?_
  show OwnGoes p e below _ (T1.setTop (mkF m 8 #[.val (.long q0), .second, .val (.long q2), .second, .val (.long q4), .second, .val (.int p6), .val (.int p7), .val (.int p8), .unset, .unset, .unset, .unset, .unset, .unset, .unset, .unset, .unset] [(.long A)]))
  refine own_pre (fun _ kz_ => XS.lstore X1.here hx rfl (hb hby at_8) rfl (l' := #[.val (.long q0), .second, .val (.long q2), .second, .val (.long q4), .second, .val (.int p6), .val (.int p7), .val (.int p8), .val (.long A), .second, .unset, .unset, .unset, .unset, .unset, .unset, .unset]) rfl kz_) ?_
  show OwnGoes p e below _ (T1.setTop (mkF m 10 #[.val (.long q0), .second, .val (.long q2), .second, .val (.long q4), .second, .val (.int p6), .val (.int p7), .val (.int p8), .val (.long A), .second, .unset, .unset, .unset, .unset, .unset, .unset, .unset] []))
  refine own_pre (fun _ kz_ => XS.lloadN X1.here hx rfl (hb hby at_10) rfl kz_) ?_
  show OwnGoes p e below _ (T1.setTop (mkF m 11 #[.val (.long q0), .second, .val (.long q2), .second, .val (.long q4), .second, .val (.int p6), .val (.int p7), .val (.int p8), .val (.long A), .second, .unset, .unset, .unset, .unset, .unset, .unset, .unset] [(.long q2)]))
  refine own_pre (fun _ kz_ => XS.iload X1.here hx rfl (hb hby at_11) rfl kz_) ?_
  show OwnGoes p e below _ (T1.setTop (mkF m 13 #[.val (.long q0), .second, .val (.long q2), .second, .val (.long q4), .second, .val (.int p6), .val (.int p7), .val (.int p8), .val (.long A), .second, .unset, .unset, .unset, .unset, .unset, .unset, .unset] [(.int p8), (.long q2)]))
  refine own_pre (fun _ kz_ => XS.iconst X1.here hx rfl (hb hby at_13) kz_) ?_
  show OwnGoes p e below _ (T1.setTop (mkF m 14 #[.val (.long q0), .second, .val (.long q2), .second, .val (.long q4), .second, .val (.int p6), .val (.int p7), .val (.int p8), .val (.long A), .second, .unset, .unset, .unset, .unset, .unset, .unset, .unset] [(.int (3 : Int32)), (.int p8), (.long q2)]))
  refine own_pre (fun _ kz_ => XS.iushr X1.here hx rfl (hb hby at_14) rfl kz_) ?_
  show OwnGoes p e below _ (T1.setTop (mkF m 15 #[.val (.long q0), .second, .val (.long q2), .second, .val (.long q4), .second, .val (.int p6), .val (.int p7), .val (.int p8), .val (.long A), .second, .unset, .unset, .unset, .unset, .unset, .unset, .unset] [(.int ((p8.toUInt32 >>> ((3 : Int32) &&& 31).toUInt32).toInt32)), (.long q2)]))
  obtain ⟨_, _, ⟨T2, L2, k2, n2⟩, -, X2, ⟨Lc2, hQ2, l2, y2, z2⟩, st2⟩ := Jvm.LawKit.callS X1 hx (y := (⟨"com/example/holdfast/holdfast/net/ReferencedClassesClearPinLaw", "shape", "(JI)J"⟩ : MethodName)) hown (mvT hZ (hw _ (List.mem_of_getElem? (i := 0) rfl))) (mvT hZ (hw _ (List.mem_of_getElem? (i := 1) rfl))) (mvT hZ (hw _ (List.mem_of_getElem? (i := 2) rfl))) (mvT hZ (hw _ (List.mem_of_getElem? (i := 3) rfl))) (by decide) (backOf (W := 0) (rmSh l Z a0 hw [] q2 ((p8.toUInt32 >>> ((3 : Int32) &&& 31).toUInt32).toInt32) h0 n0 Z0) hZ (hw _ (List.mem_of_getElem? (i := 3) rfl)) (hw _ (List.mem_of_getElem? (i := 2) rfl)) (by decide) (by decide)) (g := (mkF m 15 #[.val (.long q0), .second, .val (.long q2), .second, .val (.long q4), .second, .val (.int p6), .val (.int p7), .val (.int p8), .val (.long A), .second, .unset, .unset, .unset, .unset, .unset, .unset, .unset] [(.int ((p8.toUInt32 >>> ((3 : Int32) &&& 31).toUInt32).toInt32)), (.long q2)])) rfl (by rw [hml]; rfl) (argsL := [(.long q2), (.int ((p8.toUInt32 >>> ((3 : Int32) &&& 31).toUInt32).toInt32))]) (rest := []) (lenOf (d := "(JI)J") (ps := [.long, .int]) (r := some .long) (by decide +kernel) rfl) rfl (by show 2 * 0 + _ ≤ _; exact Nat.le_of_eq rfl) (hb hby at_15) (fun _ _ => ⟨rfl, e1, (by decide : 0 + 0 ≤ _), (by decide : 0 + 0 ≤ _)⟩)
  dsimp only [Pt.U, Pt.locs, Pt.cells, Pt.slots] at X2 l2 y2 z2 st2 hQ2
  subst l2 y2 z2
  obtain ⟨B, rfl, N2q, e2⟩ := hQ2
  have N2 := Fr.app N1 N2q
  refine own_pre st2 ?_
  show OwnGoes p e below _ (T2.setTop (mkF m 18 #[.val (.long q0), .second, .val (.long q2), .second, .val (.long q4), .second, .val (.int p6), .val (.int p7), .val (.int p8), .val (.long A), .second, .unset, .unset, .unset, .unset, .unset, .unset, .unset] [(.long B)]))
  refine own_pre (fun _ kz_ => XS.lstore X2.here hx rfl (hb hby at_18) rfl (l' := #[.val (.long q0), .second, .val (.long q2), .second, .val (.long q4), .second, .val (.int p6), .val (.int p7), .val (.int p8), .val (.long A), .second, .val (.long B), .second, .unset, .unset, .unset, .unset, .unset]) rfl kz_) ?_
  show OwnGoes p e below _ (T2.setTop (mkF m 20 #[.val (.long q0), .second, .val (.long q2), .second, .val (.long q4), .second, .val (.int p6), .val (.int p7), .val (.int p8), .val (.long A), .second, .val (.long B), .second, .unset, .unset, .unset, .unset, .unset] []))
  refine own_pre (fun _ kz_ => XS.lload X2.here hx rfl (hb hby at_20) rfl kz_) ?_
  show OwnGoes p e below _ (T2.setTop (mkF m 22 #[.val (.long q0), .second, .val (.long q2), .second, .val (.long q4), .second, .val (.int p6), .val (.int p7), .val (.int p8), .val (.long A), .second, .val (.long B), .second, .unset, .unset, .unset, .unset, .unset] [(.long q4)]))
  refine own_pre (fun _ kz_ => XS.iload X2.here hx rfl (hb hby at_22) rfl kz_) ?_
  show OwnGoes p e below _ (T2.setTop (mkF m 24 #[.val (.long q0), .second, .val (.long q2), .second, .val (.long q4), .second, .val (.int p6), .val (.int p7), .val (.int p8), .val (.long A), .second, .val (.long B), .second, .unset, .unset, .unset, .unset, .unset] [(.int p8), (.long q4)]))
  refine own_pre (fun _ kz_ => XS.iconst X2.here hx rfl (hb hby at_24) kz_) ?_
  show OwnGoes p e below _ (T2.setTop (mkF m 25 #[.val (.long q0), .second, .val (.long q2), .second, .val (.long q4), .second, .val (.int p6), .val (.int p7), .val (.int p8), .val (.long A), .second, .val (.long B), .second, .unset, .unset, .unset, .unset, .unset] [(.int (5 : Int32)), (.int p8), (.long q4)]))
  refine own_pre (fun _ kz_ => XS.iushr X2.here hx rfl (hb hby at_25) rfl kz_) ?_
  show OwnGoes p e below _ (T2.setTop (mkF m 26 #[.val (.long q0), .second, .val (.long q2), .second, .val (.long q4), .second, .val (.int p6), .val (.int p7), .val (.int p8), .val (.long A), .second, .val (.long B), .second, .unset, .unset, .unset, .unset, .unset] [(.int ((p8.toUInt32 >>> ((5 : Int32) &&& 31).toUInt32).toInt32)), (.long q4)]))
  obtain ⟨_, _, ⟨T3, L3, k3, n3⟩, -, X3, ⟨Lc3, hQ3, l3, y3, z3⟩, st3⟩ := Jvm.LawKit.callS X2 hx (y := (⟨"com/example/holdfast/holdfast/net/ReferencedClassesClearPinLaw", "shape", "(JI)J"⟩ : MethodName)) hown (mvT hZ (hw _ (List.mem_of_getElem? (i := 0) rfl))) (mvT hZ (hw _ (List.mem_of_getElem? (i := 1) rfl))) (mvT hZ (hw _ (List.mem_of_getElem? (i := 2) rfl))) (mvT hZ (hw _ (List.mem_of_getElem? (i := 3) rfl))) (by decide) (backOf (W := 0) (rmSh l Z a0 hw [] q4 ((p8.toUInt32 >>> ((5 : Int32) &&& 31).toUInt32).toInt32) h0 n0 Z0) hZ (hw _ (List.mem_of_getElem? (i := 3) rfl)) (hw _ (List.mem_of_getElem? (i := 2) rfl)) (by decide) (by decide)) (g := (mkF m 26 #[.val (.long q0), .second, .val (.long q2), .second, .val (.long q4), .second, .val (.int p6), .val (.int p7), .val (.int p8), .val (.long A), .second, .val (.long B), .second, .unset, .unset, .unset, .unset, .unset] [(.int ((p8.toUInt32 >>> ((5 : Int32) &&& 31).toUInt32).toInt32)), (.long q4)])) rfl (by rw [hml]; rfl) (argsL := [(.long q4), (.int ((p8.toUInt32 >>> ((5 : Int32) &&& 31).toUInt32).toInt32))]) (rest := []) (lenOf (d := "(JI)J") (ps := [.long, .int]) (r := some .long) (by decide +kernel) rfl) rfl (by show 2 * 0 + _ ≤ _; exact Nat.le_of_eq rfl) (hb hby at_26) (fun _ _ => ⟨rfl, e2, (by decide : 0 + 0 ≤ _), (by decide : 0 + 0 ≤ _)⟩)
  dsimp only [Pt.U, Pt.locs, Pt.cells, Pt.slots] at X3 l3 y3 z3 st3 hQ3
  subst l3 y3 z3
  obtain ⟨P, rfl, N3q, e3⟩ := hQ3
  have N3 := Fr.app N2 N3q
  refine own_pre st3 ?_
  show OwnGoes p e below _ (T3.setTop (mkF m 29 #[.val (.long q0), .second, .val (.long q2), .second, .val (.long q4), .second, .val (.int p6), .val (.int p7), .val (.int p8), .val (.long A), .second, .val (.long B), .second, .unset, .unset, .unset, .unset, .unset] [(.long P)]))
  refine own_pre (fun _ kz_ => XS.lstore X3.here hx rfl (hb hby at_29) rfl (l' := #[.val (.long q0), .second, .val (.long q2), .second, .val (.long q4), .second, .val (.int p6), .val (.int p7), .val (.int p8), .val (.long A), .second, .val (.long B), .second, .val (.long P), .second, .unset, .unset, .unset]) rfl kz_) ?_
  show OwnGoes p e below _ (T3.setTop (mkF m 31 #[.val (.long q0), .second, .val (.long q2), .second, .val (.long q4), .second, .val (.int p6), .val (.int p7), .val (.int p8), .val (.long A), .second, .val (.long B), .second, .val (.long P), .second, .unset, .unset, .unset] []))
  obtain ⟨T4, h4, X4, e4, E4, A4, D4, -, st4⟩ := newO X3 hx hZ hown (hw _ (List.mem_of_getElem? (i := 5) rfl)) (hw _ (List.mem_of_getElem? (i := 6) rfl)) (hw _ (List.mem_of_getElem? (i := 7) rfl)) e3 (g := (mkF m 31 #[.val (.long q0), .second, .val (.long q2), .second, .val (.long q4), .second, .val (.int p6), .val (.int p7), .val (.int p8), .val (.long A), .second, .val (.long B), .second, .val (.long P), .second, .unset, .unset, .unset] [])) rfl (hb hby at_31) (by decide) (by decide)
  obtain ⟨ob, g4⟩ : ∃ z, z = h0.size := ⟨_, rfl⟩
  rw [← g4] at A4 D4 st4
  have g_ob : n0 ≤ ob := Nat.le_trans Z0 (Nat.le_of_eq g4.symm)
  have sz_ob : h0.size ≤ ob := Nat.le_trans ((Keep.refl h0 [])).1 (Nat.le_of_eq g4.symm)
  have K4 := ((Keep.refl h0 [])).ext E4
  have Z4 := Nat.le_trans Z0 E4.1
  have F4_named : Fld Z h4 ob "com/example/holdfast/holdfast/net/ReferencedClasses" "named" "[J" .null := D4 (Or.inl (hw _ (List.mem_of_getElem? (i := 16) rfl))) (ty := (.array .long)) (by decide)
  have F4_sorted : Fld Z h4 ob "com/example/holdfast/holdfast/net/ReferencedClasses" "sorted" "Z" (.int (0 : Int32)) := D4 (Or.inl (hw _ (List.mem_of_getElem? (i := 18) rfl))) (ty := .boolean) (by decide)
  have F4_count : Fld Z h4 ob "com/example/holdfast/holdfast/net/ReferencedClasses" "count" "I" (.int (0 : Int32)) := D4 (Or.inl (hw _ (List.mem_of_getElem? (i := 26) rfl))) (ty := .int) (by decide)
  refine own_pre st4 ?_
  show OwnGoes p e below _ (T4.setTop (mkF m 34 #[.val (.long q0), .second, .val (.long q2), .second, .val (.long q4), .second, .val (.int p6), .val (.int p7), .val (.int p8), .val (.long A), .second, .val (.long B), .second, .val (.long P), .second, .unset, .unset, .unset] [(.ref ob)]))
  refine own_pre (fun _ kz_ => XS.dup X4.here hx rfl (hb hby at_34) rfl rfl kz_) ?_
  show OwnGoes p e below _ (T4.setTop (mkF m 35 #[.val (.long q0), .second, .val (.long q2), .second, .val (.long q4), .second, .val (.int p6), .val (.int p7), .val (.int p8), .val (.long A), .second, .val (.long B), .second, .val (.long P), .second, .unset, .unset, .unset] [(.ref ob), (.ref ob)]))
  obtain ⟨_, _, ⟨T5, L5, k5, n5⟩, -, X5, ⟨Lc5, hQ5, l5, y5, z5⟩, st5⟩ := X4.specialBack hx (y := (⟨"com/example/holdfast/holdfast/net/ReferencedClasses", "<init>", "()V"⟩ : MethodName)) rfl hown (mvT hZ (hw _ (List.mem_of_getElem? (i := 8) rfl))) (mvT hZ (hw _ (List.mem_of_getElem? (i := 9) rfl))) (mvT hZ (hw _ (List.mem_of_getElem? (i := 10) rfl))) (by decide) (backOf (W := 1) (rmNew l Z a0 hw [] ob h4 n0 Z4 A4 F4_named F4_count F4_sorted g_ob) hZ (hw _ (List.mem_of_getElem? (i := 10) rfl)) (hw _ (List.mem_of_getElem? (i := 7) rfl)) (by decide) (by decide)) (g := (mkF m 35 #[.val (.long q0), .second, .val (.long q2), .second, .val (.long q4), .second, .val (.int p6), .val (.int p7), .val (.int p8), .val (.long A), .second, .val (.long B), .second, .val (.long P), .second, .unset, .unset, .unset] [(.ref ob), (.ref ob)])) rfl (by rw [hml]; rfl) (Steps.refl _) (a := ob) (argsL := []) (rest := [(.ref ob)]) (lenOf (d := "()V") (ps := []) (r := none) (by decide +kernel) rfl) rfl (by show 2 * 0 + _ ≤ _; exact Nat.le_of_eq rfl) (hb hby at_35) (fun _ _ => ⟨rfl, e4, (by decide : 1 + 1 ≤ _), (by decide : 3 + 64 ≤ _)⟩)
  dsimp only [Pt.U, Pt.locs, Pt.cells, Pt.slots] at X5 l5 y5 z5 st5 hQ5
  subst l5 y5 z5
  obtain ⟨rfl, N5q, I5q⟩ := hQ5
  have N5 := Fr.app N3 N5q
  refine own_tr st5 ?_
  have J73 : ∀ (Tj : State) (lj : List Loc) (Xj : Stand p l e room_1 s m #[(.long q0), (.long q2), (.long q4), (.int p6), (.int p7), (.int p8)] below meth c Tj lj 2 67) (Nj : Fr n0 lj) (cj sj : Int32) (xj0 xj1 : Int64) (Ij : OwnRC Z n0 Tj.heap ob cj sj xj0 xj1), OwnGoes p e below (fun ow_ Ue_ => ∃ vw_ Lw_, ow_ = .returned vw_ ∧ Q0 h0 n0 vw_ Ue_.heap Lw_ ∧ FrameEnd s ow_ Ue_ Lw_ room_1.cells room_1.slots) (Tj.setTop (mkF m 73 #[.val (.long q0), .second, .val (.long q2), .second, .val (.long q4), .second, .val (.int p6), .val (.int p7), .val (.int p8), .val (.long A), .second, .val (.long B), .second, .val (.long P), .second, .val (.ref ob), .unset, .unset] [])) := by
    intro Tj lj Xj Nj cj sj xj0 xj1 Ij
    show OwnGoes p e below _ (Tj.setTop (mkF m 73 #[.val (.long q0), .second, .val (.long q2), .second, .val (.long q4), .second, .val (.int p6), .val (.int p7), .val (.int p8), .val (.long A), .second, .val (.long B), .second, .val (.long P), .second, .val (.ref ob), .unset, .unset] []))
    refine own_pre (fun _ kz_ => XS.aload Xj.here hx rfl (hb hby at_73) rfl rfl kz_) ?_
    show OwnGoes p e below _ (Tj.setTop (mkF m 75 #[.val (.long q0), .second, .val (.long q2), .second, .val (.long q4), .second, .val (.int p6), .val (.int p7), .val (.int p8), .val (.long A), .second, .val (.long B), .second, .val (.long P), .second, .val (.ref ob), .unset, .unset] [(.ref ob)]))
    obtain ⟨cq6, kq6, q6a, q6b, q6c⟩ := isOf hZ rfl Ij.exa
    obtain ⟨_, _, ⟨T6, L6, k6, n6⟩, -, X6, ⟨Lc6, hQ6, l6, y6, z6⟩, st6⟩ := Xj.virtualBack hx (y := (⟨"com/example/holdfast/holdfast/net/ReferencedClasses", "clear", "()V"⟩ : MethodName)) (z := (⟨"com/example/holdfast/holdfast/net/ReferencedClasses", "clear", "()V"⟩ : MethodName)) hown (mvT hZ (hw _ (List.mem_of_getElem? (i := 57) rfl))) (mvT hZ (hw _ (List.mem_of_getElem? (i := 58) rfl))) (notFace_of_selects (args := #[]) (mvT hZ (hw _ (List.mem_of_getElem? (i := 60) rfl)))) (mvT hZ (hw _ (List.mem_of_getElem? (i := 60) rfl))) (mvT hZ (hw _ (List.mem_of_getElem? (i := 59) rfl))) (by decide) (backOf (W := 0) (rmCl l Z a0 hw [] ob cj sj xj0 xj1 Tj.heap n0 Ij.sz Ij) hZ (hw _ (List.mem_of_getElem? (i := 61) rfl)) (hw _ (List.mem_of_getElem? (i := 7) rfl)) (by decide) (by decide)) q6a q6c (g := (mkF m 75 #[.val (.long q0), .second, .val (.long q2), .second, .val (.long q4), .second, .val (.int p6), .val (.int p7), .val (.int p8), .val (.long A), .second, .val (.long B), .second, .val (.long P), .second, .val (.ref ob), .unset, .unset] [(.ref ob)])) rfl (by rw [hml]; rfl) (Steps.refl _) (argsL := []) (rest := []) (lenOf (d := "()V") (ps := []) (r := none) (by decide +kernel) rfl) rfl (by show 2 * 0 + _ ≤ _; exact Nat.le_of_eq rfl) (hb hby at_75) (fun _ _ => ⟨rfl, rfl, (by decide : 2 + 0 ≤ _), (by decide : 67 + 0 ≤ _)⟩)
    dsimp only [Pt.U, Pt.locs, Pt.cells, Pt.slots] at X6 l6 y6 z6 st6 hQ6
    subst l6 y6 z6
    obtain ⟨rfl, N6q, I6q⟩ := hQ6
    have N6 := Fr.app Nj N6q
    refine own_tr st6 ?_
    show OwnGoes p e below _ (T6.setTop (mkF m 78 #[.val (.long q0), .second, .val (.long q2), .second, .val (.long q4), .second, .val (.int p6), .val (.int p7), .val (.int p8), .val (.long A), .second, .val (.long B), .second, .val (.long P), .second, .val (.ref ob), .unset, .unset] []))
    refine own_pre (fun _ kz_ => XS.aload X6.here hx rfl (hb hby at_78) rfl rfl kz_) ?_
    show OwnGoes p e below _ (T6.setTop (mkF m 80 #[.val (.long q0), .second, .val (.long q2), .second, .val (.long q4), .second, .val (.int p6), .val (.int p7), .val (.int p8), .val (.long A), .second, .val (.long B), .second, .val (.long P), .second, .val (.ref ob), .unset, .unset] [(.ref ob)]))
    refine own_pre (fun _ kz_ => XS.lload X6.here hx rfl (hb hby at_80) rfl kz_) ?_
    show OwnGoes p e below _ (T6.setTop (mkF m 82 #[.val (.long q0), .second, .val (.long q2), .second, .val (.long q4), .second, .val (.int p6), .val (.int p7), .val (.int p8), .val (.long A), .second, .val (.long B), .second, .val (.long P), .second, .val (.ref ob), .unset, .unset] [(.long A), (.ref ob)]))
    obtain ⟨cq7, kq7, q7a, q7b, q7c⟩ := isOf hZ rfl I6q.exa
    obtain ⟨_, _, ⟨T7, L7, k7, n7⟩, -, X7, ⟨Lc7, hQ7, l7, y7, z7⟩, st7⟩ := X6.virtualBack hx (y := (⟨"com/example/holdfast/holdfast/net/ReferencedClasses", "classOf", "(J)I"⟩ : MethodName)) (z := (⟨"com/example/holdfast/holdfast/net/ReferencedClasses", "classOf", "(J)I"⟩ : MethodName)) hown (mvT hZ (hw _ (List.mem_of_getElem? (i := 28) rfl))) (mvT hZ (hw _ (List.mem_of_getElem? (i := 29) rfl))) (notFace_of_selects (args := #[]) (mvT hZ (hw _ (List.mem_of_getElem? (i := 31) rfl)))) (mvT hZ (hw _ (List.mem_of_getElem? (i := 31) rfl))) (mvT hZ (hw _ (List.mem_of_getElem? (i := 30) rfl))) (by decide) (backOf (W := 0) (rmCO0 l Z a0 hw [] ob A xj0 xj1 T6.heap n0 I6q.sz I6q) hZ (hw _ (List.mem_of_getElem? (i := 32) rfl)) (hw _ (List.mem_of_getElem? (i := 7) rfl)) (by decide) (by decide)) q7a q7c (g := (mkF m 82 #[.val (.long q0), .second, .val (.long q2), .second, .val (.long q4), .second, .val (.int p6), .val (.int p7), .val (.int p8), .val (.long A), .second, .val (.long B), .second, .val (.long P), .second, .val (.ref ob), .unset, .unset] [(.long A), (.ref ob)])) rfl (by rw [hml]; rfl) (Steps.refl _) (argsL := [(.long A)]) (rest := []) (lenOf (d := "(J)I") (ps := [.long]) (r := some .int) (by decide +kernel) rfl) rfl (by show 2 * 0 + _ ≤ _; exact Nat.le_of_eq rfl) (hb hby at_82) (fun _ _ => ⟨rfl, rfl, (by decide : 2 + 0 ≤ _), (by decide : 67 + 0 ≤ _)⟩)
    dsimp only [Pt.U, Pt.locs, Pt.cells, Pt.slots] at X7 l7 y7 z7 st7 hQ7
    subst l7 y7 z7
    obtain ⟨rfl, N7q, e7⟩ := hQ7
    have N7 := Fr.app N6 N7q
    refine own_tr st7 ?_
    show OwnGoes p e below _ (T7.setTop (mkF m 85 #[.val (.long q0), .second, .val (.long q2), .second, .val (.long q4), .second, .val (.int p6), .val (.int p7), .val (.int p8), .val (.long A), .second, .val (.long B), .second, .val (.long P), .second, .val (.ref ob), .unset, .unset] [(.int (-2147483648 : Int32))]))
    refine own_pre (fun _ kz_ => X7.ldcInt hx hown (mvT hZ (hw _ (List.mem_of_getElem? (i := 62) rfl))) (g := (mkF m 85 #[.val (.long q0), .second, .val (.long q2), .second, .val (.long q4), .second, .val (.int p6), .val (.int p7), .val (.int p8), .val (.long A), .second, .val (.long B), .second, .val (.long P), .second, .val (.ref ob), .unset, .unset] [(.int (-2147483648 : Int32))])) rfl (hb hby at_85) _ kz_) ?_
    show OwnGoes p e below _ (T7.setTop (mkF m 87 #[.val (.long q0), .second, .val (.long q2), .second, .val (.long q4), .second, .val (.int p6), .val (.int p7), .val (.int p8), .val (.long A), .second, .val (.long B), .second, .val (.long P), .second, .val (.ref ob), .unset, .unset] [(.int (-2147483648 : Int32)), (.int (-2147483648 : Int32))]))
    refine own_pre (fun _ kz_ => XS.icmpNo X7.here hx rfl (hb hby at_87) rfl (teq (by decide : (-2147483648 : Int32) = (-2147483648 : Int32))).2 kz_) ?_
    show OwnGoes p e below _ (T7.setTop (mkF m 90 #[.val (.long q0), .second, .val (.long q2), .second, .val (.long q4), .second, .val (.int p6), .val (.int p7), .val (.int p8), .val (.long A), .second, .val (.long B), .second, .val (.long P), .second, .val (.ref ob), .unset, .unset] []))
    refine own_pre (fun _ kz_ => XS.iconst X7.here hx rfl (hb hby at_90) kz_) ?_
    show OwnGoes p e below _ (T7.setTop (mkF m 91 #[.val (.long q0), .second, .val (.long q2), .second, .val (.long q4), .second, .val (.int p6), .val (.int p7), .val (.int p8), .val (.long A), .second, .val (.long B), .second, .val (.long P), .second, .val (.ref ob), .unset, .unset] [(.int (1 : Int32))]))
    refine own_pre (fun _ kz_ => XS.goto X7.here hx rfl (pc0 := 91) (pc' := 95) rfl (hb hby at_91) (by decide) (by decide) kz_) ?_
    show OwnGoes p e below _ (T7.setTop (mkF m 95 #[.val (.long q0), .second, .val (.long q2), .second, .val (.long q4), .second, .val (.int p6), .val (.int p7), .val (.int p8), .val (.long A), .second, .val (.long B), .second, .val (.long P), .second, .val (.ref ob), .unset, .unset] [(.int (1 : Int32))]))
    refine own_pre (fun _ kz_ => XS.istore X7.here hx rfl (hb hby at_95) rfl (l' := #[.val (.long q0), .second, .val (.long q2), .second, .val (.long q4), .second, .val (.int p6), .val (.int p7), .val (.int p8), .val (.long A), .second, .val (.long B), .second, .val (.long P), .second, .val (.ref ob), .val (.int (1 : Int32)), .unset]) rfl kz_) ?_
    show OwnGoes p e below _ (T7.setTop (mkF m 97 #[.val (.long q0), .second, .val (.long q2), .second, .val (.long q4), .second, .val (.int p6), .val (.int p7), .val (.int p8), .val (.long A), .second, .val (.long B), .second, .val (.long P), .second, .val (.ref ob), .val (.int (1 : Int32)), .unset] []))
    refine own_pre (fun _ kz_ => XS.iload X7.here hx rfl (hb hby at_97) rfl kz_) ?_
    show OwnGoes p e below _ (T7.setTop (mkF m 99 #[.val (.long q0), .second, .val (.long q2), .second, .val (.long q4), .second, .val (.int p6), .val (.int p7), .val (.int p8), .val (.long A), .second, .val (.long B), .second, .val (.long P), .second, .val (.ref ob), .val (.int (1 : Int32)), .unset] [(.int (1 : Int32))]))
    refine own_pre (fun _ kz_ => XS.ifNo X7.here hx rfl (hb hby at_99) rfl ((if0 _ _).trans (feq (by decide : ¬ ((1 : Int32) = (0 : Int32)))).1) kz_) ?_
    show OwnGoes p e below _ (T7.setTop (mkF m 102 #[.val (.long q0), .second, .val (.long q2), .second, .val (.long q4), .second, .val (.int p6), .val (.int p7), .val (.int p8), .val (.long A), .second, .val (.long B), .second, .val (.long P), .second, .val (.ref ob), .val (.int (1 : Int32)), .unset] []))
    refine own_pre (fun _ kz_ => XS.aload X7.here hx rfl (hb hby at_102) rfl rfl kz_) ?_
    show OwnGoes p e below _ (T7.setTop (mkF m 104 #[.val (.long q0), .second, .val (.long q2), .second, .val (.long q4), .second, .val (.int p6), .val (.int p7), .val (.int p8), .val (.long A), .second, .val (.long B), .second, .val (.long P), .second, .val (.ref ob), .val (.int (1 : Int32)), .unset] [(.ref ob)]))
    refine own_pre (fun _ kz_ => XS.lload X7.here hx rfl (hb hby at_104) rfl kz_) ?_
    show OwnGoes p e below _ (T7.setTop (mkF m 106 #[.val (.long q0), .second, .val (.long q2), .second, .val (.long q4), .second, .val (.int p6), .val (.int p7), .val (.int p8), .val (.long A), .second, .val (.long B), .second, .val (.long P), .second, .val (.ref ob), .val (.int (1 : Int32)), .unset] [(.long B), (.ref ob)]))
    obtain ⟨cq8, kq8, q8a, q8b, q8c⟩ := isOf hZ e7 I6q.exa
    obtain ⟨_, _, ⟨T8, L8, k8, n8⟩, -, X8, ⟨Lc8, hQ8, l8, y8, z8⟩, st8⟩ := X7.virtualBack hx (y := (⟨"com/example/holdfast/holdfast/net/ReferencedClasses", "classOf", "(J)I"⟩ : MethodName)) (z := (⟨"com/example/holdfast/holdfast/net/ReferencedClasses", "classOf", "(J)I"⟩ : MethodName)) hown (mvT hZ (hw _ (List.mem_of_getElem? (i := 28) rfl))) (mvT hZ (hw _ (List.mem_of_getElem? (i := 29) rfl))) (notFace_of_selects (args := #[]) (mvT hZ (hw _ (List.mem_of_getElem? (i := 31) rfl)))) (mvT hZ (hw _ (List.mem_of_getElem? (i := 31) rfl))) (mvT hZ (hw _ (List.mem_of_getElem? (i := 30) rfl))) (by decide) (backOf (W := 0) (rmCO0 l Z a0 hw [] ob B xj0 xj1 T6.heap n0 I6q.sz I6q) hZ (hw _ (List.mem_of_getElem? (i := 32) rfl)) (hw _ (List.mem_of_getElem? (i := 7) rfl)) (by decide) (by decide)) q8a q8c (g := (mkF m 106 #[.val (.long q0), .second, .val (.long q2), .second, .val (.long q4), .second, .val (.int p6), .val (.int p7), .val (.int p8), .val (.long A), .second, .val (.long B), .second, .val (.long P), .second, .val (.ref ob), .val (.int (1 : Int32)), .unset] [(.long B), (.ref ob)])) rfl (by rw [hml]; rfl) (Steps.refl _) (argsL := [(.long B)]) (rest := []) (lenOf (d := "(J)I") (ps := [.long]) (r := some .int) (by decide +kernel) rfl) rfl (by show 2 * 0 + _ ≤ _; exact Nat.le_of_eq rfl) (hb hby at_106) (fun _ _ => ⟨rfl, e7, (by decide : 2 + 0 ≤ _), (by decide : 67 + 0 ≤ _)⟩)
    dsimp only [Pt.U, Pt.locs, Pt.cells, Pt.slots] at X8 l8 y8 z8 st8 hQ8
    subst l8 y8 z8
    obtain ⟨rfl, N8q, e8⟩ := hQ8
    have N8 := Fr.app N7 N8q
    refine own_tr st8 ?_
    show OwnGoes p e below _ (T8.setTop (mkF m 109 #[.val (.long q0), .second, .val (.long q2), .second, .val (.long q4), .second, .val (.int p6), .val (.int p7), .val (.int p8), .val (.long A), .second, .val (.long B), .second, .val (.long P), .second, .val (.ref ob), .val (.int (1 : Int32)), .unset] [(.int (-2147483648 : Int32))]))
    refine own_pre (fun _ kz_ => X8.ldcInt hx hown (mvT hZ (hw _ (List.mem_of_getElem? (i := 62) rfl))) (g := (mkF m 109 #[.val (.long q0), .second, .val (.long q2), .second, .val (.long q4), .second, .val (.int p6), .val (.int p7), .val (.int p8), .val (.long A), .second, .val (.long B), .second, .val (.long P), .second, .val (.ref ob), .val (.int (1 : Int32)), .unset] [(.int (-2147483648 : Int32))])) rfl (hb hby at_109) _ kz_) ?_
    show OwnGoes p e below _ (T8.setTop (mkF m 111 #[.val (.long q0), .second, .val (.long q2), .second, .val (.long q4), .second, .val (.int p6), .val (.int p7), .val (.int p8), .val (.long A), .second, .val (.long B), .second, .val (.long P), .second, .val (.ref ob), .val (.int (1 : Int32)), .unset] [(.int (-2147483648 : Int32)), (.int (-2147483648 : Int32))]))
    refine own_pre (fun _ kz_ => XS.icmpNo X8.here hx rfl (hb hby at_111) rfl (teq (by decide : (-2147483648 : Int32) = (-2147483648 : Int32))).2 kz_) ?_
    show OwnGoes p e below _ (T8.setTop (mkF m 114 #[.val (.long q0), .second, .val (.long q2), .second, .val (.long q4), .second, .val (.int p6), .val (.int p7), .val (.int p8), .val (.long A), .second, .val (.long B), .second, .val (.long P), .second, .val (.ref ob), .val (.int (1 : Int32)), .unset] []))
    refine own_pre (fun _ kz_ => XS.iconst X8.here hx rfl (hb hby at_114) kz_) ?_
    show OwnGoes p e below _ (T8.setTop (mkF m 115 #[.val (.long q0), .second, .val (.long q2), .second, .val (.long q4), .second, .val (.int p6), .val (.int p7), .val (.int p8), .val (.long A), .second, .val (.long B), .second, .val (.long P), .second, .val (.ref ob), .val (.int (1 : Int32)), .unset] [(.int (1 : Int32))]))
    refine own_pre (fun _ kz_ => XS.goto X8.here hx rfl (pc0 := 115) (pc' := 119) rfl (hb hby at_115) (by decide) (by decide) kz_) ?_
    show OwnGoes p e below _ (T8.setTop (mkF m 119 #[.val (.long q0), .second, .val (.long q2), .second, .val (.long q4), .second, .val (.int p6), .val (.int p7), .val (.int p8), .val (.long A), .second, .val (.long B), .second, .val (.long P), .second, .val (.ref ob), .val (.int (1 : Int32)), .unset] [(.int (1 : Int32))]))
    refine own_pre (fun _ kz_ => XS.istore X8.here hx rfl (hb hby at_119) rfl (l' := #[.val (.long q0), .second, .val (.long q2), .second, .val (.long q4), .second, .val (.int p6), .val (.int p7), .val (.int p8), .val (.long A), .second, .val (.long B), .second, .val (.long P), .second, .val (.ref ob), .val (.int (1 : Int32)), .unset]) rfl kz_) ?_
    show OwnGoes p e below _ (T8.setTop (mkF m 121 #[.val (.long q0), .second, .val (.long q2), .second, .val (.long q4), .second, .val (.int p6), .val (.int p7), .val (.int p8), .val (.long A), .second, .val (.long B), .second, .val (.long P), .second, .val (.ref ob), .val (.int (1 : Int32)), .unset] []))
    refine own_pre (fun _ kz_ => XS.iload X8.here hx rfl (hb hby at_121) rfl kz_) ?_
    show OwnGoes p e below _ (T8.setTop (mkF m 123 #[.val (.long q0), .second, .val (.long q2), .second, .val (.long q4), .second, .val (.int p6), .val (.int p7), .val (.int p8), .val (.long A), .second, .val (.long B), .second, .val (.long P), .second, .val (.ref ob), .val (.int (1 : Int32)), .unset] [(.int p6)]))
    refine own_pre (fun _ kz_ => XS.iconst X8.here hx rfl (hb hby at_123) kz_) ?_
    show OwnGoes p e below _ (T8.setTop (mkF m 124 #[.val (.long q0), .second, .val (.long q2), .second, .val (.long q4), .second, .val (.int p6), .val (.int p7), .val (.int p8), .val (.long A), .second, .val (.long B), .second, .val (.long P), .second, .val (.ref ob), .val (.int (1 : Int32)), .unset] [(.int (-1 : Int32)), (.int p6)]))
    refine own_pre (fun _ kz_ => XS.ixor X8.here hx rfl (hb hby at_124) rfl kz_) ?_
    show OwnGoes p e below _ (T8.setTop (mkF m 125 #[.val (.long q0), .second, .val (.long q2), .second, .val (.long q4), .second, .val (.int p6), .val (.int p7), .val (.int p8), .val (.long A), .second, .val (.long B), .second, .val (.long P), .second, .val (.ref ob), .val (.int (1 : Int32)), .unset] [(.int (p6 ^^^ (-1 : Int32)))]))
    refine own_pre (fun _ kz_ => XS.istore X8.here hx rfl (hb hby at_125) rfl (l' := #[.val (.long q0), .second, .val (.long q2), .second, .val (.long q4), .second, .val (.int p6), .val (.int p7), .val (.int p8), .val (.long A), .second, .val (.long B), .second, .val (.long P), .second, .val (.ref ob), .val (.int (1 : Int32)), .val (.int (p6 ^^^ (-1 : Int32)))]) rfl kz_) ?_
    show OwnGoes p e below _ (T8.setTop (mkF m 127 #[.val (.long q0), .second, .val (.long q2), .second, .val (.long q4), .second, .val (.int p6), .val (.int p7), .val (.int p8), .val (.long A), .second, .val (.long B), .second, .val (.long P), .second, .val (.ref ob), .val (.int (1 : Int32)), .val (.int (p6 ^^^ (-1 : Int32)))] []))
    refine own_pre (fun _ kz_ => XS.aload X8.here hx rfl (hb hby at_127) rfl rfl kz_) ?_
    show OwnGoes p e below _ (T8.setTop (mkF m 129 #[.val (.long q0), .second, .val (.long q2), .second, .val (.long q4), .second, .val (.int p6), .val (.int p7), .val (.int p8), .val (.long A), .second, .val (.long B), .second, .val (.long P), .second, .val (.ref ob), .val (.int (1 : Int32)), .val (.int (p6 ^^^ (-1 : Int32)))] [(.ref ob)]))
    refine own_pre (fun _ kz_ => XS.lload X8.here hx rfl (hb hby at_129) rfl kz_) ?_
    show OwnGoes p e below _ (T8.setTop (mkF m 131 #[.val (.long q0), .second, .val (.long q2), .second, .val (.long q4), .second, .val (.int p6), .val (.int p7), .val (.int p8), .val (.long A), .second, .val (.long B), .second, .val (.long P), .second, .val (.ref ob), .val (.int (1 : Int32)), .val (.int (p6 ^^^ (-1 : Int32)))] [(.long P), (.ref ob)]))
    refine own_pre (fun _ kz_ => XS.iload X8.here hx rfl (hb hby at_131) rfl kz_) ?_
    show OwnGoes p e below _ (T8.setTop (mkF m 133 #[.val (.long q0), .second, .val (.long q2), .second, .val (.long q4), .second, .val (.int p6), .val (.int p7), .val (.int p8), .val (.long A), .second, .val (.long B), .second, .val (.long P), .second, .val (.ref ob), .val (.int (1 : Int32)), .val (.int (p6 ^^^ (-1 : Int32)))] [(.int (p6 ^^^ (-1 : Int32))), (.long P), (.ref ob)]))
    obtain ⟨cq9, kq9, q9a, q9b, q9c⟩ := isOf hZ e8 I6q.exa
    obtain ⟨_, _, ⟨T9, L9, k9, n9⟩, -, X9, ⟨Lc9, hQ9, l9, y9, z9⟩, st9⟩ := X8.virtualBack hx (y := (⟨"com/example/holdfast/holdfast/net/ReferencedClasses", "add", "(JI)V"⟩ : MethodName)) (z := (⟨"com/example/holdfast/holdfast/net/ReferencedClasses", "add", "(JI)V"⟩ : MethodName)) hown (mvT hZ (hw _ (List.mem_of_getElem? (i := 19) rfl))) (mvT hZ (hw _ (List.mem_of_getElem? (i := 20) rfl))) (notFace_of_selects (args := #[]) (mvT hZ (hw _ (List.mem_of_getElem? (i := 22) rfl)))) (mvT hZ (hw _ (List.mem_of_getElem? (i := 22) rfl))) (mvT hZ (hw _ (List.mem_of_getElem? (i := 21) rfl))) (by decide) (backOf (W := 0) (rmAdd0 l Z a0 hw [] ob P (p6 ^^^ (-1 : Int32)) (1 : Int32) xj0 xj1 T6.heap n0 I6q.sz I6q) hZ (hw _ (List.mem_of_getElem? (i := 23) rfl)) (hw _ (List.mem_of_getElem? (i := 7) rfl)) (by decide) (by decide)) q9a q9c (g := (mkF m 133 #[.val (.long q0), .second, .val (.long q2), .second, .val (.long q4), .second, .val (.int p6), .val (.int p7), .val (.int p8), .val (.long A), .second, .val (.long B), .second, .val (.long P), .second, .val (.ref ob), .val (.int (1 : Int32)), .val (.int (p6 ^^^ (-1 : Int32)))] [(.int (p6 ^^^ (-1 : Int32))), (.long P), (.ref ob)])) rfl (by rw [hml]; rfl) (Steps.refl _) (argsL := [(.long P), (.int (p6 ^^^ (-1 : Int32)))]) (rest := []) (lenOf (d := "(JI)V") (ps := [.long, .int]) (r := none) (by decide +kernel) rfl) rfl (by show 2 * 0 + _ ≤ _; exact Nat.le_of_eq rfl) (hb hby at_133) (fun _ _ => ⟨rfl, e8, (by decide : 2 + 0 ≤ _), (by decide : 67 + 0 ≤ _)⟩)
    dsimp only [Pt.U, Pt.locs, Pt.cells, Pt.slots] at X9 l9 y9 z9 st9 hQ9
    subst l9 y9 z9
    obtain ⟨rfl, N9q, D9q⟩ := hQ9
    have N9 := Fr.app N8 N9q
    refine own_tr st9 ?_
    show OwnGoes p e below _ (T9.setTop (mkF m 136 #[.val (.long q0), .second, .val (.long q2), .second, .val (.long q4), .second, .val (.int p6), .val (.int p7), .val (.int p8), .val (.long A), .second, .val (.long B), .second, .val (.long P), .second, .val (.ref ob), .val (.int (1 : Int32)), .val (.int (p6 ^^^ (-1 : Int32)))] []))
    rcases D9q with ⟨hin136, J136⟩ | ⟨hin136, J136⟩
    · show OwnGoes p e below _ (T9.setTop (mkF m 136 #[.val (.long q0), .second, .val (.long q2), .second, .val (.long q4), .second, .val (.int p6), .val (.int p7), .val (.int p8), .val (.long A), .second, .val (.long B), .second, .val (.long P), .second, .val (.ref ob), .val (.int (1 : Int32)), .val (.int (p6 ^^^ (-1 : Int32)))] []))
      refine own_pre (fun _ kz_ => XS.iload X9.here hx rfl (hb hby at_136) rfl kz_) ?_
      show OwnGoes p e below _ (T9.setTop (mkF m 138 #[.val (.long q0), .second, .val (.long q2), .second, .val (.long q4), .second, .val (.int p6), .val (.int p7), .val (.int p8), .val (.long A), .second, .val (.long B), .second, .val (.long P), .second, .val (.ref ob), .val (.int (1 : Int32)), .val (.int (p6 ^^^ (-1 : Int32)))] [(.int (1 : Int32))]))
      refine own_pre (fun _ kz_ => XS.ifNo X9.here hx rfl (hb hby at_138) rfl ((if0 _ _).trans (feq (by decide : ¬ ((1 : Int32) = (0 : Int32)))).1) kz_) ?_
      show OwnGoes p e below _ (T9.setTop (mkF m 141 #[.val (.long q0), .second, .val (.long q2), .second, .val (.long q4), .second, .val (.int p6), .val (.int p7), .val (.int p8), .val (.long A), .second, .val (.long B), .second, .val (.long P), .second, .val (.ref ob), .val (.int (1 : Int32)), .val (.int (p6 ^^^ (-1 : Int32)))] []))
      refine own_pre (fun _ kz_ => XS.aload X9.here hx rfl (hb hby at_141) rfl rfl kz_) ?_
      show OwnGoes p e below _ (T9.setTop (mkF m 143 #[.val (.long q0), .second, .val (.long q2), .second, .val (.long q4), .second, .val (.int p6), .val (.int p7), .val (.int p8), .val (.long A), .second, .val (.long B), .second, .val (.long P), .second, .val (.ref ob), .val (.int (1 : Int32)), .val (.int (p6 ^^^ (-1 : Int32)))] [(.ref ob)]))
      refine own_pre (fun _ kz_ => XS.lload X9.here hx rfl (hb hby at_143) rfl kz_) ?_
      show OwnGoes p e below _ (T9.setTop (mkF m 145 #[.val (.long q0), .second, .val (.long q2), .second, .val (.long q4), .second, .val (.int p6), .val (.int p7), .val (.int p8), .val (.long A), .second, .val (.long B), .second, .val (.long P), .second, .val (.ref ob), .val (.int (1 : Int32)), .val (.int (p6 ^^^ (-1 : Int32)))] [(.long P), (.ref ob)]))
      obtain ⟨cq10, kq10, q10a, q10b, q10c⟩ := isOf hZ rfl J136.exa
      obtain ⟨_, _, ⟨T10, L10, k10, n10⟩, -, X10, ⟨Lc10, hQ10, l10, y10, z10⟩, st10⟩ := X9.virtualBack hx (y := (⟨"com/example/holdfast/holdfast/net/ReferencedClasses", "classOf", "(J)I"⟩ : MethodName)) (z := (⟨"com/example/holdfast/holdfast/net/ReferencedClasses", "classOf", "(J)I"⟩ : MethodName)) hown (mvT hZ (hw _ (List.mem_of_getElem? (i := 28) rfl))) (mvT hZ (hw _ (List.mem_of_getElem? (i := 29) rfl))) (notFace_of_selects (args := #[]) (mvT hZ (hw _ (List.mem_of_getElem? (i := 31) rfl)))) (mvT hZ (hw _ (List.mem_of_getElem? (i := 31) rfl))) (mvT hZ (hw _ (List.mem_of_getElem? (i := 30) rfl))) (by decide) (backOf (W := 0) (rmCO1 l Z a0 hw [] ob P (0 : Int32) (own_e P (p6 ^^^ (-1 : Int32))) xj1 T9.heap n0 J136.sz J136) hZ (hw _ (List.mem_of_getElem? (i := 32) rfl)) (hw _ (List.mem_of_getElem? (i := 7) rfl)) (by decide) (by decide)) q10a q10c (g := (mkF m 145 #[.val (.long q0), .second, .val (.long q2), .second, .val (.long q4), .second, .val (.int p6), .val (.int p7), .val (.int p8), .val (.long A), .second, .val (.long B), .second, .val (.long P), .second, .val (.ref ob), .val (.int (1 : Int32)), .val (.int (p6 ^^^ (-1 : Int32)))] [(.long P), (.ref ob)])) rfl (by rw [hml]; rfl) (Steps.refl _) (argsL := [(.long P)]) (rest := []) (lenOf (d := "(J)I") (ps := [.long]) (r := some .int) (by decide +kernel) rfl) rfl (by show 2 * 0 + _ ≤ _; exact Nat.le_of_eq rfl) (hb hby at_145) (fun _ _ => ⟨rfl, rfl, (by decide : 2 + 0 ≤ _), (by decide : 67 + 0 ≤ _)⟩)
      dsimp only [Pt.U, Pt.locs, Pt.cells, Pt.slots] at X10 l10 y10 z10 st10 hQ10
      subst l10 y10 z10
      obtain ⟨rfl, N10q, s10_, I10q⟩ := hQ10
      have N10 := Fr.app N9 N10q
      refine own_tr st10 ?_
      show OwnGoes p e below _ (T10.setTop (mkF m 148 #[.val (.long q0), .second, .val (.long q2), .second, .val (.long q4), .second, .val (.int p6), .val (.int p7), .val (.int p8), .val (.long A), .second, .val (.long B), .second, .val (.long P), .second, .val (.ref ob), .val (.int (1 : Int32)), .val (.int (p6 ^^^ (-1 : Int32)))] [(.int (own_r (own_e P (p6 ^^^ (-1 : Int32))) P))]))
      refine own_pre (fun _ kz_ => XS.lload X10.here hx rfl (hb hby at_148) rfl kz_) ?_
      show OwnGoes p e below _ (T10.setTop (mkF m 150 #[.val (.long q0), .second, .val (.long q2), .second, .val (.long q4), .second, .val (.int p6), .val (.int p7), .val (.int p8), .val (.long A), .second, .val (.long B), .second, .val (.long P), .second, .val (.ref ob), .val (.int (1 : Int32)), .val (.int (p6 ^^^ (-1 : Int32)))] [(.long P), (.int (own_r (own_e P (p6 ^^^ (-1 : Int32))) P))]))
      refine own_pre (fun _ kz_ => XS.lload X10.here hx rfl (hb hby at_150) rfl kz_) ?_
      show OwnGoes p e below _ (T10.setTop (mkF m 152 #[.val (.long q0), .second, .val (.long q2), .second, .val (.long q4), .second, .val (.int p6), .val (.int p7), .val (.int p8), .val (.long A), .second, .val (.long B), .second, .val (.long P), .second, .val (.ref ob), .val (.int (1 : Int32)), .val (.int (p6 ^^^ (-1 : Int32)))] [(.long P), (.long P), (.int (own_r (own_e P (p6 ^^^ (-1 : Int32))) P))]))
      refine own_pre (fun _ kz_ => XS.iload X10.here hx rfl (hb hby at_152) rfl kz_) ?_
      show OwnGoes p e below _ (T10.setTop (mkF m 154 #[.val (.long q0), .second, .val (.long q2), .second, .val (.long q4), .second, .val (.int p6), .val (.int p7), .val (.int p8), .val (.long A), .second, .val (.long B), .second, .val (.long P), .second, .val (.ref ob), .val (.int (1 : Int32)), .val (.int (p6 ^^^ (-1 : Int32)))] [(.int (p6 ^^^ (-1 : Int32))), (.long P), (.long P), (.int (own_r (own_e P (p6 ^^^ (-1 : Int32))) P))]))
      obtain ⟨_, _, ⟨T11, L11, k11, n11⟩, -, X11, ⟨Lc11, hQ11, l11, y11, z11⟩, st11⟩ := Jvm.LawKit.callS X10 hx (y := (⟨"com/example/holdfast/holdfast/net/ReferencedClassesClearPinLaw", "expect", "(JJI)I"⟩ : MethodName)) hown (mvT hZ (hw _ (List.mem_of_getElem? (i := 63) rfl))) (mvT hZ (hw _ (List.mem_of_getElem? (i := 64) rfl))) (mvT hZ (hw _ (List.mem_of_getElem? (i := 2) rfl))) (mvT hZ (hw _ (List.mem_of_getElem? (i := 65) rfl))) (by decide) (backOf (W := 1) (rmExp l Z a0 hw [] P P (p6 ^^^ (-1 : Int32)) (own_exp P P (p6 ^^^ (-1 : Int32))) T10.heap n0 I10q.sz rfl) hZ (hw _ (List.mem_of_getElem? (i := 65) rfl)) (hw _ (List.mem_of_getElem? (i := 2) rfl)) (by decide) (by decide)) (g := (mkF m 154 #[.val (.long q0), .second, .val (.long q2), .second, .val (.long q4), .second, .val (.int p6), .val (.int p7), .val (.int p8), .val (.long A), .second, .val (.long B), .second, .val (.long P), .second, .val (.ref ob), .val (.int (1 : Int32)), .val (.int (p6 ^^^ (-1 : Int32)))] [(.int (p6 ^^^ (-1 : Int32))), (.long P), (.long P), (.int (own_r (own_e P (p6 ^^^ (-1 : Int32))) P))])) rfl (by rw [hml]; rfl) (argsL := [(.long P), (.long P), (.int (p6 ^^^ (-1 : Int32)))]) (rest := [(.int (own_r (own_e P (p6 ^^^ (-1 : Int32))) P))]) (lenOf (d := "(JJI)I") (ps := [.long, .long, .int]) (r := some .int) (by decide +kernel) rfl) rfl (by show 2 * 0 + _ ≤ _; exact Nat.le_of_eq rfl) (hb hby at_154) (fun _ _ => ⟨rfl, rfl, (by decide : 2 + 0 ≤ _), (by decide : 67 + 0 ≤ _)⟩)
      dsimp only [Pt.U, Pt.locs, Pt.cells, Pt.slots] at X11 l11 y11 z11 st11 hQ11
      subst l11 y11 z11
      obtain ⟨rfl, N11q, e11⟩ := hQ11
      have N11 := Fr.app N10 N11q
      refine own_pre st11 ?_
      show OwnGoes p e below _ (T11.setTop (mkF m 157 #[.val (.long q0), .second, .val (.long q2), .second, .val (.long q4), .second, .val (.int p6), .val (.int p7), .val (.int p8), .val (.long A), .second, .val (.long B), .second, .val (.long P), .second, .val (.ref ob), .val (.int (1 : Int32)), .val (.int (p6 ^^^ (-1 : Int32)))] [(.int (own_exp P P (p6 ^^^ (-1 : Int32)))), (.int (own_r (own_e P (p6 ^^^ (-1 : Int32))) P))]))
      refine own_pre (fun _ kz_ => XS.icmpNo X11.here hx rfl (hb hby at_157) rfl (teq (own_main hin136 _ P : (own_r (own_e P (p6 ^^^ (-1 : Int32))) P) = (own_exp P P (p6 ^^^ (-1 : Int32))))).2 kz_) ?_
      show OwnGoes p e below _ (T11.setTop (mkF m 160 #[.val (.long q0), .second, .val (.long q2), .second, .val (.long q4), .second, .val (.int p6), .val (.int p7), .val (.int p8), .val (.long A), .second, .val (.long B), .second, .val (.long P), .second, .val (.ref ob), .val (.int (1 : Int32)), .val (.int (p6 ^^^ (-1 : Int32)))] []))
      refine own_pre (fun _ kz_ => XS.iconst X11.here hx rfl (hb hby at_160) kz_) ?_
      show OwnGoes p e below _ (T11.setTop (mkF m 161 #[.val (.long q0), .second, .val (.long q2), .second, .val (.long q4), .second, .val (.int p6), .val (.int p7), .val (.int p8), .val (.long A), .second, .val (.long B), .second, .val (.long P), .second, .val (.ref ob), .val (.int (1 : Int32)), .val (.int (p6 ^^^ (-1 : Int32)))] [(.int (1 : Int32))]))
      refine own_pre (fun _ kz_ => XS.goto X11.here hx rfl (pc0 := 161) (pc' := 165) rfl (hb hby at_161) (by decide) (by decide) kz_) ?_
      show OwnGoes p e below _ (T11.setTop (mkF m 165 #[.val (.long q0), .second, .val (.long q2), .second, .val (.long q4), .second, .val (.int p6), .val (.int p7), .val (.int p8), .val (.long A), .second, .val (.long B), .second, .val (.long P), .second, .val (.ref ob), .val (.int (1 : Int32)), .val (.int (p6 ^^^ (-1 : Int32)))] [(.int (1 : Int32))]))
      refine own_pre (fun _ kz_ => XS.istore X11.here hx rfl (hb hby at_165) rfl (l' := #[.val (.long q0), .second, .val (.long q2), .second, .val (.long q4), .second, .val (.int p6), .val (.int p7), .val (.int p8), .val (.long A), .second, .val (.long B), .second, .val (.long P), .second, .val (.ref ob), .val (.int (1 : Int32)), .val (.int (p6 ^^^ (-1 : Int32)))]) rfl kz_) ?_
      show OwnGoes p e below _ (T11.setTop (mkF m 167 #[.val (.long q0), .second, .val (.long q2), .second, .val (.long q4), .second, .val (.int p6), .val (.int p7), .val (.int p8), .val (.long A), .second, .val (.long B), .second, .val (.long P), .second, .val (.ref ob), .val (.int (1 : Int32)), .val (.int (p6 ^^^ (-1 : Int32)))] []))
      refine own_pre (fun _ kz_ => XS.iload X11.here hx rfl (hb hby at_167) rfl kz_) ?_
      show OwnGoes p e below _ (T11.setTop (mkF m 169 #[.val (.long q0), .second, .val (.long q2), .second, .val (.long q4), .second, .val (.int p6), .val (.int p7), .val (.int p8), .val (.long A), .second, .val (.long B), .second, .val (.long P), .second, .val (.ref ob), .val (.int (1 : Int32)), .val (.int (p6 ^^^ (-1 : Int32)))] [(.int (1 : Int32))]))
      refine own_pre (fun _ kz_ => XS.ifNo X11.here hx rfl (hb hby at_169) rfl ((if0 _ _).trans (feq (by decide : ¬ ((1 : Int32) = (0 : Int32)))).1) kz_) ?_
      show OwnGoes p e below _ (T11.setTop (mkF m 172 #[.val (.long q0), .second, .val (.long q2), .second, .val (.long q4), .second, .val (.int p6), .val (.int p7), .val (.int p8), .val (.long A), .second, .val (.long B), .second, .val (.long P), .second, .val (.ref ob), .val (.int (1 : Int32)), .val (.int (p6 ^^^ (-1 : Int32)))] []))
      refine own_pre (fun _ kz_ => XS.aload X11.here hx rfl (hb hby at_172) rfl rfl kz_) ?_
      show OwnGoes p e below _ (T11.setTop (mkF m 174 #[.val (.long q0), .second, .val (.long q2), .second, .val (.long q4), .second, .val (.int p6), .val (.int p7), .val (.int p8), .val (.long A), .second, .val (.long B), .second, .val (.long P), .second, .val (.ref ob), .val (.int (1 : Int32)), .val (.int (p6 ^^^ (-1 : Int32)))] [(.ref ob)]))
      refine own_pre (fun _ kz_ => XS.lload X11.here hx rfl (hb hby at_174) rfl kz_) ?_
      show OwnGoes p e below _ (T11.setTop (mkF m 176 #[.val (.long q0), .second, .val (.long q2), .second, .val (.long q4), .second, .val (.int p6), .val (.int p7), .val (.int p8), .val (.long A), .second, .val (.long B), .second, .val (.long P), .second, .val (.ref ob), .val (.int (1 : Int32)), .val (.int (p6 ^^^ (-1 : Int32)))] [(.long A), (.ref ob)]))
      obtain ⟨cq12, kq12, q12a, q12b, q12c⟩ := isOf hZ e11 I10q.exa
      obtain ⟨_, _, ⟨T12, L12, k12, n12⟩, -, X12, ⟨Lc12, hQ12, l12, y12, z12⟩, st12⟩ := X11.virtualBack hx (y := (⟨"com/example/holdfast/holdfast/net/ReferencedClasses", "classOf", "(J)I"⟩ : MethodName)) (z := (⟨"com/example/holdfast/holdfast/net/ReferencedClasses", "classOf", "(J)I"⟩ : MethodName)) hown (mvT hZ (hw _ (List.mem_of_getElem? (i := 28) rfl))) (mvT hZ (hw _ (List.mem_of_getElem? (i := 29) rfl))) (notFace_of_selects (args := #[]) (mvT hZ (hw _ (List.mem_of_getElem? (i := 31) rfl)))) (mvT hZ (hw _ (List.mem_of_getElem? (i := 31) rfl))) (mvT hZ (hw _ (List.mem_of_getElem? (i := 30) rfl))) (by decide) (backOf (W := 0) (rmCO1 l Z a0 hw [] ob A s10_ (own_e P (p6 ^^^ (-1 : Int32))) xj1 T10.heap n0 I10q.sz I10q) hZ (hw _ (List.mem_of_getElem? (i := 32) rfl)) (hw _ (List.mem_of_getElem? (i := 7) rfl)) (by decide) (by decide)) q12a q12c (g := (mkF m 176 #[.val (.long q0), .second, .val (.long q2), .second, .val (.long q4), .second, .val (.int p6), .val (.int p7), .val (.int p8), .val (.long A), .second, .val (.long B), .second, .val (.long P), .second, .val (.ref ob), .val (.int (1 : Int32)), .val (.int (p6 ^^^ (-1 : Int32)))] [(.long A), (.ref ob)])) rfl (by rw [hml]; rfl) (Steps.refl _) (argsL := [(.long A)]) (rest := []) (lenOf (d := "(J)I") (ps := [.long]) (r := some .int) (by decide +kernel) rfl) rfl (by show 2 * 0 + _ ≤ _; exact Nat.le_of_eq rfl) (hb hby at_176) (fun _ _ => ⟨rfl, e11, (by decide : 2 + 0 ≤ _), (by decide : 67 + 0 ≤ _)⟩)
      dsimp only [Pt.U, Pt.locs, Pt.cells, Pt.slots] at X12 l12 y12 z12 st12 hQ12
      subst l12 y12 z12
      obtain ⟨rfl, N12q, s12_, I12q⟩ := hQ12
      have N12 := Fr.app N11 N12q
      refine own_tr st12 ?_
      show OwnGoes p e below _ (T12.setTop (mkF m 179 #[.val (.long q0), .second, .val (.long q2), .second, .val (.long q4), .second, .val (.int p6), .val (.int p7), .val (.int p8), .val (.long A), .second, .val (.long B), .second, .val (.long P), .second, .val (.ref ob), .val (.int (1 : Int32)), .val (.int (p6 ^^^ (-1 : Int32)))] [(.int (own_r (own_e P (p6 ^^^ (-1 : Int32))) A))]))
      refine own_pre (fun _ kz_ => XS.lload X12.here hx rfl (hb hby at_179) rfl kz_) ?_
      show OwnGoes p e below _ (T12.setTop (mkF m 181 #[.val (.long q0), .second, .val (.long q2), .second, .val (.long q4), .second, .val (.int p6), .val (.int p7), .val (.int p8), .val (.long A), .second, .val (.long B), .second, .val (.long P), .second, .val (.ref ob), .val (.int (1 : Int32)), .val (.int (p6 ^^^ (-1 : Int32)))] [(.long A), (.int (own_r (own_e P (p6 ^^^ (-1 : Int32))) A))]))
      refine own_pre (fun _ kz_ => XS.lload X12.here hx rfl (hb hby at_181) rfl kz_) ?_
      show OwnGoes p e below _ (T12.setTop (mkF m 183 #[.val (.long q0), .second, .val (.long q2), .second, .val (.long q4), .second, .val (.int p6), .val (.int p7), .val (.int p8), .val (.long A), .second, .val (.long B), .second, .val (.long P), .second, .val (.ref ob), .val (.int (1 : Int32)), .val (.int (p6 ^^^ (-1 : Int32)))] [(.long P), (.long A), (.int (own_r (own_e P (p6 ^^^ (-1 : Int32))) A))]))
      refine own_pre (fun _ kz_ => XS.iload X12.here hx rfl (hb hby at_183) rfl kz_) ?_
      show OwnGoes p e below _ (T12.setTop (mkF m 185 #[.val (.long q0), .second, .val (.long q2), .second, .val (.long q4), .second, .val (.int p6), .val (.int p7), .val (.int p8), .val (.long A), .second, .val (.long B), .second, .val (.long P), .second, .val (.ref ob), .val (.int (1 : Int32)), .val (.int (p6 ^^^ (-1 : Int32)))] [(.int (p6 ^^^ (-1 : Int32))), (.long P), (.long A), (.int (own_r (own_e P (p6 ^^^ (-1 : Int32))) A))]))
      obtain ⟨_, _, ⟨T13, L13, k13, n13⟩, -, X13, ⟨Lc13, hQ13, l13, y13, z13⟩, st13⟩ := Jvm.LawKit.callS X12 hx (y := (⟨"com/example/holdfast/holdfast/net/ReferencedClassesClearPinLaw", "expect", "(JJI)I"⟩ : MethodName)) hown (mvT hZ (hw _ (List.mem_of_getElem? (i := 63) rfl))) (mvT hZ (hw _ (List.mem_of_getElem? (i := 64) rfl))) (mvT hZ (hw _ (List.mem_of_getElem? (i := 2) rfl))) (mvT hZ (hw _ (List.mem_of_getElem? (i := 65) rfl))) (by decide) (backOf (W := 1) (rmExp l Z a0 hw [] A P (p6 ^^^ (-1 : Int32)) (own_exp A P (p6 ^^^ (-1 : Int32))) T12.heap n0 I12q.sz rfl) hZ (hw _ (List.mem_of_getElem? (i := 65) rfl)) (hw _ (List.mem_of_getElem? (i := 2) rfl)) (by decide) (by decide)) (g := (mkF m 185 #[.val (.long q0), .second, .val (.long q2), .second, .val (.long q4), .second, .val (.int p6), .val (.int p7), .val (.int p8), .val (.long A), .second, .val (.long B), .second, .val (.long P), .second, .val (.ref ob), .val (.int (1 : Int32)), .val (.int (p6 ^^^ (-1 : Int32)))] [(.int (p6 ^^^ (-1 : Int32))), (.long P), (.long A), (.int (own_r (own_e P (p6 ^^^ (-1 : Int32))) A))])) rfl (by rw [hml]; rfl) (argsL := [(.long A), (.long P), (.int (p6 ^^^ (-1 : Int32)))]) (rest := [(.int (own_r (own_e P (p6 ^^^ (-1 : Int32))) A))]) (lenOf (d := "(JJI)I") (ps := [.long, .long, .int]) (r := some .int) (by decide +kernel) rfl) rfl (by show 2 * 0 + _ ≤ _; exact Nat.le_of_eq rfl) (hb hby at_185) (fun _ _ => ⟨rfl, rfl, (by decide : 2 + 0 ≤ _), (by decide : 67 + 0 ≤ _)⟩)
      dsimp only [Pt.U, Pt.locs, Pt.cells, Pt.slots] at X13 l13 y13 z13 st13 hQ13
      subst l13 y13 z13
      obtain ⟨rfl, N13q, e13⟩ := hQ13
      have N13 := Fr.app N12 N13q
      refine own_pre st13 ?_
      show OwnGoes p e below _ (T13.setTop (mkF m 188 #[.val (.long q0), .second, .val (.long q2), .second, .val (.long q4), .second, .val (.int p6), .val (.int p7), .val (.int p8), .val (.long A), .second, .val (.long B), .second, .val (.long P), .second, .val (.ref ob), .val (.int (1 : Int32)), .val (.int (p6 ^^^ (-1 : Int32)))] [(.int (own_exp A P (p6 ^^^ (-1 : Int32)))), (.int (own_r (own_e P (p6 ^^^ (-1 : Int32))) A))]))
      refine own_pre (fun _ kz_ => XS.icmpNo X13.here hx rfl (hb hby at_188) rfl (teq (own_main hin136 _ A : (own_r (own_e P (p6 ^^^ (-1 : Int32))) A) = (own_exp A P (p6 ^^^ (-1 : Int32))))).2 kz_) ?_
      show OwnGoes p e below _ (T13.setTop (mkF m 191 #[.val (.long q0), .second, .val (.long q2), .second, .val (.long q4), .second, .val (.int p6), .val (.int p7), .val (.int p8), .val (.long A), .second, .val (.long B), .second, .val (.long P), .second, .val (.ref ob), .val (.int (1 : Int32)), .val (.int (p6 ^^^ (-1 : Int32)))] []))
      refine own_pre (fun _ kz_ => XS.iconst X13.here hx rfl (hb hby at_191) kz_) ?_
      show OwnGoes p e below _ (T13.setTop (mkF m 192 #[.val (.long q0), .second, .val (.long q2), .second, .val (.long q4), .second, .val (.int p6), .val (.int p7), .val (.int p8), .val (.long A), .second, .val (.long B), .second, .val (.long P), .second, .val (.ref ob), .val (.int (1 : Int32)), .val (.int (p6 ^^^ (-1 : Int32)))] [(.int (1 : Int32))]))
      refine own_pre (fun _ kz_ => XS.goto X13.here hx rfl (pc0 := 192) (pc' := 196) rfl (hb hby at_192) (by decide) (by decide) kz_) ?_
      show OwnGoes p e below _ (T13.setTop (mkF m 196 #[.val (.long q0), .second, .val (.long q2), .second, .val (.long q4), .second, .val (.int p6), .val (.int p7), .val (.int p8), .val (.long A), .second, .val (.long B), .second, .val (.long P), .second, .val (.ref ob), .val (.int (1 : Int32)), .val (.int (p6 ^^^ (-1 : Int32)))] [(.int (1 : Int32))]))
      refine own_pre (fun _ kz_ => XS.istore X13.here hx rfl (hb hby at_196) rfl (l' := #[.val (.long q0), .second, .val (.long q2), .second, .val (.long q4), .second, .val (.int p6), .val (.int p7), .val (.int p8), .val (.long A), .second, .val (.long B), .second, .val (.long P), .second, .val (.ref ob), .val (.int (1 : Int32)), .val (.int (p6 ^^^ (-1 : Int32)))]) rfl kz_) ?_
      show OwnGoes p e below _ (T13.setTop (mkF m 198 #[.val (.long q0), .second, .val (.long q2), .second, .val (.long q4), .second, .val (.int p6), .val (.int p7), .val (.int p8), .val (.long A), .second, .val (.long B), .second, .val (.long P), .second, .val (.ref ob), .val (.int (1 : Int32)), .val (.int (p6 ^^^ (-1 : Int32)))] []))
      refine own_pre (fun _ kz_ => XS.iload X13.here hx rfl (hb hby at_198) rfl kz_) ?_
      show OwnGoes p e below _ (T13.setTop (mkF m 200 #[.val (.long q0), .second, .val (.long q2), .second, .val (.long q4), .second, .val (.int p6), .val (.int p7), .val (.int p8), .val (.long A), .second, .val (.long B), .second, .val (.long P), .second, .val (.ref ob), .val (.int (1 : Int32)), .val (.int (p6 ^^^ (-1 : Int32)))] [(.int (1 : Int32))]))
      exact own_ret X13 hx Bd.returns (rfl) (Or.inl ⟨rfl, by simp, _, rfl⟩) Bd.notSynchronized (hb hby at_200) ⟨rfl, N13⟩ (by decide) (by decide)
    · show OwnGoes p e below _ (T9.setTop (mkF m 136 #[.val (.long q0), .second, .val (.long q2), .second, .val (.long q4), .second, .val (.int p6), .val (.int p7), .val (.int p8), .val (.long A), .second, .val (.long B), .second, .val (.long P), .second, .val (.ref ob), .val (.int (1 : Int32)), .val (.int (p6 ^^^ (-1 : Int32)))] []))
      refine own_pre (fun _ kz_ => XS.iload X9.here hx rfl (hb hby at_136) rfl kz_) ?_
      show OwnGoes p e below _ (T9.setTop (mkF m 138 #[.val (.long q0), .second, .val (.long q2), .second, .val (.long q4), .second, .val (.int p6), .val (.int p7), .val (.int p8), .val (.long A), .second, .val (.long B), .second, .val (.long P), .second, .val (.ref ob), .val (.int (1 : Int32)), .val (.int (p6 ^^^ (-1 : Int32)))] [(.int (1 : Int32))]))
      refine own_pre (fun _ kz_ => XS.ifNo X9.here hx rfl (hb hby at_138) rfl ((if0 _ _).trans (feq (by decide : ¬ ((1 : Int32) = (0 : Int32)))).1) kz_) ?_
      show OwnGoes p e below _ (T9.setTop (mkF m 141 #[.val (.long q0), .second, .val (.long q2), .second, .val (.long q4), .second, .val (.int p6), .val (.int p7), .val (.int p8), .val (.long A), .second, .val (.long B), .second, .val (.long P), .second, .val (.ref ob), .val (.int (1 : Int32)), .val (.int (p6 ^^^ (-1 : Int32)))] []))
      refine own_pre (fun _ kz_ => XS.aload X9.here hx rfl (hb hby at_141) rfl rfl kz_) ?_
      show OwnGoes p e below _ (T9.setTop (mkF m 143 #[.val (.long q0), .second, .val (.long q2), .second, .val (.long q4), .second, .val (.int p6), .val (.int p7), .val (.int p8), .val (.long A), .second, .val (.long B), .second, .val (.long P), .second, .val (.ref ob), .val (.int (1 : Int32)), .val (.int (p6 ^^^ (-1 : Int32)))] [(.ref ob)]))
      refine own_pre (fun _ kz_ => XS.lload X9.here hx rfl (hb hby at_143) rfl kz_) ?_
      show OwnGoes p e below _ (T9.setTop (mkF m 145 #[.val (.long q0), .second, .val (.long q2), .second, .val (.long q4), .second, .val (.int p6), .val (.int p7), .val (.int p8), .val (.long A), .second, .val (.long B), .second, .val (.long P), .second, .val (.ref ob), .val (.int (1 : Int32)), .val (.int (p6 ^^^ (-1 : Int32)))] [(.long P), (.ref ob)]))
      obtain ⟨cq14, kq14, q14a, q14b, q14c⟩ := isOf hZ rfl J136.exa
      obtain ⟨_, _, ⟨T14, L14, k14, n14⟩, -, X14, ⟨Lc14, hQ14, l14, y14, z14⟩, st14⟩ := X9.virtualBack hx (y := (⟨"com/example/holdfast/holdfast/net/ReferencedClasses", "classOf", "(J)I"⟩ : MethodName)) (z := (⟨"com/example/holdfast/holdfast/net/ReferencedClasses", "classOf", "(J)I"⟩ : MethodName)) hown (mvT hZ (hw _ (List.mem_of_getElem? (i := 28) rfl))) (mvT hZ (hw _ (List.mem_of_getElem? (i := 29) rfl))) (notFace_of_selects (args := #[]) (mvT hZ (hw _ (List.mem_of_getElem? (i := 31) rfl)))) (mvT hZ (hw _ (List.mem_of_getElem? (i := 31) rfl))) (mvT hZ (hw _ (List.mem_of_getElem? (i := 30) rfl))) (by decide) (backOf (W := 0) (rmCO0 l Z a0 hw [] ob P xj0 xj1 T9.heap n0 J136.sz J136) hZ (hw _ (List.mem_of_getElem? (i := 32) rfl)) (hw _ (List.mem_of_getElem? (i := 7) rfl)) (by decide) (by decide)) q14a q14c (g := (mkF m 145 #[.val (.long q0), .second, .val (.long q2), .second, .val (.long q4), .second, .val (.int p6), .val (.int p7), .val (.int p8), .val (.long A), .second, .val (.long B), .second, .val (.long P), .second, .val (.ref ob), .val (.int (1 : Int32)), .val (.int (p6 ^^^ (-1 : Int32)))] [(.long P), (.ref ob)])) rfl (by rw [hml]; rfl) (Steps.refl _) (argsL := [(.long P)]) (rest := []) (lenOf (d := "(J)I") (ps := [.long]) (r := some .int) (by decide +kernel) rfl) rfl (by show 2 * 0 + _ ≤ _; exact Nat.le_of_eq rfl) (hb hby at_145) (fun _ _ => ⟨rfl, rfl, (by decide : 2 + 0 ≤ _), (by decide : 67 + 0 ≤ _)⟩)
      dsimp only [Pt.U, Pt.locs, Pt.cells, Pt.slots] at X14 l14 y14 z14 st14 hQ14
      subst l14 y14 z14
      obtain ⟨rfl, N14q, e14⟩ := hQ14
      have N14 := Fr.app N9 N14q
      refine own_tr st14 ?_
      show OwnGoes p e below _ (T14.setTop (mkF m 148 #[.val (.long q0), .second, .val (.long q2), .second, .val (.long q4), .second, .val (.int p6), .val (.int p7), .val (.int p8), .val (.long A), .second, .val (.long B), .second, .val (.long P), .second, .val (.ref ob), .val (.int (1 : Int32)), .val (.int (p6 ^^^ (-1 : Int32)))] [(.int (-2147483648 : Int32))]))
      refine own_pre (fun _ kz_ => XS.lload X14.here hx rfl (hb hby at_148) rfl kz_) ?_
      show OwnGoes p e below _ (T14.setTop (mkF m 150 #[.val (.long q0), .second, .val (.long q2), .second, .val (.long q4), .second, .val (.int p6), .val (.int p7), .val (.int p8), .val (.long A), .second, .val (.long B), .second, .val (.long P), .second, .val (.ref ob), .val (.int (1 : Int32)), .val (.int (p6 ^^^ (-1 : Int32)))] [(.long P), (.int (-2147483648 : Int32))]))
      refine own_pre (fun _ kz_ => XS.lload X14.here hx rfl (hb hby at_150) rfl kz_) ?_
      show OwnGoes p e below _ (T14.setTop (mkF m 152 #[.val (.long q0), .second, .val (.long q2), .second, .val (.long q4), .second, .val (.int p6), .val (.int p7), .val (.int p8), .val (.long A), .second, .val (.long B), .second, .val (.long P), .second, .val (.ref ob), .val (.int (1 : Int32)), .val (.int (p6 ^^^ (-1 : Int32)))] [(.long P), (.long P), (.int (-2147483648 : Int32))]))
      refine own_pre (fun _ kz_ => XS.iload X14.here hx rfl (hb hby at_152) rfl kz_) ?_
      show OwnGoes p e below _ (T14.setTop (mkF m 154 #[.val (.long q0), .second, .val (.long q2), .second, .val (.long q4), .second, .val (.int p6), .val (.int p7), .val (.int p8), .val (.long A), .second, .val (.long B), .second, .val (.long P), .second, .val (.ref ob), .val (.int (1 : Int32)), .val (.int (p6 ^^^ (-1 : Int32)))] [(.int (p6 ^^^ (-1 : Int32))), (.long P), (.long P), (.int (-2147483648 : Int32))]))
      obtain ⟨_, _, ⟨T15, L15, k15, n15⟩, -, X15, ⟨Lc15, hQ15, l15, y15, z15⟩, st15⟩ := Jvm.LawKit.callS X14 hx (y := (⟨"com/example/holdfast/holdfast/net/ReferencedClassesClearPinLaw", "expect", "(JJI)I"⟩ : MethodName)) hown (mvT hZ (hw _ (List.mem_of_getElem? (i := 63) rfl))) (mvT hZ (hw _ (List.mem_of_getElem? (i := 64) rfl))) (mvT hZ (hw _ (List.mem_of_getElem? (i := 2) rfl))) (mvT hZ (hw _ (List.mem_of_getElem? (i := 65) rfl))) (by decide) (backOf (W := 1) (rmExp l Z a0 hw [] P P (p6 ^^^ (-1 : Int32)) (own_exp P P (p6 ^^^ (-1 : Int32))) T9.heap n0 J136.sz rfl) hZ (hw _ (List.mem_of_getElem? (i := 65) rfl)) (hw _ (List.mem_of_getElem? (i := 2) rfl)) (by decide) (by decide)) (g := (mkF m 154 #[.val (.long q0), .second, .val (.long q2), .second, .val (.long q4), .second, .val (.int p6), .val (.int p7), .val (.int p8), .val (.long A), .second, .val (.long B), .second, .val (.long P), .second, .val (.ref ob), .val (.int (1 : Int32)), .val (.int (p6 ^^^ (-1 : Int32)))] [(.int (p6 ^^^ (-1 : Int32))), (.long P), (.long P), (.int (-2147483648 : Int32))])) rfl (by rw [hml]; rfl) (argsL := [(.long P), (.long P), (.int (p6 ^^^ (-1 : Int32)))]) (rest := [(.int (-2147483648 : Int32))]) (lenOf (d := "(JJI)I") (ps := [.long, .long, .int]) (r := some .int) (by decide +kernel) rfl) rfl (by show 2 * 0 + _ ≤ _; exact Nat.le_of_eq rfl) (hb hby at_154) (fun _ _ => ⟨rfl, e14, (by decide : 2 + 0 ≤ _), (by decide : 67 + 0 ≤ _)⟩)
      dsimp only [Pt.U, Pt.locs, Pt.cells, Pt.slots] at X15 l15 y15 z15 st15 hQ15
      subst l15 y15 z15
      obtain ⟨rfl, N15q, e15⟩ := hQ15
      have N15 := Fr.app N14 N15q
      refine own_pre st15 ?_
      show OwnGoes p e below _ (T15.setTop (mkF m 157 #[.val (.long q0), .second, .val (.long q2), .second, .val (.long q4), .second, .val (.int p6), .val (.int p7), .val (.int p8), .val (.long A), .second, .val (.long B), .second, .val (.long P), .second, .val (.ref ob), .val (.int (1 : Int32)), .val (.int (p6 ^^^ (-1 : Int32)))] [(.int (own_exp P P (p6 ^^^ (-1 : Int32)))), (.int (-2147483648 : Int32))]))
      refine own_pre (fun _ kz_ => XS.icmpNo X15.here hx rfl (hb hby at_157) rfl (teq (own_expout hin136 _ P : (-2147483648 : Int32) = (own_exp P P (p6 ^^^ (-1 : Int32))))).2 kz_) ?_
      show OwnGoes p e below _ (T15.setTop (mkF m 160 #[.val (.long q0), .second, .val (.long q2), .second, .val (.long q4), .second, .val (.int p6), .val (.int p7), .val (.int p8), .val (.long A), .second, .val (.long B), .second, .val (.long P), .second, .val (.ref ob), .val (.int (1 : Int32)), .val (.int (p6 ^^^ (-1 : Int32)))] []))
      refine own_pre (fun _ kz_ => XS.iconst X15.here hx rfl (hb hby at_160) kz_) ?_
      show OwnGoes p e below _ (T15.setTop (mkF m 161 #[.val (.long q0), .second, .val (.long q2), .second, .val (.long q4), .second, .val (.int p6), .val (.int p7), .val (.int p8), .val (.long A), .second, .val (.long B), .second, .val (.long P), .second, .val (.ref ob), .val (.int (1 : Int32)), .val (.int (p6 ^^^ (-1 : Int32)))] [(.int (1 : Int32))]))
      refine own_pre (fun _ kz_ => XS.goto X15.here hx rfl (pc0 := 161) (pc' := 165) rfl (hb hby at_161) (by decide) (by decide) kz_) ?_
      show OwnGoes p e below _ (T15.setTop (mkF m 165 #[.val (.long q0), .second, .val (.long q2), .second, .val (.long q4), .second, .val (.int p6), .val (.int p7), .val (.int p8), .val (.long A), .second, .val (.long B), .second, .val (.long P), .second, .val (.ref ob), .val (.int (1 : Int32)), .val (.int (p6 ^^^ (-1 : Int32)))] [(.int (1 : Int32))]))
      refine own_pre (fun _ kz_ => XS.istore X15.here hx rfl (hb hby at_165) rfl (l' := #[.val (.long q0), .second, .val (.long q2), .second, .val (.long q4), .second, .val (.int p6), .val (.int p7), .val (.int p8), .val (.long A), .second, .val (.long B), .second, .val (.long P), .second, .val (.ref ob), .val (.int (1 : Int32)), .val (.int (p6 ^^^ (-1 : Int32)))]) rfl kz_) ?_
      show OwnGoes p e below _ (T15.setTop (mkF m 167 #[.val (.long q0), .second, .val (.long q2), .second, .val (.long q4), .second, .val (.int p6), .val (.int p7), .val (.int p8), .val (.long A), .second, .val (.long B), .second, .val (.long P), .second, .val (.ref ob), .val (.int (1 : Int32)), .val (.int (p6 ^^^ (-1 : Int32)))] []))
      refine own_pre (fun _ kz_ => XS.iload X15.here hx rfl (hb hby at_167) rfl kz_) ?_
      show OwnGoes p e below _ (T15.setTop (mkF m 169 #[.val (.long q0), .second, .val (.long q2), .second, .val (.long q4), .second, .val (.int p6), .val (.int p7), .val (.int p8), .val (.long A), .second, .val (.long B), .second, .val (.long P), .second, .val (.ref ob), .val (.int (1 : Int32)), .val (.int (p6 ^^^ (-1 : Int32)))] [(.int (1 : Int32))]))
      refine own_pre (fun _ kz_ => XS.ifNo X15.here hx rfl (hb hby at_169) rfl ((if0 _ _).trans (feq (by decide : ¬ ((1 : Int32) = (0 : Int32)))).1) kz_) ?_
      show OwnGoes p e below _ (T15.setTop (mkF m 172 #[.val (.long q0), .second, .val (.long q2), .second, .val (.long q4), .second, .val (.int p6), .val (.int p7), .val (.int p8), .val (.long A), .second, .val (.long B), .second, .val (.long P), .second, .val (.ref ob), .val (.int (1 : Int32)), .val (.int (p6 ^^^ (-1 : Int32)))] []))
      refine own_pre (fun _ kz_ => XS.aload X15.here hx rfl (hb hby at_172) rfl rfl kz_) ?_
      show OwnGoes p e below _ (T15.setTop (mkF m 174 #[.val (.long q0), .second, .val (.long q2), .second, .val (.long q4), .second, .val (.int p6), .val (.int p7), .val (.int p8), .val (.long A), .second, .val (.long B), .second, .val (.long P), .second, .val (.ref ob), .val (.int (1 : Int32)), .val (.int (p6 ^^^ (-1 : Int32)))] [(.ref ob)]))
      refine own_pre (fun _ kz_ => XS.lload X15.here hx rfl (hb hby at_174) rfl kz_) ?_
      show OwnGoes p e below _ (T15.setTop (mkF m 176 #[.val (.long q0), .second, .val (.long q2), .second, .val (.long q4), .second, .val (.int p6), .val (.int p7), .val (.int p8), .val (.long A), .second, .val (.long B), .second, .val (.long P), .second, .val (.ref ob), .val (.int (1 : Int32)), .val (.int (p6 ^^^ (-1 : Int32)))] [(.long A), (.ref ob)]))
      obtain ⟨cq16, kq16, q16a, q16b, q16c⟩ := isOf hZ e15 J136.exa
      obtain ⟨_, _, ⟨T16, L16, k16, n16⟩, -, X16, ⟨Lc16, hQ16, l16, y16, z16⟩, st16⟩ := X15.virtualBack hx (y := (⟨"com/example/holdfast/holdfast/net/ReferencedClasses", "classOf", "(J)I"⟩ : MethodName)) (z := (⟨"com/example/holdfast/holdfast/net/ReferencedClasses", "classOf", "(J)I"⟩ : MethodName)) hown (mvT hZ (hw _ (List.mem_of_getElem? (i := 28) rfl))) (mvT hZ (hw _ (List.mem_of_getElem? (i := 29) rfl))) (notFace_of_selects (args := #[]) (mvT hZ (hw _ (List.mem_of_getElem? (i := 31) rfl)))) (mvT hZ (hw _ (List.mem_of_getElem? (i := 31) rfl))) (mvT hZ (hw _ (List.mem_of_getElem? (i := 30) rfl))) (by decide) (backOf (W := 0) (rmCO0 l Z a0 hw [] ob A xj0 xj1 T9.heap n0 J136.sz J136) hZ (hw _ (List.mem_of_getElem? (i := 32) rfl)) (hw _ (List.mem_of_getElem? (i := 7) rfl)) (by decide) (by decide)) q16a q16c (g := (mkF m 176 #[.val (.long q0), .second, .val (.long q2), .second, .val (.long q4), .second, .val (.int p6), .val (.int p7), .val (.int p8), .val (.long A), .second, .val (.long B), .second, .val (.long P), .second, .val (.ref ob), .val (.int (1 : Int32)), .val (.int (p6 ^^^ (-1 : Int32)))] [(.long A), (.ref ob)])) rfl (by rw [hml]; rfl) (Steps.refl _) (argsL := [(.long A)]) (rest := []) (lenOf (d := "(J)I") (ps := [.long]) (r := some .int) (by decide +kernel) rfl) rfl (by show 2 * 0 + _ ≤ _; exact Nat.le_of_eq rfl) (hb hby at_176) (fun _ _ => ⟨rfl, e15, (by decide : 2 + 0 ≤ _), (by decide : 67 + 0 ≤ _)⟩)
      dsimp only [Pt.U, Pt.locs, Pt.cells, Pt.slots] at X16 l16 y16 z16 st16 hQ16
      subst l16 y16 z16
      obtain ⟨rfl, N16q, e16⟩ := hQ16
      have N16 := Fr.app N15 N16q
      refine own_tr st16 ?_
      show OwnGoes p e below _ (T16.setTop (mkF m 179 #[.val (.long q0), .second, .val (.long q2), .second, .val (.long q4), .second, .val (.int p6), .val (.int p7), .val (.int p8), .val (.long A), .second, .val (.long B), .second, .val (.long P), .second, .val (.ref ob), .val (.int (1 : Int32)), .val (.int (p6 ^^^ (-1 : Int32)))] [(.int (-2147483648 : Int32))]))
      refine own_pre (fun _ kz_ => XS.lload X16.here hx rfl (hb hby at_179) rfl kz_) ?_
      show OwnGoes p e below _ (T16.setTop (mkF m 181 #[.val (.long q0), .second, .val (.long q2), .second, .val (.long q4), .second, .val (.int p6), .val (.int p7), .val (.int p8), .val (.long A), .second, .val (.long B), .second, .val (.long P), .second, .val (.ref ob), .val (.int (1 : Int32)), .val (.int (p6 ^^^ (-1 : Int32)))] [(.long A), (.int (-2147483648 : Int32))]))
      refine own_pre (fun _ kz_ => XS.lload X16.here hx rfl (hb hby at_181) rfl kz_) ?_
      show OwnGoes p e below _ (T16.setTop (mkF m 183 #[.val (.long q0), .second, .val (.long q2), .second, .val (.long q4), .second, .val (.int p6), .val (.int p7), .val (.int p8), .val (.long A), .second, .val (.long B), .second, .val (.long P), .second, .val (.ref ob), .val (.int (1 : Int32)), .val (.int (p6 ^^^ (-1 : Int32)))] [(.long P), (.long A), (.int (-2147483648 : Int32))]))
      refine own_pre (fun _ kz_ => XS.iload X16.here hx rfl (hb hby at_183) rfl kz_) ?_
      show OwnGoes p e below _ (T16.setTop (mkF m 185 #[.val (.long q0), .second, .val (.long q2), .second, .val (.long q4), .second, .val (.int p6), .val (.int p7), .val (.int p8), .val (.long A), .second, .val (.long B), .second, .val (.long P), .second, .val (.ref ob), .val (.int (1 : Int32)), .val (.int (p6 ^^^ (-1 : Int32)))] [(.int (p6 ^^^ (-1 : Int32))), (.long P), (.long A), (.int (-2147483648 : Int32))]))
      obtain ⟨_, _, ⟨T17, L17, k17, n17⟩, -, X17, ⟨Lc17, hQ17, l17, y17, z17⟩, st17⟩ := Jvm.LawKit.callS X16 hx (y := (⟨"com/example/holdfast/holdfast/net/ReferencedClassesClearPinLaw", "expect", "(JJI)I"⟩ : MethodName)) hown (mvT hZ (hw _ (List.mem_of_getElem? (i := 63) rfl))) (mvT hZ (hw _ (List.mem_of_getElem? (i := 64) rfl))) (mvT hZ (hw _ (List.mem_of_getElem? (i := 2) rfl))) (mvT hZ (hw _ (List.mem_of_getElem? (i := 65) rfl))) (by decide) (backOf (W := 1) (rmExp l Z a0 hw [] A P (p6 ^^^ (-1 : Int32)) (own_exp A P (p6 ^^^ (-1 : Int32))) T9.heap n0 J136.sz rfl) hZ (hw _ (List.mem_of_getElem? (i := 65) rfl)) (hw _ (List.mem_of_getElem? (i := 2) rfl)) (by decide) (by decide)) (g := (mkF m 185 #[.val (.long q0), .second, .val (.long q2), .second, .val (.long q4), .second, .val (.int p6), .val (.int p7), .val (.int p8), .val (.long A), .second, .val (.long B), .second, .val (.long P), .second, .val (.ref ob), .val (.int (1 : Int32)), .val (.int (p6 ^^^ (-1 : Int32)))] [(.int (p6 ^^^ (-1 : Int32))), (.long P), (.long A), (.int (-2147483648 : Int32))])) rfl (by rw [hml]; rfl) (argsL := [(.long A), (.long P), (.int (p6 ^^^ (-1 : Int32)))]) (rest := [(.int (-2147483648 : Int32))]) (lenOf (d := "(JJI)I") (ps := [.long, .long, .int]) (r := some .int) (by decide +kernel) rfl) rfl (by show 2 * 0 + _ ≤ _; exact Nat.le_of_eq rfl) (hb hby at_185) (fun _ _ => ⟨rfl, e16, (by decide : 2 + 0 ≤ _), (by decide : 67 + 0 ≤ _)⟩)
      dsimp only [Pt.U, Pt.locs, Pt.cells, Pt.slots] at X17 l17 y17 z17 st17 hQ17
      subst l17 y17 z17
      obtain ⟨rfl, N17q, e17⟩ := hQ17
      have N17 := Fr.app N16 N17q
      refine own_pre st17 ?_
      show OwnGoes p e below _ (T17.setTop (mkF m 188 #[.val (.long q0), .second, .val (.long q2), .second, .val (.long q4), .second, .val (.int p6), .val (.int p7), .val (.int p8), .val (.long A), .second, .val (.long B), .second, .val (.long P), .second, .val (.ref ob), .val (.int (1 : Int32)), .val (.int (p6 ^^^ (-1 : Int32)))] [(.int (own_exp A P (p6 ^^^ (-1 : Int32)))), (.int (-2147483648 : Int32))]))
      refine own_pre (fun _ kz_ => XS.icmpNo X17.here hx rfl (hb hby at_188) rfl (teq (own_expout hin136 _ A : (-2147483648 : Int32) = (own_exp A P (p6 ^^^ (-1 : Int32))))).2 kz_) ?_
      show OwnGoes p e below _ (T17.setTop (mkF m 191 #[.val (.long q0), .second, .val (.long q2), .second, .val (.long q4), .second, .val (.int p6), .val (.int p7), .val (.int p8), .val (.long A), .second, .val (.long B), .second, .val (.long P), .second, .val (.ref ob), .val (.int (1 : Int32)), .val (.int (p6 ^^^ (-1 : Int32)))] []))
      refine own_pre (fun _ kz_ => XS.iconst X17.here hx rfl (hb hby at_191) kz_) ?_
      show OwnGoes p e below _ (T17.setTop (mkF m 192 #[.val (.long q0), .second, .val (.long q2), .second, .val (.long q4), .second, .val (.int p6), .val (.int p7), .val (.int p8), .val (.long A), .second, .val (.long B), .second, .val (.long P), .second, .val (.ref ob), .val (.int (1 : Int32)), .val (.int (p6 ^^^ (-1 : Int32)))] [(.int (1 : Int32))]))
      refine own_pre (fun _ kz_ => XS.goto X17.here hx rfl (pc0 := 192) (pc' := 196) rfl (hb hby at_192) (by decide) (by decide) kz_) ?_
      show OwnGoes p e below _ (T17.setTop (mkF m 196 #[.val (.long q0), .second, .val (.long q2), .second, .val (.long q4), .second, .val (.int p6), .val (.int p7), .val (.int p8), .val (.long A), .second, .val (.long B), .second, .val (.long P), .second, .val (.ref ob), .val (.int (1 : Int32)), .val (.int (p6 ^^^ (-1 : Int32)))] [(.int (1 : Int32))]))
      refine own_pre (fun _ kz_ => XS.istore X17.here hx rfl (hb hby at_196) rfl (l' := #[.val (.long q0), .second, .val (.long q2), .second, .val (.long q4), .second, .val (.int p6), .val (.int p7), .val (.int p8), .val (.long A), .second, .val (.long B), .second, .val (.long P), .second, .val (.ref ob), .val (.int (1 : Int32)), .val (.int (p6 ^^^ (-1 : Int32)))]) rfl kz_) ?_
      show OwnGoes p e below _ (T17.setTop (mkF m 198 #[.val (.long q0), .second, .val (.long q2), .second, .val (.long q4), .second, .val (.int p6), .val (.int p7), .val (.int p8), .val (.long A), .second, .val (.long B), .second, .val (.long P), .second, .val (.ref ob), .val (.int (1 : Int32)), .val (.int (p6 ^^^ (-1 : Int32)))] []))
      refine own_pre (fun _ kz_ => XS.iload X17.here hx rfl (hb hby at_198) rfl kz_) ?_
      show OwnGoes p e below _ (T17.setTop (mkF m 200 #[.val (.long q0), .second, .val (.long q2), .second, .val (.long q4), .second, .val (.int p6), .val (.int p7), .val (.int p8), .val (.long A), .second, .val (.long B), .second, .val (.long P), .second, .val (.ref ob), .val (.int (1 : Int32)), .val (.int (p6 ^^^ (-1 : Int32)))] [(.int (1 : Int32))]))
      exact own_ret X17 hx Bd.returns (rfl) (Or.inl ⟨rfl, by simp, _, rfl⟩) Bd.notSynchronized (hb hby at_200) ⟨rfl, N17⟩ (by decide) (by decide)
  show OwnGoes p e below _ (T5.setTop (mkF m 38 #[.val (.long q0), .second, .val (.long q2), .second, .val (.long q4), .second, .val (.int p6), .val (.int p7), .val (.int p8), .val (.long A), .second, .val (.long B), .second, .val (.long P), .second, .unset, .unset, .unset] [(.ref ob)]))
  refine own_pre (fun _ kz_ => XS.astore X5.here hx rfl (hb hby at_38) rfl rfl (l' := #[.val (.long q0), .second, .val (.long q2), .second, .val (.long q4), .second, .val (.int p6), .val (.int p7), .val (.int p8), .val (.long A), .second, .val (.long B), .second, .val (.long P), .second, .val (.ref ob), .unset, .unset]) rfl kz_) ?_
  show OwnGoes p e below _ (T5.setTop (mkF m 40 #[.val (.long q0), .second, .val (.long q2), .second, .val (.long q4), .second, .val (.int p6), .val (.int p7), .val (.int p8), .val (.long A), .second, .val (.long B), .second, .val (.long P), .second, .val (.ref ob), .unset, .unset] []))
  refine own_pre (fun _ kz_ => XS.aload X5.here hx rfl (hb hby at_40) rfl rfl kz_) ?_
  show OwnGoes p e below _ (T5.setTop (mkF m 42 #[.val (.long q0), .second, .val (.long q2), .second, .val (.long q4), .second, .val (.int p6), .val (.int p7), .val (.int p8), .val (.long A), .second, .val (.long B), .second, .val (.long P), .second, .val (.ref ob), .unset, .unset] [(.ref ob)]))
  refine own_pre (fun _ kz_ => XS.lload X5.here hx rfl (hb hby at_42) rfl kz_) ?_
  show OwnGoes p e below _ (T5.setTop (mkF m 44 #[.val (.long q0), .second, .val (.long q2), .second, .val (.long q4), .second, .val (.int p6), .val (.int p7), .val (.int p8), .val (.long A), .second, .val (.long B), .second, .val (.long P), .second, .val (.ref ob), .unset, .unset] [(.long A), (.ref ob)]))
  refine own_pre (fun _ kz_ => XS.iload X5.here hx rfl (hb hby at_44) rfl kz_) ?_
  show OwnGoes p e below _ (T5.setTop (mkF m 46 #[.val (.long q0), .second, .val (.long q2), .second, .val (.long q4), .second, .val (.int p6), .val (.int p7), .val (.int p8), .val (.long A), .second, .val (.long B), .second, .val (.long P), .second, .val (.ref ob), .unset, .unset] [(.int p6), (.long A), (.ref ob)]))
  obtain ⟨cq18, kq18, q18a, q18b, q18c⟩ := isOf hZ rfl I5q.exa
  obtain ⟨_, _, ⟨T18, L18, k18, n18⟩, -, X18, ⟨Lc18, hQ18, l18, y18, z18⟩, st18⟩ := X5.virtualBack hx (y := (⟨"com/example/holdfast/holdfast/net/ReferencedClasses", "add", "(JI)V"⟩ : MethodName)) (z := (⟨"com/example/holdfast/holdfast/net/ReferencedClasses", "add", "(JI)V"⟩ : MethodName)) hown (mvT hZ (hw _ (List.mem_of_getElem? (i := 19) rfl))) (mvT hZ (hw _ (List.mem_of_getElem? (i := 20) rfl))) (notFace_of_selects (args := #[]) (mvT hZ (hw _ (List.mem_of_getElem? (i := 22) rfl)))) (mvT hZ (hw _ (List.mem_of_getElem? (i := 22) rfl))) (mvT hZ (hw _ (List.mem_of_getElem? (i := 21) rfl))) (by decide) (backOf (W := 0) (rmAdd0 l Z a0 hw [] ob A p6 (1 : Int32) (0 : Int64) (0 : Int64) T5.heap n0 I5q.sz I5q) hZ (hw _ (List.mem_of_getElem? (i := 23) rfl)) (hw _ (List.mem_of_getElem? (i := 7) rfl)) (by decide) (by decide)) q18a q18c (g := (mkF m 46 #[.val (.long q0), .second, .val (.long q2), .second, .val (.long q4), .second, .val (.int p6), .val (.int p7), .val (.int p8), .val (.long A), .second, .val (.long B), .second, .val (.long P), .second, .val (.ref ob), .unset, .unset] [(.int p6), (.long A), (.ref ob)])) rfl (by rw [hml]; rfl) (Steps.refl _) (argsL := [(.long A), (.int p6)]) (rest := []) (lenOf (d := "(JI)V") (ps := [.long, .int]) (r := none) (by decide +kernel) rfl) rfl (by show 2 * 0 + _ ≤ _; exact Nat.le_of_eq rfl) (hb hby at_46) (fun _ _ => ⟨rfl, rfl, (by decide : 2 + 0 ≤ _), (by decide : 67 + 0 ≤ _)⟩)
  dsimp only [Pt.U, Pt.locs, Pt.cells, Pt.slots] at X18 l18 y18 z18 st18 hQ18
  subst l18 y18 z18
  obtain ⟨rfl, N18q, D18q⟩ := hQ18
  have N18 := Fr.app N5 N18q
  refine own_tr st18 ?_
  show OwnGoes p e below _ (T18.setTop (mkF m 49 #[.val (.long q0), .second, .val (.long q2), .second, .val (.long q4), .second, .val (.int p6), .val (.int p7), .val (.int p8), .val (.long A), .second, .val (.long B), .second, .val (.long P), .second, .val (.ref ob), .unset, .unset] []))
  rcases D18q with ⟨hin49, J49⟩ | ⟨hin49, J49⟩
  · show OwnGoes p e below _ (T18.setTop (mkF m 49 #[.val (.long q0), .second, .val (.long q2), .second, .val (.long q4), .second, .val (.int p6), .val (.int p7), .val (.int p8), .val (.long A), .second, .val (.long B), .second, .val (.long P), .second, .val (.ref ob), .unset, .unset] []))
    refine own_pre (fun _ kz_ => XS.aload X18.here hx rfl (hb hby at_49) rfl rfl kz_) ?_
    show OwnGoes p e below _ (T18.setTop (mkF m 51 #[.val (.long q0), .second, .val (.long q2), .second, .val (.long q4), .second, .val (.int p6), .val (.int p7), .val (.int p8), .val (.long A), .second, .val (.long B), .second, .val (.long P), .second, .val (.ref ob), .unset, .unset] [(.ref ob)]))
    refine own_pre (fun _ kz_ => XS.lload X18.here hx rfl (hb hby at_51) rfl kz_) ?_
    show OwnGoes p e below _ (T18.setTop (mkF m 53 #[.val (.long q0), .second, .val (.long q2), .second, .val (.long q4), .second, .val (.int p6), .val (.int p7), .val (.int p8), .val (.long A), .second, .val (.long B), .second, .val (.long P), .second, .val (.ref ob), .unset, .unset] [(.long B), (.ref ob)]))
    refine own_pre (fun _ kz_ => XS.iload X18.here hx rfl (hb hby at_53) rfl kz_) ?_
    show OwnGoes p e below _ (T18.setTop (mkF m 55 #[.val (.long q0), .second, .val (.long q2), .second, .val (.long q4), .second, .val (.int p6), .val (.int p7), .val (.int p8), .val (.long A), .second, .val (.long B), .second, .val (.long P), .second, .val (.ref ob), .unset, .unset] [(.int p7), (.long B), (.ref ob)]))
    obtain ⟨cq19, kq19, q19a, q19b, q19c⟩ := isOf hZ rfl J49.exa
    obtain ⟨_, _, ⟨T19, L19, k19, n19⟩, -, X19, ⟨Lc19, hQ19, l19, y19, z19⟩, st19⟩ := X18.virtualBack hx (y := (⟨"com/example/holdfast/holdfast/net/ReferencedClasses", "add", "(JI)V"⟩ : MethodName)) (z := (⟨"com/example/holdfast/holdfast/net/ReferencedClasses", "add", "(JI)V"⟩ : MethodName)) hown (mvT hZ (hw _ (List.mem_of_getElem? (i := 19) rfl))) (mvT hZ (hw _ (List.mem_of_getElem? (i := 20) rfl))) (notFace_of_selects (args := #[]) (mvT hZ (hw _ (List.mem_of_getElem? (i := 22) rfl)))) (mvT hZ (hw _ (List.mem_of_getElem? (i := 22) rfl))) (mvT hZ (hw _ (List.mem_of_getElem? (i := 21) rfl))) (by decide) (backOf (W := 0) (rmAdd1 l Z a0 hw [] ob B p7 (0 : Int32) (own_e A p6) (0 : Int64) T18.heap n0 J49.sz J49) hZ (hw _ (List.mem_of_getElem? (i := 23) rfl)) (hw _ (List.mem_of_getElem? (i := 7) rfl)) (by decide) (by decide)) q19a q19c (g := (mkF m 55 #[.val (.long q0), .second, .val (.long q2), .second, .val (.long q4), .second, .val (.int p6), .val (.int p7), .val (.int p8), .val (.long A), .second, .val (.long B), .second, .val (.long P), .second, .val (.ref ob), .unset, .unset] [(.int p7), (.long B), (.ref ob)])) rfl (by rw [hml]; rfl) (Steps.refl _) (argsL := [(.long B), (.int p7)]) (rest := []) (lenOf (d := "(JI)V") (ps := [.long, .int]) (r := none) (by decide +kernel) rfl) rfl (by show 2 * 0 + _ ≤ _; exact Nat.le_of_eq rfl) (hb hby at_55) (fun _ _ => ⟨rfl, rfl, (by decide : 2 + 0 ≤ _), (by decide : 67 + 0 ≤ _)⟩)
    dsimp only [Pt.U, Pt.locs, Pt.cells, Pt.slots] at X19 l19 y19 z19 st19 hQ19
    subst l19 y19 z19
    obtain ⟨rfl, N19q, D19q⟩ := hQ19
    have N19 := Fr.app N18 N19q
    refine own_tr st19 ?_
    show OwnGoes p e below _ (T19.setTop (mkF m 58 #[.val (.long q0), .second, .val (.long q2), .second, .val (.long q4), .second, .val (.int p6), .val (.int p7), .val (.int p8), .val (.long A), .second, .val (.long B), .second, .val (.long P), .second, .val (.ref ob), .unset, .unset] []))
    rcases D19q with ⟨hin58, J58⟩ | ⟨hin58, J58⟩
    · show OwnGoes p e below _ (T19.setTop (mkF m 58 #[.val (.long q0), .second, .val (.long q2), .second, .val (.long q4), .second, .val (.int p6), .val (.int p7), .val (.int p8), .val (.long A), .second, .val (.long B), .second, .val (.long P), .second, .val (.ref ob), .unset, .unset] []))
      refine own_pre (fun _ kz_ => XS.iload X19.here hx rfl (hb hby at_58) rfl kz_) ?_
      show OwnGoes p e below _ (T19.setTop (mkF m 60 #[.val (.long q0), .second, .val (.long q2), .second, .val (.long q4), .second, .val (.int p6), .val (.int p7), .val (.int p8), .val (.long A), .second, .val (.long B), .second, .val (.long P), .second, .val (.ref ob), .unset, .unset] [(.int p8)]))
      refine own_pre (fun _ kz_ => XS.iconst X19.here hx rfl (hb hby at_60) kz_) ?_
      show OwnGoes p e below _ (T19.setTop (mkF m 61 #[.val (.long q0), .second, .val (.long q2), .second, .val (.long q4), .second, .val (.int p6), .val (.int p7), .val (.int p8), .val (.long A), .second, .val (.long B), .second, .val (.long P), .second, .val (.ref ob), .unset, .unset] [(.int (1 : Int32)), (.int p8)]))
      refine own_pre (fun _ kz_ => XS.iand X19.here hx rfl (hb hby at_61) rfl kz_) ?_
      show OwnGoes p e below _ (T19.setTop (mkF m 62 #[.val (.long q0), .second, .val (.long q2), .second, .val (.long q4), .second, .val (.int p6), .val (.int p7), .val (.int p8), .val (.long A), .second, .val (.long B), .second, .val (.long P), .second, .val (.ref ob), .unset, .unset] [(.int (p8 &&& (1 : Int32)))]))
      by_cases h62 : (p8 &&& (1 : Int32)) = (0 : Int32)
      · refine own_pre (fun _ kz_ => XS.ifYes X19.here hx rfl (pc0 := 62) (pc' := 73) rfl (hb hby at_62) rfl ((if0 _ _).trans (teq h62).1) (by decide) (by decide) kz_) ?_
        show OwnGoes p e below _ (T19.setTop (mkF m 73 #[.val (.long q0), .second, .val (.long q2), .second, .val (.long q4), .second, .val (.int p6), .val (.int p7), .val (.int p8), .val (.long A), .second, .val (.long B), .second, .val (.long P), .second, .val (.ref ob), .unset, .unset] []))
        exact J73 _ _ X19 N19 _ _ _ _ J58
      · refine own_pre (fun _ kz_ => XS.ifNo X19.here hx rfl (hb hby at_62) rfl ((if0 _ _).trans (feq h62).1) kz_) ?_
        show OwnGoes p e below _ (T19.setTop (mkF m 65 #[.val (.long q0), .second, .val (.long q2), .second, .val (.long q4), .second, .val (.int p6), .val (.int p7), .val (.int p8), .val (.long A), .second, .val (.long B), .second, .val (.long P), .second, .val (.ref ob), .unset, .unset] []))
        refine own_pre (fun _ kz_ => XS.aload X19.here hx rfl (hb hby at_65) rfl rfl kz_) ?_
        show OwnGoes p e below _ (T19.setTop (mkF m 67 #[.val (.long q0), .second, .val (.long q2), .second, .val (.long q4), .second, .val (.int p6), .val (.int p7), .val (.int p8), .val (.long A), .second, .val (.long B), .second, .val (.long P), .second, .val (.ref ob), .unset, .unset] [(.ref ob)]))
        refine own_pre (fun _ kz_ => XS.lload X19.here hx rfl (hb hby at_67) rfl kz_) ?_
        show OwnGoes p e below _ (T19.setTop (mkF m 69 #[.val (.long q0), .second, .val (.long q2), .second, .val (.long q4), .second, .val (.int p6), .val (.int p7), .val (.int p8), .val (.long A), .second, .val (.long B), .second, .val (.long P), .second, .val (.ref ob), .unset, .unset] [(.long A), (.ref ob)]))
        obtain ⟨cq20, kq20, q20a, q20b, q20c⟩ := isOf hZ rfl J58.exa
        obtain ⟨_, _, ⟨T20, L20, k20, n20⟩, -, X20, ⟨Lc20, hQ20, l20, y20, z20⟩, st20⟩ := X19.virtualBack hx (y := (⟨"com/example/holdfast/holdfast/net/ReferencedClasses", "classOf", "(J)I"⟩ : MethodName)) (z := (⟨"com/example/holdfast/holdfast/net/ReferencedClasses", "classOf", "(J)I"⟩ : MethodName)) hown (mvT hZ (hw _ (List.mem_of_getElem? (i := 28) rfl))) (mvT hZ (hw _ (List.mem_of_getElem? (i := 29) rfl))) (notFace_of_selects (args := #[]) (mvT hZ (hw _ (List.mem_of_getElem? (i := 31) rfl)))) (mvT hZ (hw _ (List.mem_of_getElem? (i := 31) rfl))) (mvT hZ (hw _ (List.mem_of_getElem? (i := 30) rfl))) (by decide) (backOf (W := 0) (rmCO2 l Z a0 hw [] ob A (0 : Int32) (own_e A p6) (own_e B p7) T19.heap n0 J58.sz J58) hZ (hw _ (List.mem_of_getElem? (i := 32) rfl)) (hw _ (List.mem_of_getElem? (i := 7) rfl)) (by decide) (by decide)) q20a q20c (g := (mkF m 69 #[.val (.long q0), .second, .val (.long q2), .second, .val (.long q4), .second, .val (.int p6), .val (.int p7), .val (.int p8), .val (.long A), .second, .val (.long B), .second, .val (.long P), .second, .val (.ref ob), .unset, .unset] [(.long A), (.ref ob)])) rfl (by rw [hml]; rfl) (Steps.refl _) (argsL := [(.long A)]) (rest := []) (lenOf (d := "(J)I") (ps := [.long]) (r := some .int) (by decide +kernel) rfl) rfl (by show 2 * 0 + _ ≤ _; exact Nat.le_of_eq rfl) (hb hby at_69) (fun _ _ => ⟨rfl, rfl, (by decide : 2 + 0 ≤ _), (by decide : 67 + 0 ≤ _)⟩)
        dsimp only [Pt.U, Pt.locs, Pt.cells, Pt.slots] at X20 l20 y20 z20 st20 hQ20
        subst l20 y20 z20
        obtain ⟨rr, rfl, N20q, s20_, y20_0, y20_1, I20q⟩ := hQ20
        have N20 := Fr.app N19 N20q
        refine own_tr st20 ?_
        show OwnGoes p e below _ (T20.setTop (mkF m 72 #[.val (.long q0), .second, .val (.long q2), .second, .val (.long q4), .second, .val (.int p6), .val (.int p7), .val (.int p8), .val (.long A), .second, .val (.long B), .second, .val (.long P), .second, .val (.ref ob), .unset, .unset] [(.int rr)]))
        refine own_pre (fun _ kz_ => XS.pop X20.here hx rfl (hb hby at_72) rfl rfl kz_) ?_
        show OwnGoes p e below _ (T20.setTop (mkF m 73 #[.val (.long q0), .second, .val (.long q2), .second, .val (.long q4), .second, .val (.int p6), .val (.int p7), .val (.int p8), .val (.long A), .second, .val (.long B), .second, .val (.long P), .second, .val (.ref ob), .unset, .unset] []))
        exact J73 _ _ X20 N20 _ _ _ _ I20q
    · show OwnGoes p e below _ (T19.setTop (mkF m 58 #[.val (.long q0), .second, .val (.long q2), .second, .val (.long q4), .second, .val (.int p6), .val (.int p7), .val (.int p8), .val (.long A), .second, .val (.long B), .second, .val (.long P), .second, .val (.ref ob), .unset, .unset] []))
      refine own_pre (fun _ kz_ => XS.iload X19.here hx rfl (hb hby at_58) rfl kz_) ?_
      show OwnGoes p e below _ (T19.setTop (mkF m 60 #[.val (.long q0), .second, .val (.long q2), .second, .val (.long q4), .second, .val (.int p6), .val (.int p7), .val (.int p8), .val (.long A), .second, .val (.long B), .second, .val (.long P), .second, .val (.ref ob), .unset, .unset] [(.int p8)]))
      refine own_pre (fun _ kz_ => XS.iconst X19.here hx rfl (hb hby at_60) kz_) ?_
      show OwnGoes p e below _ (T19.setTop (mkF m 61 #[.val (.long q0), .second, .val (.long q2), .second, .val (.long q4), .second, .val (.int p6), .val (.int p7), .val (.int p8), .val (.long A), .second, .val (.long B), .second, .val (.long P), .second, .val (.ref ob), .unset, .unset] [(.int (1 : Int32)), (.int p8)]))
      refine own_pre (fun _ kz_ => XS.iand X19.here hx rfl (hb hby at_61) rfl kz_) ?_
      show OwnGoes p e below _ (T19.setTop (mkF m 62 #[.val (.long q0), .second, .val (.long q2), .second, .val (.long q4), .second, .val (.int p6), .val (.int p7), .val (.int p8), .val (.long A), .second, .val (.long B), .second, .val (.long P), .second, .val (.ref ob), .unset, .unset] [(.int (p8 &&& (1 : Int32)))]))
      by_cases h62 : (p8 &&& (1 : Int32)) = (0 : Int32)
      · refine own_pre (fun _ kz_ => XS.ifYes X19.here hx rfl (pc0 := 62) (pc' := 73) rfl (hb hby at_62) rfl ((if0 _ _).trans (teq h62).1) (by decide) (by decide) kz_) ?_
        show OwnGoes p e below _ (T19.setTop (mkF m 73 #[.val (.long q0), .second, .val (.long q2), .second, .val (.long q4), .second, .val (.int p6), .val (.int p7), .val (.int p8), .val (.long A), .second, .val (.long B), .second, .val (.long P), .second, .val (.ref ob), .unset, .unset] []))
        exact J73 _ _ X19 N19 _ _ _ _ J58
      · refine own_pre (fun _ kz_ => XS.ifNo X19.here hx rfl (hb hby at_62) rfl ((if0 _ _).trans (feq h62).1) kz_) ?_
        show OwnGoes p e below _ (T19.setTop (mkF m 65 #[.val (.long q0), .second, .val (.long q2), .second, .val (.long q4), .second, .val (.int p6), .val (.int p7), .val (.int p8), .val (.long A), .second, .val (.long B), .second, .val (.long P), .second, .val (.ref ob), .unset, .unset] []))
        refine own_pre (fun _ kz_ => XS.aload X19.here hx rfl (hb hby at_65) rfl rfl kz_) ?_
        show OwnGoes p e below _ (T19.setTop (mkF m 67 #[.val (.long q0), .second, .val (.long q2), .second, .val (.long q4), .second, .val (.int p6), .val (.int p7), .val (.int p8), .val (.long A), .second, .val (.long B), .second, .val (.long P), .second, .val (.ref ob), .unset, .unset] [(.ref ob)]))
        refine own_pre (fun _ kz_ => XS.lload X19.here hx rfl (hb hby at_67) rfl kz_) ?_
        show OwnGoes p e below _ (T19.setTop (mkF m 69 #[.val (.long q0), .second, .val (.long q2), .second, .val (.long q4), .second, .val (.int p6), .val (.int p7), .val (.int p8), .val (.long A), .second, .val (.long B), .second, .val (.long P), .second, .val (.ref ob), .unset, .unset] [(.long A), (.ref ob)]))
        obtain ⟨cq21, kq21, q21a, q21b, q21c⟩ := isOf hZ rfl J58.exa
        obtain ⟨_, _, ⟨T21, L21, k21, n21⟩, -, X21, ⟨Lc21, hQ21, l21, y21, z21⟩, st21⟩ := X19.virtualBack hx (y := (⟨"com/example/holdfast/holdfast/net/ReferencedClasses", "classOf", "(J)I"⟩ : MethodName)) (z := (⟨"com/example/holdfast/holdfast/net/ReferencedClasses", "classOf", "(J)I"⟩ : MethodName)) hown (mvT hZ (hw _ (List.mem_of_getElem? (i := 28) rfl))) (mvT hZ (hw _ (List.mem_of_getElem? (i := 29) rfl))) (notFace_of_selects (args := #[]) (mvT hZ (hw _ (List.mem_of_getElem? (i := 31) rfl)))) (mvT hZ (hw _ (List.mem_of_getElem? (i := 31) rfl))) (mvT hZ (hw _ (List.mem_of_getElem? (i := 30) rfl))) (by decide) (backOf (W := 0) (rmCO1 l Z a0 hw [] ob A (0 : Int32) (own_e A p6) (0 : Int64) T19.heap n0 J58.sz J58) hZ (hw _ (List.mem_of_getElem? (i := 32) rfl)) (hw _ (List.mem_of_getElem? (i := 7) rfl)) (by decide) (by decide)) q21a q21c (g := (mkF m 69 #[.val (.long q0), .second, .val (.long q2), .second, .val (.long q4), .second, .val (.int p6), .val (.int p7), .val (.int p8), .val (.long A), .second, .val (.long B), .second, .val (.long P), .second, .val (.ref ob), .unset, .unset] [(.long A), (.ref ob)])) rfl (by rw [hml]; rfl) (Steps.refl _) (argsL := [(.long A)]) (rest := []) (lenOf (d := "(J)I") (ps := [.long]) (r := some .int) (by decide +kernel) rfl) rfl (by show 2 * 0 + _ ≤ _; exact Nat.le_of_eq rfl) (hb hby at_69) (fun _ _ => ⟨rfl, rfl, (by decide : 2 + 0 ≤ _), (by decide : 67 + 0 ≤ _)⟩)
        dsimp only [Pt.U, Pt.locs, Pt.cells, Pt.slots] at X21 l21 y21 z21 st21 hQ21
        subst l21 y21 z21
        obtain ⟨rfl, N21q, s21_, I21q⟩ := hQ21
        have N21 := Fr.app N19 N21q
        refine own_tr st21 ?_
        show OwnGoes p e below _ (T21.setTop (mkF m 72 #[.val (.long q0), .second, .val (.long q2), .second, .val (.long q4), .second, .val (.int p6), .val (.int p7), .val (.int p8), .val (.long A), .second, .val (.long B), .second, .val (.long P), .second, .val (.ref ob), .unset, .unset] [(.int (own_r (own_e A p6) A))]))
        refine own_pre (fun _ kz_ => XS.pop X21.here hx rfl (hb hby at_72) rfl rfl kz_) ?_
        show OwnGoes p e below _ (T21.setTop (mkF m 73 #[.val (.long q0), .second, .val (.long q2), .second, .val (.long q4), .second, .val (.int p6), .val (.int p7), .val (.int p8), .val (.long A), .second, .val (.long B), .second, .val (.long P), .second, .val (.ref ob), .unset, .unset] []))
        exact J73 _ _ X21 N21 _ _ _ _ I21q
  · show OwnGoes p e below _ (T18.setTop (mkF m 49 #[.val (.long q0), .second, .val (.long q2), .second, .val (.long q4), .second, .val (.int p6), .val (.int p7), .val (.int p8), .val (.long A), .second, .val (.long B), .second, .val (.long P), .second, .val (.ref ob), .unset, .unset] []))
    refine own_pre (fun _ kz_ => XS.aload X18.here hx rfl (hb hby at_49) rfl rfl kz_) ?_
    show OwnGoes p e below _ (T18.setTop (mkF m 51 #[.val (.long q0), .second, .val (.long q2), .second, .val (.long q4), .second, .val (.int p6), .val (.int p7), .val (.int p8), .val (.long A), .second, .val (.long B), .second, .val (.long P), .second, .val (.ref ob), .unset, .unset] [(.ref ob)]))
    refine own_pre (fun _ kz_ => XS.lload X18.here hx rfl (hb hby at_51) rfl kz_) ?_
    show OwnGoes p e below _ (T18.setTop (mkF m 53 #[.val (.long q0), .second, .val (.long q2), .second, .val (.long q4), .second, .val (.int p6), .val (.int p7), .val (.int p8), .val (.long A), .second, .val (.long B), .second, .val (.long P), .second, .val (.ref ob), .unset, .unset] [(.long B), (.ref ob)]))
    refine own_pre (fun _ kz_ => XS.iload X18.here hx rfl (hb hby at_53) rfl kz_) ?_
    show OwnGoes p e below _ (T18.setTop (mkF m 55 #[.val (.long q0), .second, .val (.long q2), .second, .val (.long q4), .second, .val (.int p6), .val (.int p7), .val (.int p8), .val (.long A), .second, .val (.long B), .second, .val (.long P), .second, .val (.ref ob), .unset, .unset] [(.int p7), (.long B), (.ref ob)]))
    obtain ⟨cq22, kq22, q22a, q22b, q22c⟩ := isOf hZ rfl J49.exa
    obtain ⟨_, _, ⟨T22, L22, k22, n22⟩, -, X22, ⟨Lc22, hQ22, l22, y22, z22⟩, st22⟩ := X18.virtualBack hx (y := (⟨"com/example/holdfast/holdfast/net/ReferencedClasses", "add", "(JI)V"⟩ : MethodName)) (z := (⟨"com/example/holdfast/holdfast/net/ReferencedClasses", "add", "(JI)V"⟩ : MethodName)) hown (mvT hZ (hw _ (List.mem_of_getElem? (i := 19) rfl))) (mvT hZ (hw _ (List.mem_of_getElem? (i := 20) rfl))) (notFace_of_selects (args := #[]) (mvT hZ (hw _ (List.mem_of_getElem? (i := 22) rfl)))) (mvT hZ (hw _ (List.mem_of_getElem? (i := 22) rfl))) (mvT hZ (hw _ (List.mem_of_getElem? (i := 21) rfl))) (by decide) (backOf (W := 0) (rmAdd0 l Z a0 hw [] ob B p7 (1 : Int32) (0 : Int64) (0 : Int64) T18.heap n0 J49.sz J49) hZ (hw _ (List.mem_of_getElem? (i := 23) rfl)) (hw _ (List.mem_of_getElem? (i := 7) rfl)) (by decide) (by decide)) q22a q22c (g := (mkF m 55 #[.val (.long q0), .second, .val (.long q2), .second, .val (.long q4), .second, .val (.int p6), .val (.int p7), .val (.int p8), .val (.long A), .second, .val (.long B), .second, .val (.long P), .second, .val (.ref ob), .unset, .unset] [(.int p7), (.long B), (.ref ob)])) rfl (by rw [hml]; rfl) (Steps.refl _) (argsL := [(.long B), (.int p7)]) (rest := []) (lenOf (d := "(JI)V") (ps := [.long, .int]) (r := none) (by decide +kernel) rfl) rfl (by show 2 * 0 + _ ≤ _; exact Nat.le_of_eq rfl) (hb hby at_55) (fun _ _ => ⟨rfl, rfl, (by decide : 2 + 0 ≤ _), (by decide : 67 + 0 ≤ _)⟩)
    dsimp only [Pt.U, Pt.locs, Pt.cells, Pt.slots] at X22 l22 y22 z22 st22 hQ22
    subst l22 y22 z22
    obtain ⟨rfl, N22q, D22q⟩ := hQ22
    have N22 := Fr.app N18 N22q
    refine own_tr st22 ?_
    show OwnGoes p e below _ (T22.setTop (mkF m 58 #[.val (.long q0), .second, .val (.long q2), .second, .val (.long q4), .second, .val (.int p6), .val (.int p7), .val (.int p8), .val (.long A), .second, .val (.long B), .second, .val (.long P), .second, .val (.ref ob), .unset, .unset] []))
    rcases D22q with ⟨hin58, J58⟩ | ⟨hin58, J58⟩
    · show OwnGoes p e below _ (T22.setTop (mkF m 58 #[.val (.long q0), .second, .val (.long q2), .second, .val (.long q4), .second, .val (.int p6), .val (.int p7), .val (.int p8), .val (.long A), .second, .val (.long B), .second, .val (.long P), .second, .val (.ref ob), .unset, .unset] []))
      refine own_pre (fun _ kz_ => XS.iload X22.here hx rfl (hb hby at_58) rfl kz_) ?_
      show OwnGoes p e below _ (T22.setTop (mkF m 60 #[.val (.long q0), .second, .val (.long q2), .second, .val (.long q4), .second, .val (.int p6), .val (.int p7), .val (.int p8), .val (.long A), .second, .val (.long B), .second, .val (.long P), .second, .val (.ref ob), .unset, .unset] [(.int p8)]))
      refine own_pre (fun _ kz_ => XS.iconst X22.here hx rfl (hb hby at_60) kz_) ?_
      show OwnGoes p e below _ (T22.setTop (mkF m 61 #[.val (.long q0), .second, .val (.long q2), .second, .val (.long q4), .second, .val (.int p6), .val (.int p7), .val (.int p8), .val (.long A), .second, .val (.long B), .second, .val (.long P), .second, .val (.ref ob), .unset, .unset] [(.int (1 : Int32)), (.int p8)]))
      refine own_pre (fun _ kz_ => XS.iand X22.here hx rfl (hb hby at_61) rfl kz_) ?_
      show OwnGoes p e below _ (T22.setTop (mkF m 62 #[.val (.long q0), .second, .val (.long q2), .second, .val (.long q4), .second, .val (.int p6), .val (.int p7), .val (.int p8), .val (.long A), .second, .val (.long B), .second, .val (.long P), .second, .val (.ref ob), .unset, .unset] [(.int (p8 &&& (1 : Int32)))]))
      by_cases h62 : (p8 &&& (1 : Int32)) = (0 : Int32)
      · refine own_pre (fun _ kz_ => XS.ifYes X22.here hx rfl (pc0 := 62) (pc' := 73) rfl (hb hby at_62) rfl ((if0 _ _).trans (teq h62).1) (by decide) (by decide) kz_) ?_
        show OwnGoes p e below _ (T22.setTop (mkF m 73 #[.val (.long q0), .second, .val (.long q2), .second, .val (.long q4), .second, .val (.int p6), .val (.int p7), .val (.int p8), .val (.long A), .second, .val (.long B), .second, .val (.long P), .second, .val (.ref ob), .unset, .unset] []))
        exact J73 _ _ X22 N22 _ _ _ _ J58
      · refine own_pre (fun _ kz_ => XS.ifNo X22.here hx rfl (hb hby at_62) rfl ((if0 _ _).trans (feq h62).1) kz_) ?_
        show OwnGoes p e below _ (T22.setTop (mkF m 65 #[.val (.long q0), .second, .val (.long q2), .second, .val (.long q4), .second, .val (.int p6), .val (.int p7), .val (.int p8), .val (.long A), .second, .val (.long B), .second, .val (.long P), .second, .val (.ref ob), .unset, .unset] []))
        refine own_pre (fun _ kz_ => XS.aload X22.here hx rfl (hb hby at_65) rfl rfl kz_) ?_
        show OwnGoes p e below _ (T22.setTop (mkF m 67 #[.val (.long q0), .second, .val (.long q2), .second, .val (.long q4), .second, .val (.int p6), .val (.int p7), .val (.int p8), .val (.long A), .second, .val (.long B), .second, .val (.long P), .second, .val (.ref ob), .unset, .unset] [(.ref ob)]))
        refine own_pre (fun _ kz_ => XS.lload X22.here hx rfl (hb hby at_67) rfl kz_) ?_
        show OwnGoes p e below _ (T22.setTop (mkF m 69 #[.val (.long q0), .second, .val (.long q2), .second, .val (.long q4), .second, .val (.int p6), .val (.int p7), .val (.int p8), .val (.long A), .second, .val (.long B), .second, .val (.long P), .second, .val (.ref ob), .unset, .unset] [(.long A), (.ref ob)]))
        obtain ⟨cq23, kq23, q23a, q23b, q23c⟩ := isOf hZ rfl J58.exa
        obtain ⟨_, _, ⟨T23, L23, k23, n23⟩, -, X23, ⟨Lc23, hQ23, l23, y23, z23⟩, st23⟩ := X22.virtualBack hx (y := (⟨"com/example/holdfast/holdfast/net/ReferencedClasses", "classOf", "(J)I"⟩ : MethodName)) (z := (⟨"com/example/holdfast/holdfast/net/ReferencedClasses", "classOf", "(J)I"⟩ : MethodName)) hown (mvT hZ (hw _ (List.mem_of_getElem? (i := 28) rfl))) (mvT hZ (hw _ (List.mem_of_getElem? (i := 29) rfl))) (notFace_of_selects (args := #[]) (mvT hZ (hw _ (List.mem_of_getElem? (i := 31) rfl)))) (mvT hZ (hw _ (List.mem_of_getElem? (i := 31) rfl))) (mvT hZ (hw _ (List.mem_of_getElem? (i := 30) rfl))) (by decide) (backOf (W := 0) (rmCO1 l Z a0 hw [] ob A (0 : Int32) (own_e B p7) (0 : Int64) T22.heap n0 J58.sz J58) hZ (hw _ (List.mem_of_getElem? (i := 32) rfl)) (hw _ (List.mem_of_getElem? (i := 7) rfl)) (by decide) (by decide)) q23a q23c (g := (mkF m 69 #[.val (.long q0), .second, .val (.long q2), .second, .val (.long q4), .second, .val (.int p6), .val (.int p7), .val (.int p8), .val (.long A), .second, .val (.long B), .second, .val (.long P), .second, .val (.ref ob), .unset, .unset] [(.long A), (.ref ob)])) rfl (by rw [hml]; rfl) (Steps.refl _) (argsL := [(.long A)]) (rest := []) (lenOf (d := "(J)I") (ps := [.long]) (r := some .int) (by decide +kernel) rfl) rfl (by show 2 * 0 + _ ≤ _; exact Nat.le_of_eq rfl) (hb hby at_69) (fun _ _ => ⟨rfl, rfl, (by decide : 2 + 0 ≤ _), (by decide : 67 + 0 ≤ _)⟩)
        dsimp only [Pt.U, Pt.locs, Pt.cells, Pt.slots] at X23 l23 y23 z23 st23 hQ23
        subst l23 y23 z23
        obtain ⟨rfl, N23q, s23_, I23q⟩ := hQ23
        have N23 := Fr.app N22 N23q
        refine own_tr st23 ?_
        show OwnGoes p e below _ (T23.setTop (mkF m 72 #[.val (.long q0), .second, .val (.long q2), .second, .val (.long q4), .second, .val (.int p6), .val (.int p7), .val (.int p8), .val (.long A), .second, .val (.long B), .second, .val (.long P), .second, .val (.ref ob), .unset, .unset] [(.int (own_r (own_e B p7) A))]))
        refine own_pre (fun _ kz_ => XS.pop X23.here hx rfl (hb hby at_72) rfl rfl kz_) ?_
        show OwnGoes p e below _ (T23.setTop (mkF m 73 #[.val (.long q0), .second, .val (.long q2), .second, .val (.long q4), .second, .val (.int p6), .val (.int p7), .val (.int p8), .val (.long A), .second, .val (.long B), .second, .val (.long P), .second, .val (.ref ob), .unset, .unset] []))
        exact J73 _ _ X23 N23 _ _ _ _ I23q
    · show OwnGoes p e below _ (T22.setTop (mkF m 58 #[.val (.long q0), .second, .val (.long q2), .second, .val (.long q4), .second, .val (.int p6), .val (.int p7), .val (.int p8), .val (.long A), .second, .val (.long B), .second, .val (.long P), .second, .val (.ref ob), .unset, .unset] []))
      refine own_pre (fun _ kz_ => XS.iload X22.here hx rfl (hb hby at_58) rfl kz_) ?_
      show OwnGoes p e below _ (T22.setTop (mkF m 60 #[.val (.long q0), .second, .val (.long q2), .second, .val (.long q4), .second, .val (.int p6), .val (.int p7), .val (.int p8), .val (.long A), .second, .val (.long B), .second, .val (.long P), .second, .val (.ref ob), .unset, .unset] [(.int p8)]))
      refine own_pre (fun _ kz_ => XS.iconst X22.here hx rfl (hb hby at_60) kz_) ?_
      show OwnGoes p e below _ (T22.setTop (mkF m 61 #[.val (.long q0), .second, .val (.long q2), .second, .val (.long q4), .second, .val (.int p6), .val (.int p7), .val (.int p8), .val (.long A), .second, .val (.long B), .second, .val (.long P), .second, .val (.ref ob), .unset, .unset] [(.int (1 : Int32)), (.int p8)]))
      refine own_pre (fun _ kz_ => XS.iand X22.here hx rfl (hb hby at_61) rfl kz_) ?_
      show OwnGoes p e below _ (T22.setTop (mkF m 62 #[.val (.long q0), .second, .val (.long q2), .second, .val (.long q4), .second, .val (.int p6), .val (.int p7), .val (.int p8), .val (.long A), .second, .val (.long B), .second, .val (.long P), .second, .val (.ref ob), .unset, .unset] [(.int (p8 &&& (1 : Int32)))]))
      by_cases h62 : (p8 &&& (1 : Int32)) = (0 : Int32)
      · refine own_pre (fun _ kz_ => XS.ifYes X22.here hx rfl (pc0 := 62) (pc' := 73) rfl (hb hby at_62) rfl ((if0 _ _).trans (teq h62).1) (by decide) (by decide) kz_) ?_
        show OwnGoes p e below _ (T22.setTop (mkF m 73 #[.val (.long q0), .second, .val (.long q2), .second, .val (.long q4), .second, .val (.int p6), .val (.int p7), .val (.int p8), .val (.long A), .second, .val (.long B), .second, .val (.long P), .second, .val (.ref ob), .unset, .unset] []))
        exact J73 _ _ X22 N22 _ _ _ _ J58
      · refine own_pre (fun _ kz_ => XS.ifNo X22.here hx rfl (hb hby at_62) rfl ((if0 _ _).trans (feq h62).1) kz_) ?_
        show OwnGoes p e below _ (T22.setTop (mkF m 65 #[.val (.long q0), .second, .val (.long q2), .second, .val (.long q4), .second, .val (.int p6), .val (.int p7), .val (.int p8), .val (.long A), .second, .val (.long B), .second, .val (.long P), .second, .val (.ref ob), .unset, .unset] []))
        refine own_pre (fun _ kz_ => XS.aload X22.here hx rfl (hb hby at_65) rfl rfl kz_) ?_
        show OwnGoes p e below _ (T22.setTop (mkF m 67 #[.val (.long q0), .second, .val (.long q2), .second, .val (.long q4), .second, .val (.int p6), .val (.int p7), .val (.int p8), .val (.long A), .second, .val (.long B), .second, .val (.long P), .second, .val (.ref ob), .unset, .unset] [(.ref ob)]))
        refine own_pre (fun _ kz_ => XS.lload X22.here hx rfl (hb hby at_67) rfl kz_) ?_
        show OwnGoes p e below _ (T22.setTop (mkF m 69 #[.val (.long q0), .second, .val (.long q2), .second, .val (.long q4), .second, .val (.int p6), .val (.int p7), .val (.int p8), .val (.long A), .second, .val (.long B), .second, .val (.long P), .second, .val (.ref ob), .unset, .unset] [(.long A), (.ref ob)]))
        obtain ⟨cq24, kq24, q24a, q24b, q24c⟩ := isOf hZ rfl J58.exa
        obtain ⟨_, _, ⟨T24, L24, k24, n24⟩, -, X24, ⟨Lc24, hQ24, l24, y24, z24⟩, st24⟩ := X22.virtualBack hx (y := (⟨"com/example/holdfast/holdfast/net/ReferencedClasses", "classOf", "(J)I"⟩ : MethodName)) (z := (⟨"com/example/holdfast/holdfast/net/ReferencedClasses", "classOf", "(J)I"⟩ : MethodName)) hown (mvT hZ (hw _ (List.mem_of_getElem? (i := 28) rfl))) (mvT hZ (hw _ (List.mem_of_getElem? (i := 29) rfl))) (notFace_of_selects (args := #[]) (mvT hZ (hw _ (List.mem_of_getElem? (i := 31) rfl)))) (mvT hZ (hw _ (List.mem_of_getElem? (i := 31) rfl))) (mvT hZ (hw _ (List.mem_of_getElem? (i := 30) rfl))) (by decide) (backOf (W := 0) (rmCO0 l Z a0 hw [] ob A (0 : Int64) (0 : Int64) T22.heap n0 J58.sz J58) hZ (hw _ (List.mem_of_getElem? (i := 32) rfl)) (hw _ (List.mem_of_getElem? (i := 7) rfl)) (by decide) (by decide)) q24a q24c (g := (mkF m 69 #[.val (.long q0), .second, .val (.long q2), .second, .val (.long q4), .second, .val (.int p6), .val (.int p7), .val (.int p8), .val (.long A), .second, .val (.long B), .second, .val (.long P), .second, .val (.ref ob), .unset, .unset] [(.long A), (.ref ob)])) rfl (by rw [hml]; rfl) (Steps.refl _) (argsL := [(.long A)]) (rest := []) (lenOf (d := "(J)I") (ps := [.long]) (r := some .int) (by decide +kernel) rfl) rfl (by show 2 * 0 + _ ≤ _; exact Nat.le_of_eq rfl) (hb hby at_69) (fun _ _ => ⟨rfl, rfl, (by decide : 2 + 0 ≤ _), (by decide : 67 + 0 ≤ _)⟩)
        dsimp only [Pt.U, Pt.locs, Pt.cells, Pt.slots] at X24 l24 y24 z24 st24 hQ24
        subst l24 y24 z24
        obtain ⟨rfl, N24q, e24⟩ := hQ24
        have N24 := Fr.app N22 N24q
        refine own_tr st24 ?_
        show OwnGoes p e below _ (T24.setTop (mkF m 72 #[.val (.long q0), .second, .val (.long q2), .second, .val (.long q4), .second, .val (.int p6), .val (.int p7), .val (.int p8), .val (.long A), .second, .val (.long B), .second, .val (.long P), .second, .val (.ref ob), .unset, .unset] [(.int (-2147483648 : Int32))]))
        refine own_pre (fun _ kz_ => XS.pop X24.here hx rfl (hb hby at_72) rfl rfl kz_) ?_
        show OwnGoes p e below _ (T24.setTop (mkF m 73 #[.val (.long q0), .second, .val (.long q2), .second, .val (.long q4), .second, .val (.int p6), .val (.int p7), .val (.int p8), .val (.long A), .second, .val (.long B), .second, .val (.long P), .second, .val (.ref ob), .unset, .unset] []))
        exact J73 _ _ X24 N24 _ _ _ _ (by rw [e24]; exact J58)
set_option maxRecDepth 65536 in
set_option maxHeartbeats 40000000 in
theorem comes_1 {Post : Tables → Env → Array Value → State → Outcome → State → Prop} (hpost : ∀ tb e args s v u, (limb_1_1.after args s (.returned v) u = true ∧ limb_1_2.after args s (.returned v) u = true ∧ True) → FrameEnd s (.returned v) u (Jvm.fieldLocs frame_1_writes args s ++ Jvm.arrayLocs frame_1_arrays args s ++ Jvm.staticLocs frame_1_statics s) 16 256 → Post tb e args s (.returned v) u) :
    ArmFor flags0 classFile x code maxLocals ret World_1 tables_1 room_1 Calls_1 rest_1 Pre_1 Post := by
  intro l hfl _ _ p e ha hc hk s m args below hf hA hF happ hP
  obtain ⟨hcalls, hrest, hpre⟩ := hP
  obtain ⟨-, -, -, hnamed, -, -, -, hat⟩ := (Spec.applies_iff hf).mp happ
  obtain ⟨hg, hn⟩ := and_e (Cond.before_iff.mp (show (Jvm.Cond.and given_1 narrow_1).before args s = true from hpre))
  obtain ⟨hcount, hgs⟩ := and_e hg
  obtain ⟨ha0, hgs0⟩ := and_e hgs
  obtain ⟨ha1, hgs1⟩ := and_e hgs0
  obtain ⟨ha2, hgs2⟩ := and_e hgs1
  obtain ⟨ha3, hgs3⟩ := and_e hgs2
  obtain ⟨ha4, hgs4⟩ := and_e hgs3
  have ha5 := hgs4
  obtain ⟨w0, w1, w2, w3, w4, w5, rfl⟩ : ∃ w0 w1 w2 w3 w4 w5 : Value, args = #[w0, w1, w2, w3, w4, w5] := by
    have hs : args.size = 6 := by simpa [Cond.value, given_1] using hcount
    obtain ⟨L⟩ := args
    match L, hs with
    | [w0, w1, w2, w3, w4, w5], _ => exact ⟨w0, w1, w2, w3, w4, w5, rfl⟩
  have hw := fun d (hd : d ∈ tables_1) => atoms_spec (ws := Jvm.Cond.code x code maxLocals ret :: tables_1) hat d (List.mem_cons_of_mem _ hd)
  have hfit : Fit s := fun {y c} hc i hi => by
    obtain ⟨ha, rfl⟩ := Array.getElem?_eq_some_iff.mp hc
    have q := List.all_eq_true.mp ((Array.all_eq_true_iff_forall_mem.mp hF) _ (Array.getElem_mem ha)) i (List.mem_range.mpr hi)
    simpa [Array.getElem?_eq_getElem hi] using q
  obtain ⟨i0, ei0⟩ := isL_v ha0
  obtain rfl : w0 = (.long i0) := Option.some.inj ei0
  obtain ⟨i1, ei1⟩ := isL_v ha1
  obtain rfl : w1 = (.long i1) := Option.some.inj ei1
  obtain ⟨i2, ei2⟩ := isL_v ha2
  obtain rfl : w2 = (.long i2) := Option.some.inj ei2
  obtain ⟨i3, ei3⟩ := is_v ha3
  obtain rfl : w3 = (.int i3) := Option.some.inj ei3
  obtain ⟨i4, ei4⟩ := is_v ha4
  obtain rfl : w4 = (.int i4) := Option.some.inj ei4
  obtain ⟨i5, ei5⟩ := is_v ha5
  obtain rfl : w5 = (.int i5) := Option.some.inj ei5
  obtain ⟨n, o, h1, h2, h3, _, L, rfl, ⟨rfl, N⟩, hq⟩ := rm0 l s _ hw tables_1 i0 i1 i2 i3 i4 i5 s.heap s.heap.size (Nat.le_refl _) p e ha hc hk s m _ below hf ((Spec.applies_iff_loose hf).mp happ).1 ⟨rfl, State.Warmed39.refl s, rfl⟩ trivial
  refine ⟨n, _, h1, h2, h3, hpost _ _ _ _ _ _ ⟨Cond.after_iff.mpr rfl, Cond.after_iff.mpr (eq_i res_at (Term.int_eval (1)) rfl), trivial⟩ ⟨hq.1, hq.2.1, (hq.2.2.sift fun y hy => Or.inr (N y hy)).mono (by decide) (by decide)⟩⟩
theorem main_1_1 : Claimed_1_1 := comes_1 fun _ _ _ _ _ _ h hF => ⟨h.1, hF⟩
theorem main_1_2 : Claimed_1_2 := comes_1 fun _ _ _ _ _ _ h hF => ⟨h.2.1, hF⟩
end Jvm.Pilot.@@N@@
namespace Jvm.Pilot.@@N@@
open Jvm Jvm.ClassFile Sem Op Lib Jvm.Free Jvm.Stand Jvm.Pilot.@@N@@.Jvm.D
/-! MADE BY PROGRAM (witnessworld.py) out of the Statement's table words and the real class files: 13 classes; the members and pool entries that the words name. The judged class is class 1, her method 1. -/
namespace start1
open Jvm.ClassFile
def u (s : String) : CpInfo := .utf8 (stringToUtf16 s)
/-- a pool by its gaps: so many unusable entries, then the entry; so many at the end -/
def gap : Nat → List CpInfo → List CpInfo
  | 0, r => r
  | n + 1, r => .unusable :: gap n r
def poolList (es : List (Nat × CpInfo)) (last : Nat) : List CpInfo := es.foldr (fun e r => gap e.1 (e.2 :: r)) (gap last [])
def pool (es : List (Nat × CpInfo)) (last : Nat) : Array CpInfo := ⟨poolList es last⟩
def fileOf (pool : Array CpInfo) (this : Nat) (attrs : Array Attribute := #[]) (ms : Array MethodInfo := #[]) (fl : Nat := 33) (sup : Nat := 0) (ifs : Array Nat := #[]) (fds : Array FieldInfo := #[]) : ClassFile where
  minorVersion := 0
  majorVersion := 65
  constantPool := pool
  accessFlags := fl
  thisClass := this
  superClass := sup
  interfaces := ifs
  fields := fds
  methods := ms
  attributes := attrs
def plain (name : String) (sup : Option ClassId) : Class where
  name := name
  kind := .ordinary
  loader := none
  accessFlags := 33
  super := sup
  interfaces := #[]
  cf := none
  fields := #[]
  methods := #[]
  instanceTypes := #[]
  staticTypes := #[]
  resolved := #[]
  callSites := []
  init := .initialized
  statics := none
  mirror := none

def pool0 : Array CpInfo := pool [(5, u "<init>"), (0, u "()V"), (1, .class_ 10), (1, u "java/lang/Object")] 113

def k0c0 : Code := { maxStack := 0, maxLocals := 1, code := object_method_1_code, exceptionTable := #[], attributes := #[] }
def k0m0 : Method := { name := "<init>", desc := "()V", sig := { parameters := [], returnType := none }, accessFlags := 1, code := some k0c0 }
/-- java/lang/Object -/
def k0 : Class := { plain "java/lang/Object" none with
  accessFlags := 33
  interfaces := #[]
  cf := some (fileOf pool0 8 #[] #[{ accessFlags := 1, nameIndex := 5, descriptorIndex := 6, attributes := #[] }] 33 0 #[] #[])
  fields := #[]
  methods := #[k0m0]
  instanceTypes := #[]
  staticTypes := #[]
  resolved := Array.replicate 124 none
  statics := none }

def pool1 : Array CpInfo := pool [(2, .class_ 4), (0, .nameAndType 5 6), (0, u "java/lang/Object"), (0, u "<init>"), (0, u "()V"), (0, .methodref 8 9), (0, .class_ 10), (0, .nameAndType 11 12), (0, u "com/example/holdfast/holdfast/net/ReferencedClassesClearPinLaw"), (0, u "shape"), (0, u "(JI)J"), (0, .class_ 14), (0, u "com/example/holdfast/holdfast/net/ReferencedClasses"), (0, .methodref 13 3), (0, .methodref 13 17), (0, .nameAndType 18 19), (0, u "add"), (0, u "(JI)V"), (0, .methodref 13 21), (0, .nameAndType 22 23), (0, u "classOf"), (0, u "(J)I"), (0, .methodref 13 25), (0, .nameAndType 26 6), (0, u "clear"), (0, .integer 2147483648), (0, .methodref 8 29), (0, .nameAndType 30 31), (0, u "expect"), (0, u "(JJI)I"), (0, .long 7), (1, .long 2147483647), (1, .long 4294967295), (1, .methodref 8 39), (0, .nameAndType 40 41), (0, u "inRange"), (0, u "(J)Z"), (2, u "law"), (0, u "(JJJIII)Z")] 3

def k1m0 : Method := { name := "<init>", desc := "()V", sig := { parameters := [], returnType := none }, accessFlags := 1, code := none }
def k1c1 : Code := { maxStack := 6, maxLocals := 18, code := code, exceptionTable := #[], attributes := #[] }
def k1m1 : Method := { name := "law", desc := "(JJJIII)Z", sig := { parameters := [.long, .long, .long, .int, .int, .int], returnType := some .boolean }, accessFlags := 9, code := some k1c1 }
def k1c2 : Code := { maxStack := 4, maxLocals := 4, code := method_3_code, exceptionTable := #[], attributes := #[] }
def k1m2 : Method := { name := "shape", desc := "(JI)J", sig := { parameters := [.long, .int], returnType := some .long }, accessFlags := 10, code := some k1c2 }
def k1c3 : Code := { maxStack := 4, maxLocals := 2, code := method_4_code, exceptionTable := #[], attributes := #[] }
def k1m3 : Method := { name := "inRange", desc := "(J)Z", sig := { parameters := [.long], returnType := some .boolean }, accessFlags := 10, code := some k1c3 }
def k1c4 : Code := { maxStack := 4, maxLocals := 5, code := method_5_code, exceptionTable := #[], attributes := #[] }
def k1m4 : Method := { name := "expect", desc := "(JJI)I", sig := { parameters := [.long, .long, .int], returnType := some .int }, accessFlags := 10, code := some k1c4 }
/-- com/example/holdfast/holdfast/net/ReferencedClassesClearPinLaw -/
def k1 : Class := { plain "com/example/holdfast/holdfast/net/ReferencedClassesClearPinLaw" (some 0) with
  accessFlags := 49
  interfaces := #[]
  cf := some (fileOf pool1 8 #[] #[{ accessFlags := 1, nameIndex := 5, descriptorIndex := 6, attributes := #[] }, { accessFlags := 9, nameIndex := 44, descriptorIndex := 45, attributes := #[] }, { accessFlags := 10, nameIndex := 11, descriptorIndex := 12, attributes := #[] }, { accessFlags := 10, nameIndex := 40, descriptorIndex := 41, attributes := #[] }, { accessFlags := 10, nameIndex := 30, descriptorIndex := 31, attributes := #[] }] 49 2 #[] #[])
  fields := #[]
  methods := #[k1m0, k1m1, k1m2, k1m3, k1m4]
  instanceTypes := #[]
  staticTypes := #[]
  resolved := Array.replicate 49 none
  statics := none }

def pool2 : Array CpInfo := pool [(3, .methodref 4 5), (0, .class_ 6), (0, .nameAndType 7 8), (0, u "java/lang/Object"), (0, u "<init>"), (0, u "()V"), (0, .fieldref 10 11), (0, .class_ 12), (0, .nameAndType 13 14), (0, u "com/example/holdfast/holdfast/net/ReferencedClasses"), (0, u "named"), (0, u "[J"), (0, .fieldref 10 16), (0, .nameAndType 17 18), (0, u "sorted"), (0, u "Z"), (0, .fieldref 10 20), (0, .nameAndType 21 22), (0, u "count"), (0, u "I"), (0, .long 2147483647), (2, .class_ 28), (1, u "java/util/Arrays"), (2, .long 4294967295), (1, .integer 2147483648), (0, .methodref 26 35), (0, .nameAndType 36 37), (0, u "sort"), (0, u "([JII)V"), (0, .methodref 26 39), (0, .nameAndType 40 41), (0, u "binarySearch"), (0, u "([JIIJ)I"), (0, u "NOT_GIVEN"), (1, u "KEPT_ROOM"), (3, u "clear"), (1, u "add"), (0, u "(JI)V"), (0, u "classOf"), (0, u "(J)I")] 2

def k2c0 : Code := { maxStack := 2, maxLocals := 1, code := prog_71_method_1_code, exceptionTable := #[], attributes := #[] }
def k2m0 : Method := { name := "<init>", desc := "()V", sig := { parameters := [], returnType := none }, accessFlags := 0, code := some k2c0 }
def k2c1 : Code := { maxStack := 2, maxLocals := 1, code := prog_71_method_2_code, exceptionTable := #[], attributes := #[] }
def k2m1 : Method := { name := "clear", desc := "()V", sig := { parameters := [], returnType := none }, accessFlags := 0, code := some k2c1 }
def k2c2 : Code := { maxStack := 8, maxLocals := 4, code := prog_71_method_3_code, exceptionTable := #[], attributes := #[] }
def k2m2 : Method := { name := "add", desc := "(JI)V", sig := { parameters := [.long, .int], returnType := none }, accessFlags := 0, code := some k2c2 }
def k2c3 : Code := { maxStack := 6, maxLocals := 5, code := prog_71_method_4_code, exceptionTable := #[], attributes := #[] }
def k2m3 : Method := { name := "classOf", desc := "(J)I", sig := { parameters := [.long], returnType := some .int }, accessFlags := 0, code := some k2c3 }
/-- com/example/holdfast/holdfast/net/ReferencedClasses -/
def k2 : Class := { plain "com/example/holdfast/holdfast/net/ReferencedClasses" (some 0) with
  accessFlags := 48
  interfaces := #[]
  cf := some (fileOf pool2 10 #[] #[{ accessFlags := 0, nameIndex := 7, descriptorIndex := 8, attributes := #[] }, { accessFlags := 0, nameIndex := 48, descriptorIndex := 8, attributes := #[] }, { accessFlags := 0, nameIndex := 50, descriptorIndex := 51, attributes := #[] }, { accessFlags := 0, nameIndex := 52, descriptorIndex := 53, attributes := #[] }] 48 4 #[] #[{ accessFlags := 24, nameIndex := 42, descriptorIndex := 22, attributes := #[] }, { accessFlags := 26, nameIndex := 44, descriptorIndex := 22, attributes := #[] }, { accessFlags := 2, nameIndex := 13, descriptorIndex := 14, attributes := #[] }, { accessFlags := 2, nameIndex := 21, descriptorIndex := 22, attributes := #[] }, { accessFlags := 2, nameIndex := 17, descriptorIndex := 18, attributes := #[] }])
  fields := #[{ name := "NOT_GIVEN", type := .int, accessFlags := 24, slot := 0, constantValue := 0 }, { name := "KEPT_ROOM", type := .int, accessFlags := 26, slot := 1, constantValue := 0 }, { name := "named", type := (.array .long), accessFlags := 2, slot := 0, constantValue := 0 }, { name := "count", type := .int, accessFlags := 2, slot := 1, constantValue := 0 }, { name := "sorted", type := .boolean, accessFlags := 2, slot := 2, constantValue := 0 }]
  methods := #[k2m0, k2m1, k2m2, k2m3]
  instanceTypes := #[(.array .long), .int, .boolean]
  staticTypes := #[.int, .int]
  resolved := Array.replicate 56 none
  statics := none }

def pool3 : Array CpInfo := pool [(2, .class_ 4), (1, u "java/lang/Object"), (0, u "<init>"), (0, u "()V"), (1, .class_ 10), (1, u "java/util/DualPivotQuicksort"), (0, u "sort"), (1, .methodref 14 15), (0, .class_ 16), (0, .nameAndType 17 18), (0, u "java/util/Arrays"), (0, u "rangeCheck"), (0, u "(III)V"), (0, .methodref 8 20), (0, .nameAndType 11 21), (0, u "([JIII)V"), (52, .class_ 76), (1, u "java/util/Arrays$NaturalOrder"), (36, .class_ 115), (1, u "java/util/Arrays$LegacyMergeSort"), (1, u "Z"), (87, .methodref 14 206), (0, .nameAndType 207 208), (0, u "binarySearch0"), (0, u "([JIIJ)I"), (166, .class_ 376), (0, u "java/util/Arrays$ArrayList"), (68, u "$assertionsDisabled"), (269, u "MIN_ARRAY_SORT_GRAN"), (0, u "I"), (2, u "INSERTIONSORT_THRESHOLD"), (12, u "([JII)V"), (61, u "binarySearch"), (180, .class_ 976), (0, u "java/util/Arrays$ArrayItr")] 52

def k3m0 : Method := { name := "<init>", desc := "()V", sig := { parameters := [], returnType := none }, accessFlags := 2, code := none }
def k3c1 : Code := { maxStack := 4, maxLocals := 3, code := jdk_65_method_5_code, exceptionTable := #[], attributes := #[] }
def k3m1 : Method := { name := "sort", desc := "([JII)V", sig := { parameters := [(.array .long), .int, .int], returnType := none }, accessFlags := 9, code := some k3c1 }
def k3c2 : Code := { maxStack := 4, maxLocals := 3, code := jdk_65_method_30_code, exceptionTable := #[], attributes := #[] }
def k3m2 : Method := { name := "rangeCheck", desc := "(III)V", sig := { parameters := [.int, .int, .int], returnType := none }, accessFlags := 8, code := some k3c2 }
def k3c3 : Code := { maxStack := 5, maxLocals := 5, code := jdk_65_method_55_code, exceptionTable := #[], attributes := #[] }
def k3m3 : Method := { name := "binarySearch", desc := "([JIIJ)I", sig := { parameters := [(.array .long), .int, .int, .long], returnType := some .int }, accessFlags := 9, code := some k3c3 }
def k3c4 : Code := { maxStack := 4, maxLocals := 10, code := jdk_65_method_56_code, exceptionTable := #[], attributes := #[] }
def k3m4 : Method := { name := "binarySearch0", desc := "([JIIJ)I", sig := { parameters := [(.array .long), .int, .int, .long], returnType := some .int }, accessFlags := 10, code := some k3c4 }
/-- java/util/Arrays -/
def k3 : Class := { plain "java/util/Arrays" (some 0) with
  accessFlags := 49
  interfaces := #[]
  cf := some (fileOf pool3 14 #[.nestMembers #[975, 375, 113, 74]] #[{ accessFlags := 2, nameIndex := 5, descriptorIndex := 6, attributes := #[] }, { accessFlags := 9, nameIndex := 11, descriptorIndex := 732, attributes := #[] }, { accessFlags := 8, nameIndex := 17, descriptorIndex := 18, attributes := #[] }, { accessFlags := 9, nameIndex := 794, descriptorIndex := 208, attributes := #[] }, { accessFlags := 10, nameIndex := 207, descriptorIndex := 208, attributes := #[] }] 49 2 #[] #[{ accessFlags := 26, nameIndex := 715, descriptorIndex := 716, attributes := #[] }, { accessFlags := 26, nameIndex := 719, descriptorIndex := 716, attributes := #[] }, { accessFlags := 4120, nameIndex := 445, descriptorIndex := 117, attributes := #[] }])
  fields := #[{ name := "MIN_ARRAY_SORT_GRAN", type := .int, accessFlags := 26, slot := 0, constantValue := 0 }, { name := "INSERTIONSORT_THRESHOLD", type := .int, accessFlags := 26, slot := 1, constantValue := 0 }, { name := "$assertionsDisabled", type := .boolean, accessFlags := 4120, slot := 2, constantValue := 0 }]
  methods := #[k3m0, k3m1, k3m2, k3m3, k3m4]
  instanceTypes := #[]
  staticTypes := #[.int, .int, .boolean]
  resolved := Array.replicate 1029 none
  statics := none }

def pool4 : Array CpInfo := pool [(1, .class_ 2), (0, u "java/util/DualPivotQuicksort"), (5, .class_ 10), (1, u "java/lang/Object"), (0, u "<init>"), (0, u "()V"), (4, .class_ 18), (0, u "java/util/DualPivotQuicksort$Sorter"), (9, u "sort"), (7, u "insertionSort"), (31, u "I"), (4, .class_ 74), (0, u "java/util/DualPivotQuicksort$RunMerger"), (10, .class_ 86), (0, u "java/util/DualPivotQuicksort$Merger"), (12, .methodref 1 100), (0, .nameAndType 28 101), (0, u "(Ljava/util/DualPivotQuicksort$Sorter;[JIII)V"), (2, u "([JIII)V"), (0, .methodref 1 106), (0, .nameAndType 36 107), (0, u "([JII)V"), (106, u "MAX_MIXED_INSERTION_SORT_SIZE"), (2, u "MAX_INSERTION_SORT_SIZE"), (1, u "MIN_PARALLEL_SORT_SIZE"), (1, u "MIN_TRY_MERGE_SIZE"), (0, u "MIN_FIRST_RUN_SIZE"), (1, u "MIN_FIRST_RUNS_FACTOR"), (1, u "MAX_RUN_CAPACITY"), (1, u "MIN_RUN_COUNT"), (1, u "MIN_PARALLEL_MERGE_PARTS_SIZE"), (0, u "MIN_BYTE_COUNTING_SORT_SIZE"), (1, u "MIN_SHORT_OR_CHAR_COUNTING_SORT_SIZE"), (1, u "DELTA"), (1, u "MAX_RECURSION_DEPTH"), (1, u "NUM_BYTE_VALUES"), (1, u "MAX_BYTE_INDEX"), (0, u "NUM_CHAR_VALUES"), (0, u "NUM_SHORT_VALUES"), (0, u "MAX_SHORT_INDEX")] 86

def k4m0 : Method := { name := "<init>", desc := "()V", sig := { parameters := [], returnType := none }, accessFlags := 2, code := none }
def k4c1 : Code := { maxStack := 9, maxLocals := 7, code := jdk_2529_method_12_code, exceptionTable := #[], attributes := #[] }
def k4m1 : Method := { name := "sort", desc := "([JIII)V", sig := { parameters := [(.array .long), .int, .int, .int], returnType := none }, accessFlags := 8, code := some k4c1 }
def k4c2 : Code := { maxStack := 6, maxLocals := 25, code := jdk_2529_method_13_code, exceptionTable := #[], attributes := #[] }
def k4m2 : Method := { name := "sort", desc := "(Ljava/util/DualPivotQuicksort$Sorter;[JIII)V", sig := { parameters := [(.object "java/util/DualPivotQuicksort$Sorter"), (.array .long), .int, .int, .int], returnType := none }, accessFlags := 8, code := some k4c2 }
def k4c3 : Code := { maxStack := 5, maxLocals := 7, code := jdk_2529_method_15_code, exceptionTable := #[], attributes := #[] }
def k4m3 : Method := { name := "insertionSort", desc := "([JII)V", sig := { parameters := [(.array .long), .int, .int], returnType := none }, accessFlags := 10, code := some k4c3 }
/-- java/util/DualPivotQuicksort -/
def k4 : Class := { plain "java/util/DualPivotQuicksort" (some 0) with
  accessFlags := 48
  interfaces := #[]
  cf := some (fileOf pool4 1 #[.nestMembers #[73, 85, 17]] #[{ accessFlags := 2, nameIndex := 11, descriptorIndex := 12, attributes := #[] }, { accessFlags := 8, nameIndex := 28, descriptorIndex := 104, attributes := #[] }, { accessFlags := 8, nameIndex := 28, descriptorIndex := 101, attributes := #[] }, { accessFlags := 10, nameIndex := 36, descriptorIndex := 107, attributes := #[] }] 48 8 #[] #[{ accessFlags := 26, nameIndex := 214, descriptorIndex := 68, attributes := #[] }, { accessFlags := 26, nameIndex := 217, descriptorIndex := 68, attributes := #[] }, { accessFlags := 26, nameIndex := 219, descriptorIndex := 68, attributes := #[] }, { accessFlags := 26, nameIndex := 221, descriptorIndex := 68, attributes := #[] }, { accessFlags := 26, nameIndex := 222, descriptorIndex := 68, attributes := #[] }, { accessFlags := 26, nameIndex := 224, descriptorIndex := 68, attributes := #[] }, { accessFlags := 26, nameIndex := 226, descriptorIndex := 68, attributes := #[] }, { accessFlags := 26, nameIndex := 228, descriptorIndex := 68, attributes := #[] }, { accessFlags := 26, nameIndex := 230, descriptorIndex := 68, attributes := #[] }, { accessFlags := 26, nameIndex := 231, descriptorIndex := 68, attributes := #[] }, { accessFlags := 26, nameIndex := 233, descriptorIndex := 68, attributes := #[] }, { accessFlags := 26, nameIndex := 235, descriptorIndex := 68, attributes := #[] }, { accessFlags := 26, nameIndex := 237, descriptorIndex := 68, attributes := #[] }, { accessFlags := 26, nameIndex := 239, descriptorIndex := 68, attributes := #[] }, { accessFlags := 26, nameIndex := 241, descriptorIndex := 68, attributes := #[] }, { accessFlags := 26, nameIndex := 242, descriptorIndex := 68, attributes := #[] }, { accessFlags := 26, nameIndex := 243, descriptorIndex := 68, attributes := #[] }, { accessFlags := 26, nameIndex := 244, descriptorIndex := 68, attributes := #[] }])
  fields := #[{ name := "MAX_MIXED_INSERTION_SORT_SIZE", type := .int, accessFlags := 26, slot := 0, constantValue := 0 }, { name := "MAX_INSERTION_SORT_SIZE", type := .int, accessFlags := 26, slot := 1, constantValue := 0 }, { name := "MIN_PARALLEL_SORT_SIZE", type := .int, accessFlags := 26, slot := 2, constantValue := 0 }, { name := "MIN_TRY_MERGE_SIZE", type := .int, accessFlags := 26, slot := 3, constantValue := 0 }, { name := "MIN_FIRST_RUN_SIZE", type := .int, accessFlags := 26, slot := 4, constantValue := 0 }, { name := "MIN_FIRST_RUNS_FACTOR", type := .int, accessFlags := 26, slot := 5, constantValue := 0 }, { name := "MAX_RUN_CAPACITY", type := .int, accessFlags := 26, slot := 6, constantValue := 0 }, { name := "MIN_RUN_COUNT", type := .int, accessFlags := 26, slot := 7, constantValue := 0 }, { name := "MIN_PARALLEL_MERGE_PARTS_SIZE", type := .int, accessFlags := 26, slot := 8, constantValue := 0 }, { name := "MIN_BYTE_COUNTING_SORT_SIZE", type := .int, accessFlags := 26, slot := 9, constantValue := 0 }, { name := "MIN_SHORT_OR_CHAR_COUNTING_SORT_SIZE", type := .int, accessFlags := 26, slot := 10, constantValue := 0 }, { name := "DELTA", type := .int, accessFlags := 26, slot := 11, constantValue := 0 }, { name := "MAX_RECURSION_DEPTH", type := .int, accessFlags := 26, slot := 12, constantValue := 0 }, { name := "NUM_BYTE_VALUES", type := .int, accessFlags := 26, slot := 13, constantValue := 0 }, { name := "MAX_BYTE_INDEX", type := .int, accessFlags := 26, slot := 14, constantValue := 0 }, { name := "NUM_CHAR_VALUES", type := .int, accessFlags := 26, slot := 15, constantValue := 0 }, { name := "NUM_SHORT_VALUES", type := .int, accessFlags := 26, slot := 16, constantValue := 0 }, { name := "MAX_SHORT_INDEX", type := .int, accessFlags := 26, slot := 17, constantValue := 0 }]
  methods := #[k4m0, k4m1, k4m2, k4m3]
  instanceTypes := #[]
  staticTypes := #[.int, .int, .int, .int, .int, .int, .int, .int, .int, .int, .int, .int, .int, .int, .int, .int, .int, .int]
  resolved := Array.replicate 331 none
  statics := none }

def pool5 : Array CpInfo := pool [(1, u "java/lang/Cloneable"), (0, .class_ 1), (0, u "java/lang/Object"), (0, .class_ 3)] 3

/-- java/lang/Cloneable -/
def k5 : Class := { plain "java/lang/Cloneable" (some 0) with
  accessFlags := 1537
  interfaces := #[]
  cf := some (fileOf pool5 2 #[] #[] 1537 4 #[] #[])
  fields := #[]
  methods := #[]
  instanceTypes := #[]
  staticTypes := #[]
  resolved := Array.replicate 8 none
  statics := none }

def pool6 : Array CpInfo := pool [(1, u "java/io/Serializable"), (0, .class_ 1), (0, u "java/lang/Object"), (0, .class_ 3)] 3

/-- java/io/Serializable -/
def k6 : Class := { plain "java/io/Serializable" (some 0) with
  accessFlags := 1537
  interfaces := #[]
  cf := some (fileOf pool6 2 #[] #[] 1537 4 #[] #[])
  fields := #[]
  methods := #[]
  instanceTypes := #[]
  staticTypes := #[]
  resolved := Array.replicate 8 none
  statics := none }

/-- the primitive byte -/
def k7 : Class := { plain "byte" none with kind := .primitive 'B', accessFlags := 0x411 }
/-- [B -/
def k8 : Class := { plain "[B" (some 0) with kind := .array 7 .byte, interfaces := #[5, 6], accessFlags := 1041 }

/-- the primitive int -/
def k9 : Class := { plain "int" none with kind := .primitive 'I', accessFlags := 0x411 }
/-- [I -/
def k10 : Class := { plain "[I" (some 0) with kind := .array 9 .int, interfaces := #[5, 6], accessFlags := 1041 }

/-- the primitive long -/
def k11 : Class := { plain "long" none with kind := .primitive 'J', accessFlags := 0x411 }
/-- [J -/
def k12 : Class := { plain "[J" (some 0) with kind := .array 11 .long, interfaces := #[5, 6], accessFlags := 1041 }

def heap : Heap := #[]
def classes : Array Class := #[k0, k1, k2, k3, k4, k5, k6, k7, k8, k9, k10, k11, k12]
def interned : List (Array UInt16 × Addr) := []
def slotsUsed : Nat := 0
def theMethod : MethodId := ⟨1, 1⟩
def args0 : Array Value := #[.long 5, .long 6, .long 7, .int 1, .int 2, .int 3]
def aboutOver (below : List Frame) : State where
  vm := { classes := classes, interned := interned.toArray }
  heap := heap
  slotsUsed := slotsUsed
  threads := #[{ frames := .invoking theMethod args0 :: below }]
def below0 : List Frame := [.native { method := ⟨0, 0⟩, args := #[] }]
def about1 : State := aboutOver below0
def p0 : Program := .bare "" "" ""
def e0 : Env := launch0.env 0 0 0
theorem w_frames : about1.frames = Frame.invoking theMethod args0 :: below0 := rfl
set_option maxRecDepth 65536 in
theorem w_args : argsFit about1.vm theMethod args0 = true := by decide +kernel
set_option maxRecDepth 65536 in
theorem w_heap : heapFits about1 = true := by decide +kernel
set_option maxRecDepth 65536 in
theorem w_runnable : about1.curStatus? = some .runnable := by decide +kernel
set_option maxRecDepth 65536 in
theorem w_alone : about1.alone = true := by decide +kernel
set_option maxRecDepth 65536 in
theorem w_named : about1.methodNamed? x = some theMethod := by decide +kernel
set_option maxRecDepth 65536 in
theorem w_hears : about1.hears theMethod below0 = true := by decide +kernel
set_option maxRecDepth 65536 in
theorem w_ripe : about1.ripe theMethod args0 below0 = true := by decide +kernel
theorem w_running : about1.status = .running := rfl
set_option maxRecDepth 65536 in
theorem w_room : about1.hasRoom e0.platform room_1 = true :=
  launch0.hasRoom_least _ room_1 (by decide +kernel) (by decide +kernel) (by decide +kernel) (by decide +kernel) (by decide +kernel) (by decide +kernel)
theorem allAtoms_all (ts : List Jvm.Cond) (a : Array Jvm.Value) (st : Jvm.State) : (allAtoms ts).before a st = ts.all (fun c => c.before a st) := by
  induction ts with
  | nil => rfl
  | cons c t ih =>
    show (Jvm.Cond.and c (allAtoms t)).before a st = _
    rw [Jvm.Cond.before_and, ih, List.all_cons]
def words1 : List Jvm.Cond := Jvm.Cond.code x code maxLocals ret :: tables_1
/-- a 'code' word, met by the world's own term for the bytes: nothing is compared byte by byte -/
theorem code_word {y : MethodName} {bytes : ByteArray} {mx : Nat} {rt : Option FieldType} {a : Array Value} {s : State} {m : MethodId} {meth : Method} {c : Code} (h1 : s.methodNamed? y = some m) (h2 : s.vm.method? m = some meth) (h3 : meth.code = some c) (h4 : c.code = bytes)
    (h5 : (c.maxLocals == mx && c.exceptionTable.isEmpty && decide (c.maxStack ≤ mostOperands) && decide (meth.sig.returnType = rt) && !meth.locks && decide (parseMethodDescriptor y.desc = some meth.sig)) = true) : (Jvm.Cond.code y bytes mx rt).before a s = true := by
  simp only [Bool.and_eq_true, beq_iff_eq, Bool.not_eq_true', decide_eq_true_eq] at h5
  obtain ⟨⟨⟨⟨⟨g1, g2⟩, g3⟩, g4⟩, g5⟩, g6⟩ := h5
  simp [Cond.before, Cond.holds, Cond.value, h1, h2, h3, h4, g1, g2, g3, g4, g5, g6]
def isCode : Jvm.Cond → Bool
  | .code _ _ _ _ => true
  | _ => false
theorem all_split {L : List Jvm.Cond} {P : Jvm.Cond → Bool} (h1 : L.all (fun c => isCode c || P c) = true) (h2 : ∀ c ∈ L.filter isCode, P c = true) : L.all P = true := by
  refine List.all_eq_true.mpr fun c hc => ?_
  have h := List.all_eq_true.mp h1 c hc
  rcases Bool.eq_false_or_eq_true (isCode c) with hi | hi
  · exact h2 c (List.mem_filter.mpr ⟨hc, hi⟩)
  · simpa [hi] using h
set_option maxRecDepth 65536 in
theorem w_c0 : (Jvm.Cond.code x code maxLocals ret).before args0 about1 = true := code_word (m := ⟨1, 1⟩) (meth := k1m1) (c := k1c1) (by decide +kernel) rfl rfl rfl (by decide +kernel)
set_option maxRecDepth 65536 in
theorem w_c1 : (Jvm.Cond.code ({ cls := "com/example/holdfast/holdfast/net/ReferencedClassesClearPinLaw", name := "shape", desc := "(JI)J" } : Jvm.MethodName) method_3_code (4 : Nat) (Option.some Jvm.ClassFile.FieldType.long)).before args0 about1 = true := code_word (m := ⟨1, 2⟩) (meth := k1m2) (c := k1c2) (by decide +kernel) rfl rfl rfl (by decide +kernel)
set_option maxRecDepth 65536 in
theorem w_c2 : (Jvm.Cond.code ({ cls := "com/example/holdfast/holdfast/net/ReferencedClasses", name := "<init>", desc := "()V" } : Jvm.MethodName) prog_71_method_1_code (1 : Nat) (Option.none : Option Jvm.ClassFile.FieldType)).before args0 about1 = true := code_word (m := ⟨2, 0⟩) (meth := k2m0) (c := k2c0) (by decide +kernel) rfl rfl rfl (by decide +kernel)
set_option maxRecDepth 65536 in
theorem w_c3 : (Jvm.Cond.code ({ cls := "java/lang/Object", name := "<init>", desc := "()V" } : Jvm.MethodName) object_method_1_code (1 : Nat) (Option.none : Option Jvm.ClassFile.FieldType)).before args0 about1 = true := code_word (m := ⟨0, 0⟩) (meth := k0m0) (c := k0c0) (by decide +kernel) rfl rfl rfl (by decide +kernel)
set_option maxRecDepth 65536 in
theorem w_c4 : (Jvm.Cond.code ({ cls := "com/example/holdfast/holdfast/net/ReferencedClasses", name := "add", desc := "(JI)V" } : Jvm.MethodName) prog_71_method_3_code (4 : Nat) (Option.none : Option Jvm.ClassFile.FieldType)).before args0 about1 = true := code_word (m := ⟨2, 2⟩) (meth := k2m2) (c := k2c2) (by decide +kernel) rfl rfl rfl (by decide +kernel)
set_option maxRecDepth 65536 in
theorem w_c5 : (Jvm.Cond.code ({ cls := "com/example/holdfast/holdfast/net/ReferencedClasses", name := "classOf", desc := "(J)I" } : Jvm.MethodName) prog_71_method_4_code (5 : Nat) (Option.some Jvm.ClassFile.FieldType.int)).before args0 about1 = true := code_word (m := ⟨2, 3⟩) (meth := k2m3) (c := k2c3) (by decide +kernel) rfl rfl rfl (by decide +kernel)
set_option maxRecDepth 65536 in
theorem w_c6 : (Jvm.Cond.code ({ cls := "java/util/Arrays", name := "sort", desc := "([JII)V" } : Jvm.MethodName) jdk_65_method_5_code (3 : Nat) (Option.none : Option Jvm.ClassFile.FieldType)).before args0 about1 = true := code_word (m := ⟨3, 1⟩) (meth := k3m1) (c := k3c1) (by decide +kernel) rfl rfl rfl (by decide +kernel)
set_option maxRecDepth 65536 in
theorem w_c7 : (Jvm.Cond.code ({ cls := "java/util/Arrays", name := "rangeCheck", desc := "(III)V" } : Jvm.MethodName) jdk_65_method_30_code (3 : Nat) (Option.none : Option Jvm.ClassFile.FieldType)).before args0 about1 = true := code_word (m := ⟨3, 2⟩) (meth := k3m2) (c := k3c2) (by decide +kernel) rfl rfl rfl (by decide +kernel)
set_option maxRecDepth 65536 in
theorem w_c8 : (Jvm.Cond.code ({ cls := "java/util/DualPivotQuicksort", name := "sort", desc := "([JIII)V" } : Jvm.MethodName) jdk_2529_method_12_code (7 : Nat) (Option.none : Option Jvm.ClassFile.FieldType)).before args0 about1 = true := code_word (m := ⟨4, 1⟩) (meth := k4m1) (c := k4c1) (by decide +kernel) rfl rfl rfl (by decide +kernel)
set_option maxRecDepth 65536 in
theorem w_c9 : (Jvm.Cond.code ({ cls := "java/util/DualPivotQuicksort", name := "sort", desc := "(Ljava/util/DualPivotQuicksort$Sorter;[JIII)V" } : Jvm.MethodName) jdk_2529_method_13_code (25 : Nat) (Option.none : Option Jvm.ClassFile.FieldType)).before args0 about1 = true := code_word (m := ⟨4, 2⟩) (meth := k4m2) (c := k4c2) (by decide +kernel) rfl rfl rfl (by decide +kernel)
set_option maxRecDepth 65536 in
theorem w_c10 : (Jvm.Cond.code ({ cls := "java/util/DualPivotQuicksort", name := "insertionSort", desc := "([JII)V" } : Jvm.MethodName) jdk_2529_method_15_code (7 : Nat) (Option.none : Option Jvm.ClassFile.FieldType)).before args0 about1 = true := code_word (m := ⟨4, 3⟩) (meth := k4m3) (c := k4c3) (by decide +kernel) rfl rfl rfl (by decide +kernel)
set_option maxRecDepth 65536 in
theorem w_c11 : (Jvm.Cond.code ({ cls := "java/util/Arrays", name := "binarySearch", desc := "([JIIJ)I" } : Jvm.MethodName) jdk_65_method_55_code (5 : Nat) (Option.some Jvm.ClassFile.FieldType.int)).before args0 about1 = true := code_word (m := ⟨3, 3⟩) (meth := k3m3) (c := k3c3) (by decide +kernel) rfl rfl rfl (by decide +kernel)
set_option maxRecDepth 65536 in
theorem w_c12 : (Jvm.Cond.code ({ cls := "java/util/Arrays", name := "binarySearch0", desc := "([JIIJ)I" } : Jvm.MethodName) jdk_65_method_56_code (10 : Nat) (Option.some Jvm.ClassFile.FieldType.int)).before args0 about1 = true := code_word (m := ⟨3, 4⟩) (meth := k3m4) (c := k3c4) (by decide +kernel) rfl rfl rfl (by decide +kernel)
set_option maxRecDepth 65536 in
theorem w_c13 : (Jvm.Cond.code ({ cls := "com/example/holdfast/holdfast/net/ReferencedClasses", name := "clear", desc := "()V" } : Jvm.MethodName) prog_71_method_2_code (1 : Nat) (Option.none : Option Jvm.ClassFile.FieldType)).before args0 about1 = true := code_word (m := ⟨2, 1⟩) (meth := k2m1) (c := k2c1) (by decide +kernel) rfl rfl rfl (by decide +kernel)
set_option maxRecDepth 65536 in
theorem w_c14 : (Jvm.Cond.code ({ cls := "com/example/holdfast/holdfast/net/ReferencedClassesClearPinLaw", name := "expect", desc := "(JJI)I" } : Jvm.MethodName) method_5_code (5 : Nat) (Option.some Jvm.ClassFile.FieldType.int)).before args0 about1 = true := code_word (m := ⟨1, 4⟩) (meth := k1m4) (c := k1c4) (by decide +kernel) rfl rfl rfl (by decide +kernel)
set_option maxRecDepth 65536 in
theorem w_c15 : (Jvm.Cond.code ({ cls := "com/example/holdfast/holdfast/net/ReferencedClassesClearPinLaw", name := "inRange", desc := "(J)Z" } : Jvm.MethodName) method_4_code (2 : Nat) (Option.some Jvm.ClassFile.FieldType.boolean)).before args0 about1 = true := code_word (m := ⟨1, 3⟩) (meth := k1m3) (c := k1c3) (by decide +kernel) rfl rfl rfl (by decide +kernel)
def codes1 : List Jvm.Cond := [Jvm.Cond.code x code maxLocals ret, Jvm.Cond.code ({ cls := "com/example/holdfast/holdfast/net/ReferencedClassesClearPinLaw", name := "shape", desc := "(JI)J" } : Jvm.MethodName) method_3_code (4 : Nat) (Option.some Jvm.ClassFile.FieldType.long), Jvm.Cond.code ({ cls := "com/example/holdfast/holdfast/net/ReferencedClasses", name := "<init>", desc := "()V" } : Jvm.MethodName) prog_71_method_1_code (1 : Nat) (Option.none : Option Jvm.ClassFile.FieldType), Jvm.Cond.code ({ cls := "java/lang/Object", name := "<init>", desc := "()V" } : Jvm.MethodName) object_method_1_code (1 : Nat) (Option.none : Option Jvm.ClassFile.FieldType), Jvm.Cond.code ({ cls := "com/example/holdfast/holdfast/net/ReferencedClasses", name := "add", desc := "(JI)V" } : Jvm.MethodName) prog_71_method_3_code (4 : Nat) (Option.none : Option Jvm.ClassFile.FieldType), Jvm.Cond.code ({ cls := "com/example/holdfast/holdfast/net/ReferencedClasses", name := "classOf", desc := "(J)I" } : Jvm.MethodName) prog_71_method_4_code (5 : Nat) (Option.some Jvm.ClassFile.FieldType.int), Jvm.Cond.code ({ cls := "java/util/Arrays", name := "sort", desc := "([JII)V" } : Jvm.MethodName) jdk_65_method_5_code (3 : Nat) (Option.none : Option Jvm.ClassFile.FieldType), Jvm.Cond.code ({ cls := "java/util/Arrays", name := "rangeCheck", desc := "(III)V" } : Jvm.MethodName) jdk_65_method_30_code (3 : Nat) (Option.none : Option Jvm.ClassFile.FieldType), Jvm.Cond.code ({ cls := "java/util/DualPivotQuicksort", name := "sort", desc := "([JIII)V" } : Jvm.MethodName) jdk_2529_method_12_code (7 : Nat) (Option.none : Option Jvm.ClassFile.FieldType), Jvm.Cond.code ({ cls := "java/util/DualPivotQuicksort", name := "sort", desc := "(Ljava/util/DualPivotQuicksort$Sorter;[JIII)V" } : Jvm.MethodName) jdk_2529_method_13_code (25 : Nat) (Option.none : Option Jvm.ClassFile.FieldType), Jvm.Cond.code ({ cls := "java/util/DualPivotQuicksort", name := "insertionSort", desc := "([JII)V" } : Jvm.MethodName) jdk_2529_method_15_code (7 : Nat) (Option.none : Option Jvm.ClassFile.FieldType), Jvm.Cond.code ({ cls := "java/util/Arrays", name := "binarySearch", desc := "([JIIJ)I" } : Jvm.MethodName) jdk_65_method_55_code (5 : Nat) (Option.some Jvm.ClassFile.FieldType.int), Jvm.Cond.code ({ cls := "java/util/Arrays", name := "binarySearch0", desc := "([JIIJ)I" } : Jvm.MethodName) jdk_65_method_56_code (10 : Nat) (Option.some Jvm.ClassFile.FieldType.int), Jvm.Cond.code ({ cls := "com/example/holdfast/holdfast/net/ReferencedClasses", name := "clear", desc := "()V" } : Jvm.MethodName) prog_71_method_2_code (1 : Nat) (Option.none : Option Jvm.ClassFile.FieldType), Jvm.Cond.code ({ cls := "com/example/holdfast/holdfast/net/ReferencedClassesClearPinLaw", name := "expect", desc := "(JJI)I" } : Jvm.MethodName) method_5_code (5 : Nat) (Option.some Jvm.ClassFile.FieldType.int), Jvm.Cond.code ({ cls := "com/example/holdfast/holdfast/net/ReferencedClassesClearPinLaw", name := "inRange", desc := "(J)Z" } : Jvm.MethodName) method_4_code (2 : Nat) (Option.some Jvm.ClassFile.FieldType.boolean)]
set_option maxRecDepth 65536 in
theorem codes_eq : words1.filter isCode = codes1 := rfl
theorem w_codes : ∀ c ∈ words1.filter isCode, c.before args0 about1 = true := by
  rw [codes_eq]
  intro c hc
  simp only [codes1, List.mem_cons, List.not_mem_nil, or_false] at hc
  rcases hc with rfl | rfl | rfl | rfl | rfl | rfl | rfl | rfl | rfl | rfl | rfl | rfl | rfl | rfl | rfl | rfl
  · exact w_c0
  · exact w_c1
  · exact w_c2
  · exact w_c3
  · exact w_c4
  · exact w_c5
  · exact w_c6
  · exact w_c7
  · exact w_c8
  · exact w_c9
  · exact w_c10
  · exact w_c11
  · exact w_c12
  · exact w_c13
  · exact w_c14
  · exact w_c15
set_option maxRecDepth 65536 in
theorem w_t1 : (words1.take 24).all (fun c => isCode c || c.before args0 about1) = true := by decide +kernel
set_option maxRecDepth 65536 in
theorem w_t2 : ((words1.drop 24).take 24).all (fun c => isCode c || c.before args0 about1) = true := by decide +kernel
set_option maxRecDepth 65536 in
theorem w_t3 : ((words1.drop 24).drop 24).all (fun c => isCode c || c.before args0 about1) = true := by decide +kernel
theorem w_tables : (allAtoms (Jvm.Cond.code x code maxLocals ret :: tables_1)).before args0 about1 = true := by
  rw [allAtoms_all]
  show words1.all (fun c => c.before args0 about1) = true
  refine all_split ?_ w_codes
  rw [← List.take_append_drop 24 words1, List.all_append, w_t1, ← List.take_append_drop 24 (words1.drop 24), List.all_append, w_t2, w_t3]
  rfl
set_option maxRecDepth 65536 in
theorem w_case : (Jvm.Cond.and given_1 narrow_1).before args0 about1 = true := by decide +kernel
theorem w_applies : (headSpec (Jvm.Cond.code x code maxLocals ret :: tables_1) room_1).applies x e0.platform about1 = true :=
  (Spec.applies_iff w_frames).mpr ⟨w_running, w_runnable, w_alone, w_named, w_hears, w_ripe, w_room, w_tables⟩
theorem atStart : AtStart classFile x code maxLocals ret World_1 tables_1 room_1 Calls_1 rest_1 Pre_1 launch0 p0 e0 about1 theMethod args0 below0 :=
  ⟨lists_1, trivial, launch0.admits_env _ _ _, launch0.least_env, fairChoices_fair.cas, fairChoices_fair.clock, w_frames, w_args, w_heap, w_applies, trivial, trivial, w_case⟩
end start1
theorem witness_1 : WitnessClaimed_1 := ⟨start1.p0, start1.e0, start1.about1, start1.theMethod, start1.args0, start1.below0, start1.atStart⟩
end Jvm.Pilot.@@N@@

import JvmDerived
import JvmDerived.Pilot.@@N@@Statement
import JvmDerived.Pilot.@@N@@Code
set_option linter.unusedVariables false
set_option linter.unusedSimpArgs false
namespace Jvm.Pilot.@@N@@
open Jvm Jvm.ClassFile Sem Op Lib Jvm.Free Jvm.Stand Jvm.LawKit Jvm.RoadKit Bundle Jvm.Pilot.@@N@@.Jvm.D
/-! ### own: what is left of a body's walk, as one word; each step goes back over it -/
def OGo (p : Program) (e : Env) (below : List Frame) (s : State) (Q : Option Value → Heap → List Loc → Prop) (C S : Nat) (T : State) (g : JFrame) : Prop :=
  ∃ s₂ o, Steps p.tables e below (T.setTop g) s₂ ∧ s₂.status = .running ∧ Ended s₂ below o ∧ ∃ v L, o = .returned v ∧ Q v s₂.heap L ∧ FrameEnd s o s₂ L C S
section Own
variable {p : Program} {l : Launch} {e : Env} {R : Room} {s s₁ : State} {m : MethodId} {args : Array Value} {below : List Frame} {meth : Method} {c : Code} {T T' : State} {locs : List Loc} {cells slots : Nat} {g g' : JFrame} {Q : Option Value → Heap → List Loc → Prop} {C S : Nat} {Z : State} {a0 : Array Value} {h h' : Heap}
theorem OGo.st (k : ∀ t, Steps p.tables e below (T'.setTop g') t → Steps p.tables e below (T.setTop g) t) (q : OGo p e below s Q C S T' g') : OGo p e below s Q C S T g := by
  obtain ⟨s₂, o, h1, h2⟩ := q
  exact ⟨s₂, o, k _ h1, h2⟩
theorem OGo.en {ml : Nat} (q : entryFrame m args ml = g) (k : OGo p e below s Q C S s₁ g) : ∃ s₂ o, Steps p.tables e below (s₁.setTop (entryFrame m args ml)) s₂ ∧ s₂.status = .running ∧ Ended s₂ below o ∧ ∃ v L, o = .returned v ∧ Q v s₂.heap L ∧ FrameEnd s o s₂ L C S := by
  rw [q]; exact k
theorem OGo.ret (X : Stand p l e R s m args below meth c T locs cells slots) (hx : p.tables.exec = Jvm.exec) (hlk : meth.locks = false) {pc : Nat} {Ls : Array Slot} {w : Value} {t : FieldType} {i : Instr} {rest : List Value} (hret : meth.sig.returnType = some t) (hn : narrow t w = w)
    (hi : (i = .ireturn ∧ (t = .int ∨ t = .boolean ∨ t = .byte ∨ t = .char ∨ t = .short) ∧ ∃ z, w = .int z) ∨ (i = .lreturn ∧ t = .long ∧ ∃ z, w = .long z) ∨ (i = .dreturn ∧ t = .double ∧ ∃ z, w = .double z) ∨ (i = .freturn ∧ t = .float ∧ ∃ z, w = .float z) ∨ (i = .areturn ∧ t.isReference = true ∧ w.isRef = true))
    (hd : decode c.code pc = .ok (i, 1)) (hC : cells ≤ C) (hS : slots ≤ S) (hh : T.heap = h) (hQ : Q (some w) h locs) : OGo p e below s Q C S T (mkF m pc Ls (w :: rest)) := by
  obtain ⟨fs, hr, hrun, hended, hW, hsame⟩ := X.leave (v := some w) (fun q => by rw [hret] at q; cases q) hlk
  subst hh
  exact ⟨_, _, retOut X hx hret hn hi hd hr, hrun, hended, _, _, rfl, hQ, ⟨_, rfl⟩, hW, hsame.mono hC hS⟩
theorem OGo.retV (X : Stand p l e R s m args below meth c T locs cells slots) (hx : p.tables.exec = Jvm.exec) (hlk : meth.locks = false) {pc : Nat} {Ls : Array Slot} (hret : meth.sig.returnType = none)
    (hd : decode c.code pc = .ok (.return_, 1)) (hC : cells ≤ C) (hS : slots ≤ S) (hh : T.heap = h) (hQ : Q none h locs) : OGo p e below s Q C S T (mkF m pc Ls []) := by
  obtain ⟨fs, hr, hrun, hended, hW, hsame⟩ := X.leave (v := none) (fun _ => rfl) hlk
  subst hh
  exact ⟨_, _, X.returnOut hx hret hd hr, hrun, hended, _, _, rfl, hQ, ⟨_, rfl⟩, hW, hsame.mono hC hS⟩
theorem own_rI {t : FieldType} {z : Int32} (ht : t = .int ∨ t = .boolean ∨ t = .byte ∨ t = .char ∨ t = .short) : ((Instr.ireturn = .ireturn ∧ (t = .int ∨ t = .boolean ∨ t = .byte ∨ t = .char ∨ t = .short) ∧ ∃ z', Value.int z = .int z') ∨ (Instr.ireturn = .lreturn ∧ t = .long ∧ ∃ z', Value.int z = .long z') ∨ (Instr.ireturn = .dreturn ∧ t = .double ∧ ∃ z', Value.int z = .double z') ∨ (Instr.ireturn = .freturn ∧ t = .float ∧ ∃ z', Value.int z = .float z') ∨ (Instr.ireturn = .areturn ∧ t.isReference = true ∧ (Value.int z).isRef = true)) := Or.inl ⟨rfl, ht, z, rfl⟩
theorem own_rJ {z : Int64} : ((Instr.lreturn = .ireturn ∧ (FieldType.long = .int ∨ FieldType.long = .boolean ∨ FieldType.long = .byte ∨ FieldType.long = .char ∨ FieldType.long = .short) ∧ ∃ z', Value.long z = .int z') ∨ (Instr.lreturn = .lreturn ∧ FieldType.long = .long ∧ ∃ z', Value.long z = .long z') ∨ (Instr.lreturn = .dreturn ∧ FieldType.long = .double ∧ ∃ z', Value.long z = .double z') ∨ (Instr.lreturn = .freturn ∧ FieldType.long = .float ∧ ∃ z', Value.long z = .float z') ∨ (Instr.lreturn = .areturn ∧ FieldType.long.isReference = true ∧ (Value.long z).isRef = true)) := Or.inr (Or.inl ⟨rfl, rfl, z, rfl⟩)
theorem own_rR {t : FieldType} {w : Value} (ht : t.isReference = true) (hw : w.isRef = true) : ((Instr.areturn = .ireturn ∧ (t = .int ∨ t = .boolean ∨ t = .byte ∨ t = .char ∨ t = .short) ∧ ∃ z', w = .int z') ∨ (Instr.areturn = .lreturn ∧ t = .long ∧ ∃ z', w = .long z') ∨ (Instr.areturn = .dreturn ∧ t = .double ∧ ∃ z', w = .double z') ∨ (Instr.areturn = .freturn ∧ t = .float ∧ ∃ z', w = .float z') ∨ (Instr.areturn = .areturn ∧ t.isReference = true ∧ w.isRef = true)) := Or.inr (Or.inr (Or.inr (Or.inr ⟨rfl, ht, hw⟩)))
/-! own: an array by its length and a function of the places -/
def own_ix (j : Int32) (i : Nat) : Prop := ¬ j < 0 ∧ j.toNatClampNeg = i
theorem own_ix_of {i : Nat} (hi : i < 2 ^ 31) : own_ix (Int32.ofNat i) i := by
  have q : (Int32.ofNat i).toInt = i := Int32.toInt_ofNat_of_lt hi
  refine ⟨fun w => ?_, ?_⟩
  · rw [Int32.lt_iff_toInt_lt, q, show (0 : Int32).toInt = 0 from rfl] at w; omega
  · rw [Int32.toNatClampNeg, q]; rfl
theorem own_len32 {n : Nat} : n.toInt32 = Int32.ofNat n := rfl
def own_upd {α : Type} (f : Nat → α) (i : Nat) (v : α) (j : Nat) : α := if j = i then v else f j
def own_L {α : Type} (d : α) (l : List α) (j : Nat) : α := l.getD j d
theorem own_L_set {α : Type} (d : α) (l : List α) (i : Nat) (v : α) (hi : i < l.length) (j : Nat) : own_upd (own_L d l) i v j = own_L d (l.set i v) j := by
  unfold own_upd own_L
  by_cases q : j = i
  · subst q; simp [List.getD_eq_getElem?_getD, hi]
  · simp [List.getD_eq_getElem?_getD, q, List.getElem?_set, Ne.symm q]
theorem own_L_rep {α : Type} (d : α) (n : Nat) (j : Nat) : d = own_L d (List.replicate n d) j := by
  unfold own_L
  rw [List.getD_eq_getElem?_getD, List.getElem?_replicate]
  split <;> rfl
theorem own_updI (f : Nat → Int32) (i : Nat) (x : Int32) (j : Nat) : own_upd (fun j => Value.int (f j)) i (.int x) j = Value.int (own_upd f i x j) := by unfold own_upd; split <;> rfl
theorem own_updJ (f : Nat → Int64) (i : Nat) (x : Int64) (j : Nat) : own_upd (fun j => Value.long (f j)) i (.long x) j = Value.long (own_upd f i x j) := by unfold own_upd; split <;> rfl
def OArr (Z : State) (h : Heap) (a : Addr) (ty : FieldType) (n : Nat) (f : Nat → Value) : Prop := ∃ cl : Cell, Arr Z h a cl ty ∧ cl.slots.size = n ∧ n < 2 ^ 31 ∧ ∀ j, j < n → cl.slots[j]? = some (f j)
variable {a b : Addr} {ty : FieldType} {n : Nat} {f f' : Nat → Value} {sl : Nat} {v : Value} {ws : List Addr}
theorem OArr.lt (F : OArr Z h a ty n f) : a < h.size := by obtain ⟨cl, A, -⟩ := F; exact A.lt
theorem OArr.ext (F : OArr Z h a ty n f) (E : Ext h h') : OArr Z h' a ty n f := by obtain ⟨cl, A, r⟩ := F; exact ⟨cl, A.ext E, r⟩
theorem OArr.other (F : OArr Z h a ty n f) (W : Wr h h' b sl v) (q : a ≠ b) : OArr Z h' a ty n f := by obtain ⟨cl, A, r⟩ := F; exact ⟨cl, A.other W q, r⟩
theorem OArr.keep (F : OArr Z h a ty n f) (K : Keep h h' ws) (q : a ∉ ws) : OArr Z h' a ty n f := by obtain ⟨cl, A, r⟩ := F; exact ⟨cl, ⟨K.2.1 a cl A.1 q, A.2⟩, r⟩
theorem OArr.cast (F : OArr Z h a ty n f) (q : ∀ j, j < n → f j = f' j) : OArr Z h a ty n f' := by obtain ⟨cl, A, r1, r2, r3⟩ := F; exact ⟨cl, A, r1, r2, fun j hj => by rw [r3 j hj, q j hj]⟩
theorem own_in {cl : Cell} {j : Int32} {i : Nat} (hs : cl.slots.size = n) (hj : own_ix j i) (hi : i < n) : ¬ (j < 0 ∨ cl.slots.size ≤ j.toNatClampNeg) := by
  rw [hs, hj.2]; exact fun q => q.elim hj.1 (fun q => absurd hi (Nat.not_lt.mpr q))
theorem OArr.wr (F : OArr Z h a ty n f) {j : Int32} {i : Nat} (hj : own_ix j i) (W : Wr h h' a j.toNatClampNeg v) : OArr Z h' a ty n (own_upd f i v) := by
  obtain ⟨cl, A, r1, r2, r3⟩ := F
  refine ⟨_, A.same W, by rw [sz_set, r1], r2, fun k hk => ?_⟩
  show (cl.slots.setIfInBounds _ v)[k]? = _
  rw [hj.2]
  unfold own_upd
  by_cases q : k = i
  · subst q; rw [if_pos rfl, Array.getElem?_setIfInBounds_self_of_lt (by omega)]
  · rw [if_neg q, Array.getElem?_setIfInBounds_ne (Ne.symm q)]; exact r3 k hk
theorem own_len (X : Stand p l e R s m args below meth c T locs cells slots) (hx : p.tables.exec = Jvm.exec) (hZ : Z.Warmed39 s.vm) (eT : T.heap = h) (F : OArr Z h a ty n f) (hg : g.method = m) {rest : List Value} (hs : g.stack = .ref a :: rest) (hd : decode c.code g.pc = .ok (.arraylength, 1)) :
    ∀ t, Steps p.tables e below (T.setTop { g with pc := g.pc + 1, stack := .int (Int32.ofNat n) :: rest }) t → Steps p.tables e below (T.setTop g) t := by
  obtain ⟨cl, A, r1, r2, r3⟩ := F
  subst r1
  exact X.arraylength hx (by rw [eT]; exact A.1) (State.isArrayOf_alike hZ.alike A.2.1) hg hs hd
theorem own_ldI (X : Stand p l e R s m args below meth c T locs cells slots) (hx : p.tables.exec = Jvm.exec) (hZ : Z.Warmed39 s.vm) (eT : T.heap = h) (F : OArr Z h a .int n f) {j : Int32} {i : Nat} (hj : own_ix j i) (hi : i < n) (hg : g.method = m) {rest : List Value} (hs : g.stack = .int j :: .ref a :: rest) (hd : decode c.code g.pc = .ok (.iaload, 1)) :
    ∀ t, Steps p.tables e below (T.setTop { g with pc := g.pc + 1, stack := f i :: rest }) t → Steps p.tables e below (T.setTop g) t := by
  obtain ⟨cl, A, r1, r2, r3⟩ := F
  exact X.iaload hx (by rw [eT]; exact A.1) (State.isArrayOf_alike hZ.alike A.2.1) A.2.2 (own_in r1 hj hi) (by rw [hj.2]; exact r3 i hi) hg hs hd
theorem own_ldJ (X : Stand p l e R s m args below meth c T locs cells slots) (hx : p.tables.exec = Jvm.exec) (hZ : Z.Warmed39 s.vm) (eT : T.heap = h) (F : OArr Z h a .long n f) {j : Int32} {i : Nat} (hj : own_ix j i) (hi : i < n) (hg : g.method = m) {rest : List Value} (hs : g.stack = .int j :: .ref a :: rest) (hd : decode c.code g.pc = .ok (.laload, 1)) :
    ∀ t, Steps p.tables e below (T.setTop { g with pc := g.pc + 1, stack := f i :: rest }) t → Steps p.tables e below (T.setTop g) t := by
  obtain ⟨cl, A, r1, r2, r3⟩ := F
  exact X.laload hx (by rw [eT]; exact A.1) (State.isArrayOf_alike hZ.alike A.2.1) A.2.2 (own_in r1 hj hi) (by rw [hj.2]; exact r3 i hi) hg hs hd
theorem own_ldB (X : Stand p l e R s m args below meth c T locs cells slots) (hx : p.tables.exec = Jvm.exec) (hZ : Z.Warmed39 s.vm) (eT : T.heap = h) (F : OArr Z h a .byte n f) {j : Int32} {i : Nat} (hj : own_ix j i) (hi : i < n) (hg : g.method = m) {rest : List Value} (hs : g.stack = .int j :: .ref a :: rest) (hd : decode c.code g.pc = .ok (.baload, 1)) :
    ∀ t, Steps p.tables e below (T.setTop { g with pc := g.pc + 1, stack := f i :: rest }) t → Steps p.tables e below (T.setTop g) t := by
  obtain ⟨cl, A, r1, r2, r3⟩ := F
  exact X.baloadBytes hx (by rw [eT]; exact A.1) (State.isArrayOf_alike hZ.alike A.2.1) A.2.2 (own_in r1 hj hi) (by rw [hj.2]; exact r3 i hi) hg hs hd
theorem own_stI (X : Stand p l e R s m args below meth c T locs cells slots) (hx : p.tables.exec = Jvm.exec) (hZ : Z.Warmed39 s.vm) (eT : T.heap = h) (F : OArr Z h a .int n f) {j x : Int32} {i : Nat} (hj : own_ix j i) (hi : i < n) (hg : g.method = m) {rest : List Value} (hs : g.stack = .int x :: .int j :: .ref a :: rest) (hd : decode c.code g.pc = .ok (.iastore, 1)) :
    ∃ T' h', Stand p l e R s m args below meth c T' (locs ++ [⟨a, j.toNatClampNeg⟩]) cells slots ∧ T'.heap = h' ∧ Wr h h' a j.toNatClampNeg (.int x) ∧ OArr Z h' a .int n (own_upd f i (.int x)) ∧ ∀ t, Steps p.tables e below (T'.setTop { g with pc := g.pc + 1, stack := rest }) t → Steps p.tables e below (T.setTop g) t := by
  obtain ⟨cl, A, r1, r2, r3⟩ := id F
  obtain ⟨T', h', X', e', W, st⟩ := stI X hx hZ eT A (own_in r1 hj hi) hg hs hd
  exact ⟨T', h', X', e', W, F.wr hj W, st⟩
theorem own_stJ (X : Stand p l e R s m args below meth c T locs cells slots) (hx : p.tables.exec = Jvm.exec) (hZ : Z.Warmed39 s.vm) (eT : T.heap = h) (F : OArr Z h a .long n f) {j : Int32} {x : Int64} {i : Nat} (hj : own_ix j i) (hi : i < n) (hg : g.method = m) {rest : List Value} (hs : g.stack = .long x :: .int j :: .ref a :: rest) (hd : decode c.code g.pc = .ok (.lastore, 1)) :
    ∃ T' h', Stand p l e R s m args below meth c T' (locs ++ [⟨a, j.toNatClampNeg⟩]) cells slots ∧ T'.heap = h' ∧ Wr h h' a j.toNatClampNeg (.long x) ∧ OArr Z h' a .long n (own_upd f i (.long x)) ∧ ∀ t, Steps p.tables e below (T'.setTop { g with pc := g.pc + 1, stack := rest }) t → Steps p.tables e below (T.setTop g) t := by
  obtain ⟨cl, A, r1, r2, r3⟩ := id F
  obtain ⟨T', h', X', e', W, st⟩ := stJ X hx hZ eT A (own_in r1 hj hi) hg hs hd
  exact ⟨T', h', X', e', W, F.wr hj W, st⟩
theorem own_newA (X : Stand p l e R s m args below meth c T locs cells slots) (hx : p.tables.exec = Jvm.exec) (hZ : Z.Warmed39 s.vm) {aty : ArrayType} (w : (Cond.arrayClass (newarray.typeOf aty)).before a0 Z = true) (eT : T.heap = h) (hg : g.method = m) (hd : decode c.code g.pc = .ok (.newarray aty, 2)) {z : Int32} {rest : List Value} (hs : g.stack = .int z :: rest)
    (hj : own_ix z n) {cap : Nat} (hcap : n ≤ cap) (hb : cap * 8 ≤ 536870912) (hc : cells + 1 ≤ R.cells) (hl : slots + cap ≤ R.slots) :
    ∃ T' h' b, b = h.size ∧ Stand p l e R s m args below meth c T' locs (cells + 1) (slots + cap) ∧ T'.heap = h' ∧ Ext h h' ∧ OArr Z h' b (newarray.typeOf aty) n (fun _ => defaultValue (newarray.typeOf aty)) ∧
      ∀ t, Steps p.tables e below (T'.setTop { g with pc := g.pc + 2, stack := .ref b :: rest }) t → Steps p.tables e below (T.setTop g) t := by
  obtain ⟨T', h', cA, X', e', E, A, st⟩ := newP X hx hZ w eT hg hd hs hj.1 (cap := cap) (by rw [hj.2]; exact hcap) hb hc hl
  have q := back32 hj.1
  rw [hj.2] at q
  refine ⟨T', h', _, rfl, X', e', E, ⟨_, A, (sz_new _ _ _).trans hj.2, q.2, fun k hk => ?_⟩, st⟩
  show (Array.replicate z.toNatClampNeg (defaultValue (newarray.typeOf aty)))[k]? = _
  rw [hj.2, Array.getElem?_replicate, if_pos hk]
theorem own_keepL {x : Addr} {L : List Addr} (K : Keep h h' L) (q : x ∉ L) {cl : Cell} (hc : h[x]? = some cl) : h'[x]? = some cl := K.2.1 x cl hc q
theorem own_pop2L {tb : Tables} [Ours tb] {target : State} (h : At T m c below) (hx : tb.exec = Jvm.exec) (hg : g.method = m) {x : Int64} {rest : List Value} (hd : decode c.code g.pc = .ok (.pop2, 1)) (hs : g.stack = .long x :: rest)
    (hr : Steps tb e below (T.setTop { g with pc := g.pc + 1, stack := rest }) target) : Steps tb e below (T.setTop g) target := by
  subst hg
  jvm_step h [h.top, hx, hd, hs, Value.category]
  exact hr
end Own
/-! own: an array of references over Object -/
def OArrR (Z : State) (h : Heap) (a : Addr) (n : Nat) (f : Nat → Value) : Prop := ∃ cl : Cell, Arr Z h a cl (.object "java/lang/Object") ∧ Ovr Z cl.cls "java/lang/Object" ∧ cl.slots.size = n ∧ n < 2 ^ 31 ∧ ∀ j, j < n → cl.slots[j]? = some (f j)
section OwnR
variable {p : Program} {l : Launch} {e : Env} {R : Room} {s s₁ : State} {m : MethodId} {args : Array Value} {below : List Frame} {meth : Method} {c : Code} {T T' : State} {locs : List Loc} {cells slots : Nat} {g g' : JFrame} {Z : State} {a0 : Array Value} {h h' : Heap} {a b : Addr} {n : Nat} {f f' : Nat → Value} {sl : Nat} {v : Value} {ws : List Addr}
theorem OArrR.lt (F : OArrR Z h a n f) : a < h.size := by obtain ⟨cl, A, -⟩ := F; exact A.lt
theorem OArrR.ext (F : OArrR Z h a n f) (E : Ext h h') : OArrR Z h' a n f := by obtain ⟨cl, A, r⟩ := F; exact ⟨cl, A.ext E, r⟩
theorem OArrR.other (F : OArrR Z h a n f) (W : Wr h h' b sl v) (q : a ≠ b) : OArrR Z h' a n f := by obtain ⟨cl, A, r⟩ := F; exact ⟨cl, A.other W q, r⟩
theorem OArrR.keep (F : OArrR Z h a n f) (K : Keep h h' ws) (q : a ∉ ws) : OArrR Z h' a n f := by obtain ⟨cl, A, r⟩ := F; exact ⟨cl, ⟨K.2.1 a cl A.1 q, A.2⟩, r⟩
theorem OArrR.cast (F : OArrR Z h a n f) (q : ∀ j, j < n → f j = f' j) : OArrR Z h a n f' := by obtain ⟨cl, A, r0, r1, r2, r3⟩ := F; exact ⟨cl, A, r0, r1, r2, fun j hj => by rw [r3 j hj, q j hj]⟩
theorem OArrR.wr (F : OArrR Z h a n f) {j : Int32} {i : Nat} (hj : own_ix j i) (W : Wr h h' a j.toNatClampNeg v) : OArrR Z h' a n (own_upd f i v) := by
  obtain ⟨cl, A, r0, r1, r2, r3⟩ := F
  obtain ⟨cl2, A2, q1, q2, q3⟩ := OArr.wr (⟨cl, A, r1, r2, r3⟩ : OArr Z h a (.object "java/lang/Object") n f) hj W
  refine ⟨_, A.same W, r0, by rw [sz_set, r1], r2, fun k hk => ?_⟩
  cases (A.same W).1.symm.trans A2.1
  exact q3 k hk
theorem OArrR.arr (F : OArrR Z h a n f) : OArr Z h a (.object "java/lang/Object") n f := by obtain ⟨cl, A, -, r⟩ := F; exact ⟨cl, A, r⟩
theorem own_ldR (X : Stand p l e R s m args below meth c T locs cells slots) (hx : p.tables.exec = Jvm.exec) (hZ : Z.Warmed39 s.vm) (eT : T.heap = h) (F : OArrR Z h a n f) {j : Int32} {i : Nat} (hj : own_ix j i) (hi : i < n) (hg : g.method = m) {rest : List Value} (hs : g.stack = .int j :: .ref a :: rest) (hd : decode c.code g.pc = .ok (.aaload, 1)) :
    ∀ t, Steps p.tables e below (T.setTop { g with pc := g.pc + 1, stack := f i :: rest }) t → Steps p.tables e below (T.setTop g) t := by
  obtain ⟨cl, A, r0, r1, r2, r3⟩ := F
  exact X.aaload hx (by rw [eT]; exact A.1) (State.isArrayOf_alike hZ.alike A.2.1) rfl A.2.2 (own_in r1 hj hi) (by rw [hj.2]; exact r3 i hi) hg hs hd
theorem own_stR (X : Stand p l e R s m args below meth c T locs cells slots) (hx : p.tables.exec = Jvm.exec) (hZ : Z.Warmed39 s.vm) (eT : T.heap = h) (F : OArrR Z h a n f) {y : Addr} (I : Ins Z h y "java/lang/Object" true) {j : Int32} {i : Nat} (hj : own_ix j i) (hi : i < n) (hg : g.method = m) {rest : List Value} (hs : g.stack = .ref y :: .int j :: .ref a :: rest) (hd : decode c.code g.pc = .ok (.aastore, 1)) :
    ∃ T' h', Stand p l e R s m args below meth c T' (locs ++ [⟨a, j.toNatClampNeg⟩]) cells slots ∧ T'.heap = h' ∧ Wr h h' a j.toNatClampNeg (.ref y) ∧ OArrR Z h' a n (own_upd f i (.ref y)) ∧ ∀ t, Steps p.tables e below (T'.setTop { g with pc := g.pc + 1, stack := rest }) t → Steps p.tables e below (T.setTop g) t := by
  obtain ⟨cl, A, r0, r1, r2, r3⟩ := id F
  obtain ⟨T', h', X', e', W, st⟩ := stR X hx hZ eT A (own_in r1 hj hi) rfl (Sto.of A r0 I) hg hs hd
  exact ⟨T', h', X', e', W, F.wr hj W, st⟩
theorem own_newR (X : Stand p l e R s m args below meth c T locs cells slots) (hx : p.tables.exec = Jvm.exec) (hZ : Z.Warmed39 s.vm) {own : String} {index : Nat} (hown : s.vm.findClass own = some m.cls) (w1 : (Cond.classLink own index "java/lang/Object").before a0 Z = true) (w2 : (Cond.arrayOver (.object "java/lang/Object")).before a0 Z = true) (eT : T.heap = h) (hg : g.method = m) (hd : decode c.code g.pc = .ok (.anewarray index, 3)) {z : Int32} {rest : List Value} (hs : g.stack = .int z :: rest)
    (hj : own_ix z n) {cap : Nat} (hcap : n ≤ cap) (hb : cap * 8 ≤ 536870912) (hc : cells + 1 ≤ R.cells) (hl : slots + cap ≤ R.slots) :
    ∃ T' h' b, b = h.size ∧ Stand p l e R s m args below meth c T' locs (cells + 1) (slots + cap) ∧ T'.heap = h' ∧ Ext h h' ∧ OArrR Z h' b n (fun _ => .null) ∧
      ∀ t, Steps p.tables e below (T'.setTop { g with pc := g.pc + 3, stack := .ref b :: rest }) t → Steps p.tables e below (T.setTop g) t := by
  obtain ⟨T', h', cA, X', e', E, A, O, st⟩ := newR X hx hZ hown w1 w2 eT hg hd hs hj.1 (cap := cap) (by rw [hj.2]; exact hcap) hb hc hl
  have q := back32 hj.1
  rw [hj.2] at q
  refine ⟨T', h', _, rfl, X', e', E, ⟨_, A, O, (sz_new _ _ _).trans hj.2, q.2, fun k hk => ?_⟩, st⟩
  show (Array.replicate z.toNatClampNeg (defaultValue (.object "java/lang/Object")))[k]? = _
  rw [hj.2, Array.getElem?_replicate, if_pos hk]; rfl
theorem own_len0 {t : Term} {x : Addr} {cl : Cell} {o : Option Outcome} {idx : List Nat} {first : State} (hv : (Term.length t).eval args first o idx s = some (.int 0)) (ht : t.eval args first o idx s = some (.ref x)) (ha : s.arrayAt? x = some cl) : cl.slots.size = 0 := by
  simp [Term.eval, ht, ha] at hv
  obtain ⟨h1, h2⟩ := hv
  have q : (cl.slots.size.toInt32).toInt = 0 := by rw [h2]; rfl
  rw [len_toInt h1] at q
  omega
end OwnR
theorem own_d_jdk_30_method_1_0 : decode jdk_30_method_1_code 0 = .ok (.aload_n 0, 1) := by decide +kernel
theorem own_d_jdk_30_method_1_1 : decode jdk_30_method_1_code 1 = .ok (.invokespecial 1, 3) := by decide +kernel
theorem own_d_jdk_30_method_1_4 : decode jdk_30_method_1_code 4 = .ok (.return_, 1) := by decide +kernel
theorem own_pn5 : plainName "java/lang/Record" = true := by first | (simp [plainName, overriddenIn]; done) | decide +kernel
theorem own_d_jdk_22_method_1_0 : decode jdk_22_method_1_code 0 = .ok (.aload_n 0, 1) := by decide +kernel
theorem own_d_jdk_22_method_1_1 : decode jdk_22_method_1_code 1 = .ok (.invokespecial 1, 3) := by decide +kernel
theorem own_d_jdk_22_method_1_4 : decode jdk_22_method_1_code 4 = .ok (.return_, 1) := by decide +kernel
theorem own_pn6 : plainName "java/util/AbstractCollection" = true := by first | (simp [plainName, overriddenIn]; done) | decide +kernel
theorem own_d_prog_23_method_1_0 : decode prog_23_method_1_code 0 = .ok (.aload_n 0, 1) := by decide +kernel
theorem own_d_prog_23_method_1_1 : decode prog_23_method_1_code 1 = .ok (.invokespecial 1, 3) := by decide +kernel
theorem own_pd3 : parseMethodDescriptor "()V" = some ⟨[], none⟩ := by decide +kernel
theorem own_d_prog_23_method_1_4 : decode prog_23_method_1_code 4 = .ok (.aload_n 0, 1) := by decide +kernel
theorem own_d_prog_23_method_1_5 : decode prog_23_method_1_code 5 = .ok (.aload_n 1, 1) := by decide +kernel
theorem own_d_prog_23_method_1_6 : decode prog_23_method_1_code 6 = .ok (.putfield 7, 3) := by decide +kernel
theorem own_d_prog_23_method_1_9 : decode prog_23_method_1_code 9 = .ok (.aload_n 0, 1) := by decide +kernel
theorem own_d_prog_23_method_1_10 : decode prog_23_method_1_code 10 = .ok (.aload_n 2, 1) := by decide +kernel
theorem own_d_prog_23_method_1_11 : decode prog_23_method_1_code 11 = .ok (.putfield 13, 3) := by decide +kernel
theorem own_d_prog_23_method_1_14 : decode prog_23_method_1_code 14 = .ok (.return_, 1) := by decide +kernel
theorem own_pn0 : plainName "com/example/rallypoint/rallypoint/protocol/MultiRequest$Op" = true := by first | (simp [plainName, overriddenIn]; done) | decide +kernel
theorem own_d_jdk_39_method_1_0 : decode jdk_39_method_1_code 0 = .ok (.aload_n 0, 1) := by decide +kernel
theorem own_d_jdk_39_method_1_1 : decode jdk_39_method_1_code 1 = .ok (.invokespecial 1, 3) := by decide +kernel
theorem own_d_jdk_39_method_1_4 : decode jdk_39_method_1_code 4 = .ok (.aload_n 0, 1) := by decide +kernel
theorem own_d_jdk_39_method_1_5 : decode jdk_39_method_1_code 5 = .ok (.iconst 0, 1) := by decide +kernel
theorem own_d_jdk_39_method_1_6 : decode jdk_39_method_1_code 6 = .ok (.putfield 7, 3) := by decide +kernel
theorem own_d_jdk_39_method_1_9 : decode jdk_39_method_1_code 9 = .ok (.return_, 1) := by decide +kernel
theorem own_pn7 : plainName "java/util/AbstractList" = true := by first | (simp [plainName, overriddenIn]; done) | decide +kernel
theorem own_d_jdk_38_method_2_0 : decode jdk_38_method_2_code 0 = .ok (.aload_n 0, 1) := by decide +kernel
theorem own_d_jdk_38_method_2_1 : decode jdk_38_method_2_code 1 = .ok (.invokespecial 1, 3) := by decide +kernel
theorem own_d_jdk_38_method_2_4 : decode jdk_38_method_2_code 4 = .ok (.aload_n 0, 1) := by decide +kernel
theorem own_d_jdk_38_method_2_5 : decode jdk_38_method_2_code 5 = .ok (.getstatic 39, 3) := by decide +kernel
theorem own_d_jdk_38_method_2_8 : decode jdk_38_method_2_code 8 = .ok (.putfield 9, 3) := by decide +kernel
theorem own_d_jdk_38_method_2_11 : decode jdk_38_method_2_code 11 = .ok (.return_, 1) := by decide +kernel
theorem own_pn8 : plainName "java/util/ArrayList" = true := by first | (simp [plainName, overriddenIn]; done) | decide +kernel
theorem own_d_jdk_29_method_65_0 : decode jdk_29_method_65_code 0 = .ok (.iload_n 0, 1) := by decide +kernel
theorem own_d_jdk_29_method_65_1 : decode jdk_29_method_65_code 1 = .ok (.iload_n 1, 1) := by decide +kernel
theorem own_d_jdk_29_method_65_2 : decode jdk_29_method_65_code 2 = .ok (.if_icmp .lt 7, 3) := by decide +kernel
theorem own_d_jdk_29_method_65_5 : decode jdk_29_method_65_code 5 = .ok (.iload_n 0, 1) := by decide +kernel
theorem own_d_jdk_29_method_65_6 : decode jdk_29_method_65_code 6 = .ok (.goto 4, 3) := by decide +kernel
theorem own_d_jdk_29_method_65_10 : decode jdk_29_method_65_code 10 = .ok (.ireturn, 1) := by decide +kernel
theorem own_d_jdk_38_method_6_0 : decode jdk_38_method_6_code 0 = .ok (.aload_n 0, 1) := by decide +kernel
theorem own_d_jdk_38_method_6_1 : decode jdk_38_method_6_code 1 = .ok (.getfield 9, 3) := by decide +kernel
theorem own_d_jdk_38_method_6_4 : decode jdk_38_method_6_code 4 = .ok (.arraylength, 1) := by decide +kernel
theorem own_d_jdk_38_method_6_5 : decode jdk_38_method_6_code 5 = .ok (.istore_n 2, 1) := by decide +kernel
theorem own_d_jdk_38_method_6_6 : decode jdk_38_method_6_code 6 = .ok (.iload_n 2, 1) := by decide +kernel
theorem own_d_jdk_38_method_6_7 : decode jdk_38_method_6_code 7 = .ok (.ifCond .gt 13, 3) := by decide +kernel
theorem own_d_jdk_38_method_6_10 : decode jdk_38_method_6_code 10 = .ok (.aload_n 0, 1) := by decide +kernel
theorem own_d_jdk_38_method_6_11 : decode jdk_38_method_6_code 11 = .ok (.getfield 9, 3) := by decide +kernel
theorem own_d_jdk_38_method_6_14 : decode jdk_38_method_6_code 14 = .ok (.getstatic 39, 3) := by decide +kernel
theorem own_d_jdk_38_method_6_17 : decode jdk_38_method_6_code 17 = .ok (.if_acmp .eq 28, 3) := by decide +kernel
theorem own_d_jdk_38_method_6_45 : decode jdk_38_method_6_code 45 = .ok (.aload_n 0, 1) := by decide +kernel
theorem own_d_jdk_38_method_6_46 : decode jdk_38_method_6_code 46 = .ok (.bipush 10, 2) := by decide +kernel
theorem own_d_jdk_38_method_6_48 : decode jdk_38_method_6_code 48 = .ok (.iload_n 1, 1) := by decide +kernel
theorem own_d_jdk_38_method_6_49 : decode jdk_38_method_6_code 49 = .ok (.invokestatic 79, 3) := by decide +kernel
theorem own_pd7 : parseMethodDescriptor "(II)I" = some ⟨[.int, .int], some .int⟩ := by decide +kernel
theorem own_d_jdk_38_method_6_52 : decode jdk_38_method_6_code 52 = .ok (.anewarray 7, 3) := by decide +kernel
theorem own_d_jdk_38_method_6_55 : decode jdk_38_method_6_code 55 = .ok (.dup_x1, 1) := by decide +kernel
theorem own_d_jdk_38_method_6_56 : decode jdk_38_method_6_code 56 = .ok (.putfield 9, 3) := by decide +kernel
theorem own_d_jdk_38_method_6_59 : decode jdk_38_method_6_code 59 = .ok (.areturn, 1) := by decide +kernel
theorem own_d_jdk_38_method_7_0 : decode jdk_38_method_7_code 0 = .ok (.aload_n 0, 1) := by decide +kernel
theorem own_d_jdk_38_method_7_1 : decode jdk_38_method_7_code 1 = .ok (.aload_n 0, 1) := by decide +kernel
theorem own_d_jdk_38_method_7_2 : decode jdk_38_method_7_code 2 = .ok (.getfield 48, 3) := by decide +kernel
theorem own_d_jdk_38_method_7_5 : decode jdk_38_method_7_code 5 = .ok (.iconst 1, 1) := by decide +kernel
theorem own_d_jdk_38_method_7_6 : decode jdk_38_method_7_code 6 = .ok (.iadd, 1) := by decide +kernel
theorem own_d_jdk_38_method_7_7 : decode jdk_38_method_7_code 7 = .ok (.invokevirtual 69, 3) := by decide +kernel
theorem own_pd6 : parseMethodDescriptor "(I)[Ljava/lang/Object;" = some ⟨[.int], some (.array (.object "java/lang/Object"))⟩ := by decide +kernel
theorem own_d_jdk_38_method_7_10 : decode jdk_38_method_7_code 10 = .ok (.areturn, 1) := by decide +kernel
theorem own_d_jdk_38_method_24_0 : decode jdk_38_method_24_code 0 = .ok (.iload_n 3, 1) := by decide +kernel
theorem own_d_jdk_38_method_24_1 : decode jdk_38_method_24_code 1 = .ok (.aload_n 2, 1) := by decide +kernel
theorem own_d_jdk_38_method_24_2 : decode jdk_38_method_24_code 2 = .ok (.arraylength, 1) := by decide +kernel
theorem own_d_jdk_38_method_24_3 : decode jdk_38_method_24_code 3 = .ok (.if_icmp .ne 8, 3) := by decide +kernel
theorem own_d_jdk_38_method_24_6 : decode jdk_38_method_24_code 6 = .ok (.aload_n 0, 1) := by decide +kernel
theorem own_d_jdk_38_method_24_7 : decode jdk_38_method_24_code 7 = .ok (.invokevirtual 129, 3) := by decide +kernel
theorem own_pd4 : parseMethodDescriptor "()[Ljava/lang/Object;" = some ⟨[], some (.array (.object "java/lang/Object"))⟩ := by decide +kernel
theorem own_d_jdk_38_method_24_10 : decode jdk_38_method_24_code 10 = .ok (.astore_n 2, 1) := by decide +kernel
theorem own_d_jdk_38_method_24_11 : decode jdk_38_method_24_code 11 = .ok (.aload_n 2, 1) := by decide +kernel
theorem own_d_jdk_38_method_24_12 : decode jdk_38_method_24_code 12 = .ok (.iload_n 3, 1) := by decide +kernel
theorem own_d_jdk_38_method_24_13 : decode jdk_38_method_24_code 13 = .ok (.aload_n 1, 1) := by decide +kernel
theorem own_d_jdk_38_method_24_14 : decode jdk_38_method_24_code 14 = .ok (.aastore, 1) := by decide +kernel
theorem own_d_jdk_38_method_24_15 : decode jdk_38_method_24_code 15 = .ok (.aload_n 0, 1) := by decide +kernel
theorem own_d_jdk_38_method_24_16 : decode jdk_38_method_24_code 16 = .ok (.iload_n 3, 1) := by decide +kernel
theorem own_d_jdk_38_method_24_17 : decode jdk_38_method_24_code 17 = .ok (.iconst 1, 1) := by decide +kernel
theorem own_d_jdk_38_method_24_18 : decode jdk_38_method_24_code 18 = .ok (.iadd, 1) := by decide +kernel
theorem own_d_jdk_38_method_24_19 : decode jdk_38_method_24_code 19 = .ok (.putfield 48, 3) := by decide +kernel
theorem own_d_jdk_38_method_24_22 : decode jdk_38_method_24_code 22 = .ok (.return_, 1) := by decide +kernel
theorem own_d_jdk_38_method_25_0 : decode jdk_38_method_25_code 0 = .ok (.aload_n 0, 1) := by decide +kernel
theorem own_d_jdk_38_method_25_1 : decode jdk_38_method_25_code 1 = .ok (.dup, 1) := by decide +kernel
theorem own_d_jdk_38_method_25_2 : decode jdk_38_method_25_code 2 = .ok (.getfield 63, 3) := by decide +kernel
theorem own_d_jdk_38_method_25_5 : decode jdk_38_method_25_code 5 = .ok (.iconst 1, 1) := by decide +kernel
theorem own_d_jdk_38_method_25_6 : decode jdk_38_method_25_code 6 = .ok (.iadd, 1) := by decide +kernel
theorem own_d_jdk_38_method_25_7 : decode jdk_38_method_25_code 7 = .ok (.putfield 63, 3) := by decide +kernel
theorem own_d_jdk_38_method_25_10 : decode jdk_38_method_25_code 10 = .ok (.aload_n 0, 1) := by decide +kernel
theorem own_d_jdk_38_method_25_11 : decode jdk_38_method_25_code 11 = .ok (.aload_n 1, 1) := by decide +kernel
theorem own_d_jdk_38_method_25_12 : decode jdk_38_method_25_code 12 = .ok (.aload_n 0, 1) := by decide +kernel
theorem own_d_jdk_38_method_25_13 : decode jdk_38_method_25_code 13 = .ok (.getfield 9, 3) := by decide +kernel
theorem own_d_jdk_38_method_25_16 : decode jdk_38_method_25_code 16 = .ok (.aload_n 0, 1) := by decide +kernel
theorem own_d_jdk_38_method_25_17 : decode jdk_38_method_25_code 17 = .ok (.getfield 48, 3) := by decide +kernel
theorem own_d_jdk_38_method_25_20 : decode jdk_38_method_25_code 20 = .ok (.invokevirtual 131, 3) := by decide +kernel
theorem own_pd14 : parseMethodDescriptor "(Ljava/lang/Object;[Ljava/lang/Object;I)V" = some ⟨[(.object "java/lang/Object"), (.array (.object "java/lang/Object")), .int], none⟩ := by decide +kernel
theorem own_d_jdk_38_method_25_23 : decode jdk_38_method_25_code 23 = .ok (.iconst 1, 1) := by decide +kernel
theorem own_d_jdk_38_method_25_24 : decode jdk_38_method_25_code 24 = .ok (.ireturn, 1) := by decide +kernel
theorem own_d_jdk_38_method_8_0 : decode jdk_38_method_8_code 0 = .ok (.aload_n 0, 1) := by decide +kernel
theorem own_d_jdk_38_method_8_1 : decode jdk_38_method_8_code 1 = .ok (.getfield 48, 3) := by decide +kernel
theorem own_d_jdk_38_method_8_4 : decode jdk_38_method_8_code 4 = .ok (.ireturn, 1) := by decide +kernel
theorem own_d_jdk_41_method_11_0 : decode jdk_41_method_11_code 0 = .ok (.iload_n 0, 1) := by decide +kernel
theorem own_d_jdk_41_method_11_1 : decode jdk_41_method_11_code 1 = .ok (.ifCond .lt 8, 3) := by decide +kernel
theorem own_d_jdk_41_method_11_4 : decode jdk_41_method_11_code 4 = .ok (.iload_n 0, 1) := by decide +kernel
theorem own_d_jdk_41_method_11_5 : decode jdk_41_method_11_code 5 = .ok (.iload_n 1, 1) := by decide +kernel
theorem own_d_jdk_41_method_11_6 : decode jdk_41_method_11_code 6 = .ok (.if_icmp .lt 10, 3) := by decide +kernel
theorem own_d_jdk_41_method_11_16 : decode jdk_41_method_11_code 16 = .ok (.iload_n 0, 1) := by decide +kernel
theorem own_d_jdk_41_method_11_17 : decode jdk_41_method_11_code 17 = .ok (.ireturn, 1) := by decide +kernel
theorem own_pn10 : plainName "jdk/internal/util/Preconditions" = true := by first | (simp [plainName, overriddenIn]; done) | decide +kernel
theorem own_d_jdk_31_method_17_0 : decode jdk_31_method_17_code 0 = .ok (.iload_n 0, 1) := by decide +kernel
theorem own_d_jdk_31_method_17_1 : decode jdk_31_method_17_code 1 = .ok (.iload_n 1, 1) := by decide +kernel
theorem own_d_jdk_31_method_17_2 : decode jdk_31_method_17_code 2 = .ok (.aconst_null, 1) := by decide +kernel
theorem own_d_jdk_31_method_17_3 : decode jdk_31_method_17_code 3 = .ok (.invokestatic 105, 3) := by decide +kernel
theorem own_pd8 : parseMethodDescriptor "(IILjava/util/function/BiFunction;)I" = some ⟨[.int, .int, (.object "java/util/function/BiFunction")], some .int⟩ := by decide +kernel
theorem own_d_jdk_31_method_17_6 : decode jdk_31_method_17_code 6 = .ok (.ireturn, 1) := by decide +kernel
theorem own_pn9 : plainName "java/util/Objects" = true := by first | (simp [plainName, overriddenIn]; done) | decide +kernel
theorem own_d_jdk_38_method_18_0 : decode jdk_38_method_18_code 0 = .ok (.aload_n 0, 1) := by decide +kernel
theorem own_d_jdk_38_method_18_1 : decode jdk_38_method_18_code 1 = .ok (.getfield 9, 3) := by decide +kernel
theorem own_d_jdk_38_method_18_4 : decode jdk_38_method_18_code 4 = .ok (.iload_n 1, 1) := by decide +kernel
theorem own_d_jdk_38_method_18_5 : decode jdk_38_method_18_code 5 = .ok (.aaload, 1) := by decide +kernel
theorem own_d_jdk_38_method_18_6 : decode jdk_38_method_18_code 6 = .ok (.areturn, 1) := by decide +kernel
theorem own_d_jdk_38_method_20_0 : decode jdk_38_method_20_code 0 = .ok (.iload_n 1, 1) := by decide +kernel
theorem own_d_jdk_38_method_20_1 : decode jdk_38_method_20_code 1 = .ok (.aload_n 0, 1) := by decide +kernel
theorem own_d_jdk_38_method_20_2 : decode jdk_38_method_20_code 2 = .ok (.getfield 48, 3) := by decide +kernel
theorem own_d_jdk_38_method_20_5 : decode jdk_38_method_20_code 5 = .ok (.invokestatic 118, 3) := by decide +kernel
theorem own_d_jdk_38_method_20_8 : decode jdk_38_method_20_code 8 = .ok (.pop, 1) := by decide +kernel
theorem own_d_jdk_38_method_20_9 : decode jdk_38_method_20_code 9 = .ok (.aload_n 0, 1) := by decide +kernel
theorem own_d_jdk_38_method_20_10 : decode jdk_38_method_20_code 10 = .ok (.iload_n 1, 1) := by decide +kernel
theorem own_d_jdk_38_method_20_11 : decode jdk_38_method_20_code 11 = .ok (.invokevirtual 123, 3) := by decide +kernel
theorem own_pd5 : parseMethodDescriptor "(I)Ljava/lang/Object;" = some ⟨[.int], some (.object "java/lang/Object")⟩ := by decide +kernel
theorem own_d_jdk_38_method_20_14 : decode jdk_38_method_20_code 14 = .ok (.areturn, 1) := by decide +kernel
theorem own_d_prog_59_method_1_0 : decode prog_59_method_1_code 0 = .ok (.aload_n 0, 1) := by decide +kernel
theorem own_d_prog_59_method_1_1 : decode prog_59_method_1_code 1 = .ok (.invokespecial 1, 3) := by decide +kernel
theorem own_d_prog_59_method_1_4 : decode prog_59_method_1_code 4 = .ok (.aload_n 0, 1) := by decide +kernel
theorem own_d_prog_59_method_1_5 : decode prog_59_method_1_code 5 = .ok (.lload_n 1, 1) := by decide +kernel
theorem own_d_prog_59_method_1_6 : decode prog_59_method_1_code 6 = .ok (.putfield 7, 3) := by decide +kernel
theorem own_d_prog_59_method_1_9 : decode prog_59_method_1_code 9 = .ok (.aload_n 0, 1) := by decide +kernel
theorem own_d_prog_59_method_1_10 : decode prog_59_method_1_code 10 = .ok (.lload_n 3, 1) := by decide +kernel
theorem own_d_prog_59_method_1_11 : decode prog_59_method_1_code 11 = .ok (.putfield 13, 3) := by decide +kernel
theorem own_d_prog_59_method_1_14 : decode prog_59_method_1_code 14 = .ok (.aload_n 0, 1) := by decide +kernel
theorem own_d_prog_59_method_1_15 : decode prog_59_method_1_code 15 = .ok (.lload 5, 2) := by decide +kernel
theorem own_d_prog_59_method_1_17 : decode prog_59_method_1_code 17 = .ok (.putfield 16, 3) := by decide +kernel
theorem own_d_prog_59_method_1_20 : decode prog_59_method_1_code 20 = .ok (.aload_n 0, 1) := by decide +kernel
theorem own_d_prog_59_method_1_21 : decode prog_59_method_1_code 21 = .ok (.aload 7, 2) := by decide +kernel
theorem own_d_prog_59_method_1_23 : decode prog_59_method_1_code 23 = .ok (.putfield 19, 3) := by decide +kernel
theorem own_d_prog_59_method_1_26 : decode prog_59_method_1_code 26 = .ok (.return_, 1) := by decide +kernel
theorem own_pn1 : plainName "com/example/rallypoint/rallypoint/server/LogEntry$TreeChanged" = true := by first | (simp [plainName, overriddenIn]; done) | decide +kernel
theorem own_d_prog_59_method_2_0 : decode prog_59_method_2_code 0 = .ok (.new 8, 3) := by decide +kernel
theorem own_d_prog_59_method_2_3 : decode prog_59_method_2_code 3 = .ok (.dup, 1) := by decide +kernel
theorem own_d_prog_59_method_2_4 : decode prog_59_method_2_code 4 = .ok (.lload_n 1, 1) := by decide +kernel
theorem own_d_prog_59_method_2_5 : decode prog_59_method_2_code 5 = .ok (.lload_n 3, 1) := by decide +kernel
theorem own_d_prog_59_method_2_6 : decode prog_59_method_2_code 6 = .ok (.aload_n 0, 1) := by decide +kernel
theorem own_d_prog_59_method_2_7 : decode prog_59_method_2_code 7 = .ok (.getfield 16, 3) := by decide +kernel
theorem own_d_prog_59_method_2_10 : decode prog_59_method_2_code 10 = .ok (.aload_n 0, 1) := by decide +kernel
theorem own_d_prog_59_method_2_11 : decode prog_59_method_2_code 11 = .ok (.getfield 19, 3) := by decide +kernel
theorem own_d_prog_59_method_2_14 : decode prog_59_method_2_code 14 = .ok (.invokespecial 23, 3) := by decide +kernel
theorem own_pd11 : parseMethodDescriptor "(JJJLjava/util/List;)V" = some ⟨[.long, .long, .long, (.object "java/util/List")], none⟩ := by decide +kernel
theorem own_d_prog_59_method_2_17 : decode prog_59_method_2_code 17 = .ok (.areturn, 1) := by decide +kernel
theorem own_d_prog_59_method_7_0 : decode prog_59_method_7_code 0 = .ok (.aload_n 0, 1) := by decide +kernel
theorem own_d_prog_59_method_7_1 : decode prog_59_method_7_code 1 = .ok (.getfield 7, 3) := by decide +kernel
theorem own_d_prog_59_method_7_4 : decode prog_59_method_7_code 4 = .ok (.lreturn, 1) := by decide +kernel
theorem own_d_prog_59_method_8_0 : decode prog_59_method_8_code 0 = .ok (.aload_n 0, 1) := by decide +kernel
theorem own_d_prog_59_method_8_1 : decode prog_59_method_8_code 1 = .ok (.getfield 13, 3) := by decide +kernel
theorem own_d_prog_59_method_8_4 : decode prog_59_method_8_code 4 = .ok (.lreturn, 1) := by decide +kernel
theorem own_d_prog_59_method_9_0 : decode prog_59_method_9_code 0 = .ok (.aload_n 0, 1) := by decide +kernel
theorem own_d_prog_59_method_9_1 : decode prog_59_method_9_code 1 = .ok (.getfield 16, 3) := by decide +kernel
theorem own_d_prog_59_method_9_4 : decode prog_59_method_9_code 4 = .ok (.lreturn, 1) := by decide +kernel
theorem own_d_prog_59_method_10_0 : decode prog_59_method_10_code 0 = .ok (.aload_n 0, 1) := by decide +kernel
theorem own_d_prog_59_method_10_1 : decode prog_59_method_10_code 1 = .ok (.getfield 19, 3) := by decide +kernel
theorem own_d_prog_59_method_10_4 : decode prog_59_method_10_code 4 = .ok (.areturn, 1) := by decide +kernel
theorem own_pd12 : parseMethodDescriptor "(Lcom/example/rallypoint/rallypoint/protocol/OpCode;Lcom/example/rallypoint/rallypoint/protocol/RequestBody;)V" = some ⟨[(.object "com/example/rallypoint/rallypoint/protocol/OpCode"), (.object "com/example/rallypoint/rallypoint/protocol/RequestBody")], none⟩ := by decide +kernel
theorem own_pd9 : parseMethodDescriptor "(JJ)Lcom/example/rallypoint/rallypoint/server/LogEntry$TreeChanged;" = some ⟨[.long, .long], some (.object "com/example/rallypoint/rallypoint/server/LogEntry$TreeChanged")⟩ := by decide +kernel
theorem own_pd2 : parseMethodDescriptor "()Ljava/util/List;" = some ⟨[], some (.object "java/util/List")⟩ := by decide +kernel
theorem own_pd1 : parseMethodDescriptor "()J" = some ⟨[], some .long⟩ := by decide +kernel
theorem own_pd0 : parseMethodDescriptor "()I" = some ⟨[], some .int⟩ := by decide +kernel
theorem own_pd13 : parseMethodDescriptor "(Ljava/lang/Object;)Z" = some ⟨[(.object "java/lang/Object")], some .boolean⟩ := by decide +kernel
theorem own_pn2 : plainName "com/example/rallypoint/rallypoint/server/TreeChangedStampedPinLaw" = true := by first | (simp [plainName, overriddenIn]; done) | decide +kernel
theorem own_mask3 (x : Int32) : (x &&& (3 : Int32)) = (0 : Int32) ∨ (x &&& (3 : Int32)) = (1 : Int32) ∨ (x &&& (3 : Int32)) = (2 : Int32) ∨ (x &&& (3 : Int32)) = (3 : Int32) := by
  have e : (x &&& (3 : Int32)) = Int32.ofNat (x &&& 3).toBitVec.toNat := by
    apply Int32.toBitVec_inj.mp
    show _ = BitVec.ofNat 32 _
    rw [BitVec.ofNat_toNat]; simp
  have b : (x &&& 3).toBitVec.toNat ≤ 3 := by
    simp only [Int32.toBitVec_and, BitVec.toNat_and]
    exact Nat.and_le_right
  rw [e]
  generalize (x &&& 3).toBitVec.toNat = n at b
  match n, b with
  | 0, _ => exact Or.inl rfl
  | 1, _ => exact Or.inr (Or.inl rfl)
  | 2, _ => exact Or.inr (Or.inr (Or.inl rfl))
  | 3, _ => exact Or.inr (Or.inr (Or.inr (rfl)))
theorem own_ef_rmRec (m : MethodId) (x0 : Addr) : entryFrame m #[(.ref x0)] 1 = mkF m 0 #[.val (.ref x0)] [] := by first | (simp [entryFrame, mkF, argsToLocals, Value.category]; done) | rfl
def R_rmRec : Room := { frames := 1, cells := 0, slots := 0, locals := 12 }
def Q_rmRec (Z : State) (a : Addr) (h0 : Heap) (n0 : Nat) (v : Option Value) (h : Heap) (L : List Loc) : Prop := v = none ∧ Fr n0 L ∧ h = h0
set_option maxRecDepth 65536 in
set_option maxHeartbeats 40000000 in
theorem rmRec (l : Launch) (Z : State) (a0 : Array Value) (hw : ∀ d ∈ tables_1, d.before a0 Z = true) (ws : List Jvm.Cond) (a : Addr) (h0 : Heap) (n0 : Nat) (Z0 : n0 ≤ h0.size) :
    MetFree l (⟨"java/lang/Record", "<init>", "()V"⟩ : MethodName) (head1 (Jvm.Cond.code (⟨"java/lang/Record", "<init>", "()V"⟩ : MethodName) jdk_30_method_1_code 1 none :: ws) R_rmRec) (fun vs_ U => vs_ = #[(.ref a)] ∧ Z.Warmed39 U.vm ∧ U.heap = h0) (fun _ _ _ _ _ => True) (fun _ U o U' => ∃ v L, o = .returned v ∧ Q_rmRec Z a h0 n0 v U'.heap L ∧ FrameEnd U o U' L R_rmRec.cells R_rmRec.slots) := by
  refine MetFree.of_bodySF (plainFor_of_name own_pn5) hisR ?_
  intro p e s m args below meth c s₁ Bd hml0 hP hK
  obtain ⟨rfl, hZ, hh⟩ := hP
  have hx := Bd.exec
  have hby := Bd.bytes
  have hml : c.maxLocals = 1 := hml0
  have hown : s.vm.findClass "java/lang/Record" = some m.cls := findClass_of_methodNamed Bd.named
  have hnm := (name_of_methodNamed Bd.named Bd.method).1
  have hlk : meth.locks = false := BodyLoose.notSynchronized Bd
  have X0 : Stand p l e R_rmRec s m #[(.ref a)] below meth c s₁ [] 0 0 := Stand.of_body Bd
  have e0 : s₁.heap = h0 := by rw [← hh, Bd.state]; rfl
  have N0 := Fr.nil n0
  refine OGo.en (Q := Q_rmRec Z a h0 n0) (C := R_rmRec.cells) (S := R_rmRec.slots) (own_ef_rmRec m a) ?_
  refine OGo.st (T' := s₁) (g' := (mkF m 1 #[.val (.ref a)] [(.ref a)])) (fun _ k => (XS.aloadN X0.here hx rfl (hb hby own_d_jdk_30_method_1_0) rfl rfl k)) ?_
  obtain ⟨T1, X1, e1, st1⟩ := initO X0 hx hZ hown (hw _ (List.mem_of_getElem? (i := 11) rfl)) (hw _ (List.mem_of_getElem? (i := 12) rfl)) (hw _ (List.mem_of_getElem? (i := 13) rfl)) e0 (g := (mkF m 1 #[.val (.ref a)] [(.ref a)])) rfl (by rw [hml]; rfl) rfl (hb hby own_d_jdk_30_method_1_1) (by decide) (W := 0) (by show 2 * 0 + _ ≤ _; exact Nat.le_of_eq rfl) (by decide)
  refine OGo.st (T' := T1) (g' := (mkF m 4 #[.val (.ref a)] [])) (fun _ k => st1 _ k) ?_
  exact OGo.retV X1 hx hlk Bd.returns (hb hby own_d_jdk_30_method_1_4) (by decide) (by decide) e1 (⟨rfl, N0, rfl⟩)
theorem own_ef_rmAC (m : MethodId) (x0 : Addr) : entryFrame m #[(.ref x0)] 1 = mkF m 0 #[.val (.ref x0)] [] := by first | (simp [entryFrame, mkF, argsToLocals, Value.category]; done) | rfl
def R_rmAC : Room := { frames := 1, cells := 0, slots := 0, locals := 12 }
def Q_rmAC (Z : State) (a : Addr) (h0 : Heap) (n0 : Nat) (v : Option Value) (h : Heap) (L : List Loc) : Prop := v = none ∧ Fr n0 L ∧ h = h0
set_option maxRecDepth 65536 in
set_option maxHeartbeats 40000000 in
theorem rmAC (l : Launch) (Z : State) (a0 : Array Value) (hw : ∀ d ∈ tables_1, d.before a0 Z = true) (ws : List Jvm.Cond) (a : Addr) (h0 : Heap) (n0 : Nat) (Z0 : n0 ≤ h0.size) :
    MetFree l (⟨"java/util/AbstractCollection", "<init>", "()V"⟩ : MethodName) (head1 (Jvm.Cond.code (⟨"java/util/AbstractCollection", "<init>", "()V"⟩ : MethodName) jdk_22_method_1_code 1 none :: ws) R_rmAC) (fun vs_ U => vs_ = #[(.ref a)] ∧ Z.Warmed39 U.vm ∧ U.heap = h0) (fun _ _ _ _ _ => True) (fun _ U o U' => ∃ v L, o = .returned v ∧ Q_rmAC Z a h0 n0 v U'.heap L ∧ FrameEnd U o U' L R_rmAC.cells R_rmAC.slots) := by
  refine MetFree.of_bodySF (plainFor_of_name own_pn6) hisR ?_
  intro p e s m args below meth c s₁ Bd hml0 hP hK
  obtain ⟨rfl, hZ, hh⟩ := hP
  have hx := Bd.exec
  have hby := Bd.bytes
  have hml : c.maxLocals = 1 := hml0
  have hown : s.vm.findClass "java/util/AbstractCollection" = some m.cls := findClass_of_methodNamed Bd.named
  have hnm := (name_of_methodNamed Bd.named Bd.method).1
  have hlk : meth.locks = false := BodyLoose.notSynchronized Bd
  have X0 : Stand p l e R_rmAC s m #[(.ref a)] below meth c s₁ [] 0 0 := Stand.of_body Bd
  have e0 : s₁.heap = h0 := by rw [← hh, Bd.state]; rfl
  have N0 := Fr.nil n0
  refine OGo.en (Q := Q_rmAC Z a h0 n0) (C := R_rmAC.cells) (S := R_rmAC.slots) (own_ef_rmAC m a) ?_
  refine OGo.st (T' := s₁) (g' := (mkF m 1 #[.val (.ref a)] [(.ref a)])) (fun _ k => (XS.aloadN X0.here hx rfl (hb hby own_d_jdk_22_method_1_0) rfl rfl k)) ?_
  obtain ⟨T1, X1, e1, st1⟩ := initO X0 hx hZ hown (hw _ (List.mem_of_getElem? (i := 36) rfl)) (hw _ (List.mem_of_getElem? (i := 12) rfl)) (hw _ (List.mem_of_getElem? (i := 13) rfl)) e0 (g := (mkF m 1 #[.val (.ref a)] [(.ref a)])) rfl (by rw [hml]; rfl) rfl (hb hby own_d_jdk_22_method_1_1) (by decide) (W := 0) (by show 2 * 0 + _ ≤ _; exact Nat.le_of_eq rfl) (by decide)
  refine OGo.st (T' := T1) (g' := (mkF m 4 #[.val (.ref a)] [])) (fun _ k => st1 _ k) ?_
  exact OGo.retV X1 hx hlk Bd.returns (hb hby own_d_jdk_22_method_1_4) (by decide) (by decide) e1 (⟨rfl, N0, rfl⟩)
theorem own_ef_rmOp (m : MethodId) (x0 : Addr) : entryFrame m #[(.ref x0), .null, .null] 3 = mkF m 0 #[.val (.ref x0), .val .null, .val .null] [] := by first | (simp [entryFrame, mkF, argsToLocals, Value.category]; done) | rfl
def R_rmOp : Room := { frames := 2, cells := 0, slots := 0, locals := 24 }
def Q_rmOp (Z : State) (a : Addr) (a_op : Value) (a_body : Value) (h0 : Heap) (n0 : Nat) (v : Option Value) (h : Heap) (L : List Loc) : Prop := v = none ∧ Fr n0 L ∧ Keep h0 h [a] ∧ Fld Z h a "com/example/rallypoint/rallypoint/protocol/MultiRequest$Op" "op" "Lcom/example/rallypoint/rallypoint/protocol/OpCode;" .null ∧ Fld Z h a "com/example/rallypoint/rallypoint/protocol/MultiRequest$Op" "body" "Lcom/example/rallypoint/rallypoint/protocol/RequestBody;" .null
set_option maxRecDepth 65536 in
set_option maxHeartbeats 40000000 in
theorem rmOp (l : Launch) (Z : State) (a0 : Array Value) (hw : ∀ d ∈ tables_1, d.before a0 Z = true) (ws : List Jvm.Cond) (a : Addr) (a_op : Value) (a_body : Value) (h0 : Heap) (n0 : Nat) (Z0 : n0 ≤ h0.size) (E_a : Exa Z h0 a "com/example/rallypoint/rallypoint/protocol/MultiRequest$Op") (F_a_op : Fld Z h0 a "com/example/rallypoint/rallypoint/protocol/MultiRequest$Op" "op" "Lcom/example/rallypoint/rallypoint/protocol/OpCode;" a_op) (F_a_body : Fld Z h0 a "com/example/rallypoint/rallypoint/protocol/MultiRequest$Op" "body" "Lcom/example/rallypoint/rallypoint/protocol/RequestBody;" a_body) (g_a : n0 ≤ a) :
    MetFree l (⟨"com/example/rallypoint/rallypoint/protocol/MultiRequest$Op", "<init>", "(Lcom/example/rallypoint/rallypoint/protocol/OpCode;Lcom/example/rallypoint/rallypoint/protocol/RequestBody;)V"⟩ : MethodName) (head1 (Jvm.Cond.code (⟨"com/example/rallypoint/rallypoint/protocol/MultiRequest$Op", "<init>", "(Lcom/example/rallypoint/rallypoint/protocol/OpCode;Lcom/example/rallypoint/rallypoint/protocol/RequestBody;)V"⟩ : MethodName) prog_23_method_1_code 3 none :: ws) R_rmOp) (fun vs_ U => vs_ = #[(.ref a), .null, .null] ∧ Z.Warmed39 U.vm ∧ U.heap = h0) (fun _ _ _ _ _ => True) (fun _ U o U' => ∃ v L, o = .returned v ∧ Q_rmOp Z a a_op a_body h0 n0 v U'.heap L ∧ FrameEnd U o U' L R_rmOp.cells R_rmOp.slots) := by
  refine MetFree.of_bodySF (plainFor_of_name own_pn0) hisR ?_
  intro p e s m args below meth c s₁ Bd hml0 hP hK
  obtain ⟨rfl, hZ, hh⟩ := hP
  have hx := Bd.exec
  have hby := Bd.bytes
  have hml : c.maxLocals = 3 := hml0
  have hown : s.vm.findClass "com/example/rallypoint/rallypoint/protocol/MultiRequest$Op" = some m.cls := findClass_of_methodNamed Bd.named
  have hnm := (name_of_methodNamed Bd.named Bd.method).1
  have hlk : meth.locks = false := BodyLoose.notSynchronized Bd
  have X0 : Stand p l e R_rmOp s m #[(.ref a), .null, .null] below meth c s₁ [] 0 0 := Stand.of_body Bd
  have e0 : s₁.heap = h0 := by rw [← hh, Bd.state]; rfl
  have N0 := Fr.nil n0
  have K0 : Keep h0 h0 [a] := Keep.refl _ _
  refine OGo.en (Q := Q_rmOp Z a a_op a_body h0 n0) (C := R_rmOp.cells) (S := R_rmOp.slots) (own_ef_rmOp m a) ?_
  refine OGo.st (T' := s₁) (g' := (mkF m 1 #[.val (.ref a), .val .null, .val .null] [(.ref a)])) (fun _ k => (XS.aloadN X0.here hx rfl (hb hby own_d_prog_23_method_1_0) rfl rfl k)) ?_
  obtain ⟨_, _, ⟨T1, L1, k1, n1⟩, -, X1, ⟨Lc1, hQ1, l1, y1, z1⟩, st1⟩ := X0.specialBack hx (y := (⟨"java/lang/Record", "<init>", "()V"⟩ : MethodName)) rfl hown (mvT hZ (hw _ (List.mem_of_getElem? (i := 6) rfl))) (mvT hZ (hw _ (List.mem_of_getElem? (i := 7) rfl))) (mvT hZ (hw _ (List.mem_of_getElem? (i := 10) rfl))) (by decide) (backOf (W := 0) (rmRec l Z a0 hw [] (a) h0 n0 Z0 ) hZ (hw _ (List.mem_of_getElem? (i := 10) rfl)) (hw _ (List.mem_of_getElem? (i := 9) rfl)) (by decide) (by decide)) (g := (mkF m 1 #[.val (.ref a), .val .null, .val .null] [(.ref a)])) rfl (by rw [hml]; rfl) (Steps.refl _) (a := a) (argsL := []) (rest := []) (lenOf own_pd3 rfl) rfl (by show 2 * 0 + _ ≤ _; exact Nat.le_of_eq rfl) (hb hby own_d_prog_23_method_1_1) (fun _ _ => ⟨rfl, e0, (by decide : 0 + 0 ≤ _), (by decide : 0 + 0 ≤ _)⟩)
  dsimp only [Pt.U, Pt.locs, Pt.cells, Pt.slots] at X1 l1 y1 z1 st1 hQ1
  subst l1 y1 z1
  have X1 : Stand p l e R_rmOp s m _ below meth c T1 _ 0 0 := X1
  obtain ⟨rfl, Nq1, e1⟩ := hQ1
  have N1 := Fr.app N0 Nq1
  refine OGo.st (T' := T1) (g' := (mkF m 4 #[.val (.ref a), .val .null, .val .null] [])) (fun _ k => st1.trans k) ?_
  refine OGo.st (T' := T1) (g' := (mkF m 6 #[.val (.ref a), .val .null, .val .null] [.null, (.ref a)])) (fun _ k => (XS.aloadN X1.here hx rfl (hb hby own_d_prog_23_method_1_4) rfl rfl (XS.aloadN X1.here hx rfl (hb hby own_d_prog_23_method_1_5) rfl rfl k))) ?_
  obtain ⟨T2, h2, X2, e2, W2, st2⟩ := putF X1 hx hZ hown (host := "") (Or.inl (hw _ (List.mem_of_getElem? (i := 14) rfl))) Via.refl e1 F_a_op E_a (Or.inr ⟨(hw _ (List.mem_of_getElem? (i := 15) rfl)), rfl, hnm⟩) (hw _ (List.mem_of_getElem? (i := 1) rfl)) (ty := (.object "com/example/rallypoint/rallypoint/protocol/OpCode")) (by decide) rfl rfl (g := (mkF m 6 #[.val (.ref a), .val .null, .val .null] [.null, (.ref a)])) rfl rfl (hb hby own_d_prog_23_method_1_6)
  have F_a_op_2 : Fld Z h2 a "com/example/rallypoint/rallypoint/protocol/MultiRequest$Op" "op" "Lcom/example/rallypoint/rallypoint/protocol/OpCode;" .null := F_a_op.same W2
  have N2 := Fr.snoc X2 N1 g_a
  have E_a_2 : Exa Z h2 a "com/example/rallypoint/rallypoint/protocol/MultiRequest$Op" := E_a.wr W2
  have F_a_body_2 : Fld Z h2 a "com/example/rallypoint/rallypoint/protocol/MultiRequest$Op" "body" "Lcom/example/rallypoint/rallypoint/protocol/RequestBody;" a_body := F_a_body.other W2 (Or.inr (slot_ne (Or.inr (hw _ (List.mem_of_getElem? (i := 17) rfl))) (Or.inr (hw _ (List.mem_of_getElem? (i := 15) rfl))) (by decide) (t := (.object "com/example/rallypoint/rallypoint/protocol/RequestBody")) (t' := (.object "com/example/rallypoint/rallypoint/protocol/OpCode")) (by decide) (by decide)))
  have Zn2 : n0 ≤ h2.size := Nat.le_trans Z0 (Nat.le_of_eq W2.size.symm)
  have K2 : Keep h0 h2 [a] := K0.wr W2 (Or.inl (List.mem_of_getElem? (i := 0) rfl))
  refine OGo.st (T' := T2) (g' := (mkF m 9 #[.val (.ref a), .val .null, .val .null] [])) (fun _ k => st2 _ k) ?_
  refine OGo.st (T' := T2) (g' := (mkF m 11 #[.val (.ref a), .val .null, .val .null] [.null, (.ref a)])) (fun _ k => (XS.aloadN X2.here hx rfl (hb hby own_d_prog_23_method_1_9) rfl rfl (XS.aloadN X2.here hx rfl (hb hby own_d_prog_23_method_1_10) rfl rfl k))) ?_
  obtain ⟨T3, h3, X3, e3, W3, st3⟩ := putF X2 hx hZ hown (host := "") (Or.inl (hw _ (List.mem_of_getElem? (i := 16) rfl))) Via.refl e2 F_a_body_2 E_a_2 (Or.inr ⟨(hw _ (List.mem_of_getElem? (i := 17) rfl)), rfl, hnm⟩) (hw _ (List.mem_of_getElem? (i := 1) rfl)) (ty := (.object "com/example/rallypoint/rallypoint/protocol/RequestBody")) (by decide) rfl rfl (g := (mkF m 11 #[.val (.ref a), .val .null, .val .null] [.null, (.ref a)])) rfl rfl (hb hby own_d_prog_23_method_1_11)
  have F_a_body_3 : Fld Z h3 a "com/example/rallypoint/rallypoint/protocol/MultiRequest$Op" "body" "Lcom/example/rallypoint/rallypoint/protocol/RequestBody;" .null := F_a_body_2.same W3
  have N3 := Fr.snoc X3 N2 g_a
  have E_a_3 : Exa Z h3 a "com/example/rallypoint/rallypoint/protocol/MultiRequest$Op" := E_a_2.wr W3
  have F_a_op_3 : Fld Z h3 a "com/example/rallypoint/rallypoint/protocol/MultiRequest$Op" "op" "Lcom/example/rallypoint/rallypoint/protocol/OpCode;" .null := F_a_op_2.other W3 (Or.inr (slot_ne (Or.inr (hw _ (List.mem_of_getElem? (i := 15) rfl))) (Or.inr (hw _ (List.mem_of_getElem? (i := 17) rfl))) (by decide) (t := (.object "com/example/rallypoint/rallypoint/protocol/OpCode")) (t' := (.object "com/example/rallypoint/rallypoint/protocol/RequestBody")) (by decide) (by decide)))
  have Zn3 : n0 ≤ h3.size := Nat.le_trans Zn2 (Nat.le_of_eq W3.size.symm)
  have K3 : Keep h0 h3 [a] := K2.wr W3 (Or.inl (List.mem_of_getElem? (i := 0) rfl))
  refine OGo.st (T' := T3) (g' := (mkF m 14 #[.val (.ref a), .val .null, .val .null] [])) (fun _ k => st3 _ k) ?_
  exact OGo.retV X3 hx hlk Bd.returns (hb hby own_d_prog_23_method_1_14) (by decide) (by decide) e3 (⟨rfl, N3, K3, F_a_op_3, F_a_body_3⟩)
theorem own_ef_rmAbs (m : MethodId) (x0 : Addr) : entryFrame m #[(.ref x0)] 1 = mkF m 0 #[.val (.ref x0)] [] := by first | (simp [entryFrame, mkF, argsToLocals, Value.category]; done) | rfl
def R_rmAbs : Room := { frames := 2, cells := 0, slots := 0, locals := 24 }
def Q_rmAbs (Z : State) (a : Addr) (a_modCount : Int32) (a_elementData : Value) (a_size : Int32) (h0 : Heap) (n0 : Nat) (v : Option Value) (h : Heap) (L : List Loc) : Prop := v = none ∧ Fr n0 L ∧ Keep h0 h [a] ∧ Fld Z h a "java/util/AbstractList" "modCount" "I" (.int (0 : Int32)) ∧ Fld Z h a "java/util/ArrayList" "elementData" "[Ljava/lang/Object;" a_elementData ∧ Fld Z h a "java/util/ArrayList" "size" "I" (.int a_size)
set_option maxRecDepth 65536 in
set_option maxHeartbeats 40000000 in
theorem rmAbs (l : Launch) (Z : State) (a0 : Array Value) (hw : ∀ d ∈ tables_1, d.before a0 Z = true) (ws : List Jvm.Cond) (a : Addr) (a_modCount : Int32) (a_elementData : Value) (a_size : Int32) (h0 : Heap) (n0 : Nat) (Z0 : n0 ≤ h0.size) (E_a : Exa Z h0 a "java/util/ArrayList") (F_a_modCount : Fld Z h0 a "java/util/AbstractList" "modCount" "I" (.int a_modCount)) (F_a_elementData : Fld Z h0 a "java/util/ArrayList" "elementData" "[Ljava/lang/Object;" a_elementData) (F_a_size : Fld Z h0 a "java/util/ArrayList" "size" "I" (.int a_size)) (g_a : n0 ≤ a) :
    MetFree l (⟨"java/util/AbstractList", "<init>", "()V"⟩ : MethodName) (head1 (Jvm.Cond.code (⟨"java/util/AbstractList", "<init>", "()V"⟩ : MethodName) jdk_39_method_1_code 1 none :: ws) R_rmAbs) (fun vs_ U => vs_ = #[(.ref a)] ∧ Z.Warmed39 U.vm ∧ U.heap = h0) (fun _ _ _ _ _ => True) (fun _ U o U' => ∃ v L, o = .returned v ∧ Q_rmAbs Z a a_modCount a_elementData a_size h0 n0 v U'.heap L ∧ FrameEnd U o U' L R_rmAbs.cells R_rmAbs.slots) := by
  refine MetFree.of_bodySF (plainFor_of_name own_pn7) hisR ?_
  intro p e s m args below meth c s₁ Bd hml0 hP hK
  obtain ⟨rfl, hZ, hh⟩ := hP
  have hx := Bd.exec
  have hby := Bd.bytes
  have hml : c.maxLocals = 1 := hml0
  have hown : s.vm.findClass "java/util/AbstractList" = some m.cls := findClass_of_methodNamed Bd.named
  have hnm := (name_of_methodNamed Bd.named Bd.method).1
  have hlk : meth.locks = false := BodyLoose.notSynchronized Bd
  have X0 : Stand p l e R_rmAbs s m #[(.ref a)] below meth c s₁ [] 0 0 := Stand.of_body Bd
  have e0 : s₁.heap = h0 := by rw [← hh, Bd.state]; rfl
  have N0 := Fr.nil n0
  have K0 : Keep h0 h0 [a] := Keep.refl _ _
  refine OGo.en (Q := Q_rmAbs Z a a_modCount a_elementData a_size h0 n0) (C := R_rmAbs.cells) (S := R_rmAbs.slots) (own_ef_rmAbs m a) ?_
  refine OGo.st (T' := s₁) (g' := (mkF m 1 #[.val (.ref a)] [(.ref a)])) (fun _ k => (XS.aloadN X0.here hx rfl (hb hby own_d_jdk_39_method_1_0) rfl rfl k)) ?_
  obtain ⟨_, _, ⟨T1, L1, k1, n1⟩, -, X1, ⟨Lc1, hQ1, l1, y1, z1⟩, st1⟩ := X0.specialBack hx (y := (⟨"java/util/AbstractCollection", "<init>", "()V"⟩ : MethodName)) rfl hown (mvT hZ (hw _ (List.mem_of_getElem? (i := 30) rfl))) (mvT hZ (hw _ (List.mem_of_getElem? (i := 31) rfl))) (mvT hZ (hw _ (List.mem_of_getElem? (i := 35) rfl))) (by decide) (backOf (W := 0) (rmAC l Z a0 hw [] (a) h0 n0 Z0 ) hZ (hw _ (List.mem_of_getElem? (i := 35) rfl)) (hw _ (List.mem_of_getElem? (i := 34) rfl)) (by decide) (by decide)) (g := (mkF m 1 #[.val (.ref a)] [(.ref a)])) rfl (by rw [hml]; rfl) (Steps.refl _) (a := a) (argsL := []) (rest := []) (lenOf own_pd3 rfl) rfl (by show 2 * 0 + _ ≤ _; exact Nat.le_of_eq rfl) (hb hby own_d_jdk_39_method_1_1) (fun _ _ => ⟨rfl, e0, (by decide : 0 + 0 ≤ _), (by decide : 0 + 0 ≤ _)⟩)
  dsimp only [Pt.U, Pt.locs, Pt.cells, Pt.slots] at X1 l1 y1 z1 st1 hQ1
  subst l1 y1 z1
  have X1 : Stand p l e R_rmAbs s m _ below meth c T1 _ 0 0 := X1
  obtain ⟨rfl, Nq1, e1⟩ := hQ1
  have N1 := Fr.app N0 Nq1
  refine OGo.st (T' := T1) (g' := (mkF m 4 #[.val (.ref a)] [])) (fun _ k => st1.trans k) ?_
  refine OGo.st (T' := T1) (g' := (mkF m 6 #[.val (.ref a)] [(.int (0 : Int32)), (.ref a)])) (fun _ k => (XS.aloadN X1.here hx rfl (hb hby own_d_jdk_39_method_1_4) rfl rfl (XS.iconst X1.here hx rfl (hb hby own_d_jdk_39_method_1_5) k))) ?_
  obtain ⟨T2, h2, X2, e2, W2, st2⟩ := putF X1 hx hZ hown (host := "") (Or.inl (hw _ (List.mem_of_getElem? (i := 37) rfl))) Via.refl e1 F_a_modCount E_a (Or.inl (hw _ (List.mem_of_getElem? (i := 38) rfl))) (hw _ (List.mem_of_getElem? (i := 19) rfl)) (ty := .int) (by decide) rfl rfl (g := (mkF m 6 #[.val (.ref a)] [(.int (0 : Int32)), (.ref a)])) rfl rfl (hb hby own_d_jdk_39_method_1_6)
  have F_a_modCount_2 : Fld Z h2 a "java/util/AbstractList" "modCount" "I" (.int (0 : Int32)) := F_a_modCount.same W2
  have N2 := Fr.snoc X2 N1 g_a
  have E_a_2 : Exa Z h2 a "java/util/ArrayList" := E_a.wr W2
  have F_a_elementData_2 : Fld Z h2 a "java/util/ArrayList" "elementData" "[Ljava/lang/Object;" a_elementData := F_a_elementData.other W2 (Or.inr (slot_ne (Or.inl (hw _ (List.mem_of_getElem? (i := 41) rfl))) (Or.inl (hw _ (List.mem_of_getElem? (i := 38) rfl))) (by decide) (t := (.array (.object "java/lang/Object"))) (t' := .int) (by decide) (by decide)))
  have F_a_size_2 : Fld Z h2 a "java/util/ArrayList" "size" "I" (.int a_size) := F_a_size.other W2 (Or.inr (slot_ne (Or.inl (hw _ (List.mem_of_getElem? (i := 54) rfl))) (Or.inl (hw _ (List.mem_of_getElem? (i := 38) rfl))) (by decide) (t := .int) (t' := .int) (by decide) (by decide)))
  have Zn2 : n0 ≤ h2.size := Nat.le_trans Z0 (Nat.le_of_eq W2.size.symm)
  have K2 : Keep h0 h2 [a] := K0.wr W2 (Or.inl (List.mem_of_getElem? (i := 0) rfl))
  refine OGo.st (T' := T2) (g' := (mkF m 9 #[.val (.ref a)] [])) (fun _ k => st2 _ k) ?_
  exact OGo.retV X2 hx hlk Bd.returns (hb hby own_d_jdk_39_method_1_9) (by decide) (by decide) e2 (⟨rfl, N2, K2, F_a_modCount_2, F_a_elementData_2, F_a_size_2⟩)
theorem own_ef_rmAI (m : MethodId) (x0 : Addr) : entryFrame m #[(.ref x0)] 1 = mkF m 0 #[.val (.ref x0)] [] := by first | (simp [entryFrame, mkF, argsToLocals, Value.category]; done) | rfl
def R_rmAI : Room := { frames := 3, cells := 0, slots := 0, locals := 36 }
def Q_rmAI (Z : State) (a : Addr) (a_modCount : Int32) (a_elementData : Value) (a_size : Int32) (ed : Addr) (h0 : Heap) (n0 : Nat) (v : Option Value) (h : Heap) (L : List Loc) : Prop := v = none ∧ Fr n0 L ∧ Keep h0 h [a] ∧ Fld Z h a "java/util/AbstractList" "modCount" "I" (.int (0 : Int32)) ∧ Fld Z h a "java/util/ArrayList" "elementData" "[Ljava/lang/Object;" (.ref ed) ∧ Fld Z h a "java/util/ArrayList" "size" "I" (.int a_size)
set_option maxRecDepth 65536 in
set_option maxHeartbeats 40000000 in
theorem rmAI (l : Launch) (Z : State) (a0 : Array Value) (hw : ∀ d ∈ tables_1, d.before a0 Z = true) (ws : List Jvm.Cond) (a : Addr) (a_modCount : Int32) (a_elementData : Value) (a_size : Int32) (ed : Addr) (h0 : Heap) (n0 : Nat) (Z0 : n0 ≤ h0.size) (E_a : Exa Z h0 a "java/util/ArrayList") (F_a_modCount : Fld Z h0 a "java/util/AbstractList" "modCount" "I" (.int a_modCount)) (F_a_elementData : Fld Z h0 a "java/util/ArrayList" "elementData" "[Ljava/lang/Object;" a_elementData) (F_a_size : Fld Z h0 a "java/util/ArrayList" "size" "I" (.int a_size)) (g_a : n0 ≤ a) (OLD : Old Z n0 h0) (S_ed : Sta Z Z.heap "java/util/ArrayList" "DEFAULTCAPACITY_EMPTY_ELEMENTDATA" "[Ljava/lang/Object;" (.ref ed)) (A_ed : OArr Z Z.heap ed (.object "java/lang/Object") 0 (fun _ => .null)) :
    MetFree l (⟨"java/util/ArrayList", "<init>", "()V"⟩ : MethodName) (head1 (Jvm.Cond.code (⟨"java/util/ArrayList", "<init>", "()V"⟩ : MethodName) jdk_38_method_2_code 1 none :: ws) R_rmAI) (fun vs_ U => vs_ = #[(.ref a)] ∧ Z.Warmed39 U.vm ∧ U.heap = h0) (fun _ _ _ _ _ => True) (fun _ U o U' => ∃ v L, o = .returned v ∧ Q_rmAI Z a a_modCount a_elementData a_size ed h0 n0 v U'.heap L ∧ FrameEnd U o U' L R_rmAI.cells R_rmAI.slots) := by
  refine MetFree.of_bodySF (plainFor_of_name own_pn8) hisR ?_
  intro p e s m args below meth c s₁ Bd hml0 hP hK
  obtain ⟨rfl, hZ, hh⟩ := hP
  have hx := Bd.exec
  have hby := Bd.bytes
  have hml : c.maxLocals = 1 := hml0
  have hown : s.vm.findClass "java/util/ArrayList" = some m.cls := findClass_of_methodNamed Bd.named
  have hnm := (name_of_methodNamed Bd.named Bd.method).1
  have hlk : meth.locks = false := BodyLoose.notSynchronized Bd
  have X0 : Stand p l e R_rmAI s m #[(.ref a)] below meth c s₁ [] 0 0 := Stand.of_body Bd
  have e0 : s₁.heap = h0 := by rw [← hh, Bd.state]; rfl
  have N0 := Fr.nil n0
  have K0 : Keep h0 h0 [a] := Keep.refl _ _
  refine OGo.en (Q := Q_rmAI Z a a_modCount a_elementData a_size ed h0 n0) (C := R_rmAI.cells) (S := R_rmAI.slots) (own_ef_rmAI m a) ?_
  refine OGo.st (T' := s₁) (g' := (mkF m 1 #[.val (.ref a)] [(.ref a)])) (fun _ k => (XS.aloadN X0.here hx rfl (hb hby own_d_jdk_38_method_2_0) rfl rfl k)) ?_
  obtain ⟨_, _, ⟨T1, L1, k1, n1⟩, -, X1, ⟨Lc1, hQ1, l1, y1, z1⟩, st1⟩ := X0.specialBack hx (y := (⟨"java/util/AbstractList", "<init>", "()V"⟩ : MethodName)) rfl hown (mvT hZ (hw _ (List.mem_of_getElem? (i := 24) rfl))) (mvT hZ (hw _ (List.mem_of_getElem? (i := 25) rfl))) (mvT hZ (hw _ (List.mem_of_getElem? (i := 29) rfl))) (by decide) (backOf (W := 0) (rmAbs l Z a0 hw [] (a) (a_modCount) (a_elementData) (a_size) h0 n0 Z0 (E_a) (F_a_modCount) (F_a_elementData) (F_a_size) (g_a)) hZ (hw _ (List.mem_of_getElem? (i := 29) rfl)) (hw _ (List.mem_of_getElem? (i := 28) rfl)) (by decide) (by decide)) (g := (mkF m 1 #[.val (.ref a)] [(.ref a)])) rfl (by rw [hml]; rfl) (Steps.refl _) (a := a) (argsL := []) (rest := []) (lenOf own_pd3 rfl) rfl (by show 2 * 0 + _ ≤ _; exact Nat.le_of_eq rfl) (hb hby own_d_jdk_38_method_2_1) (fun _ _ => ⟨rfl, e0, (by decide : 0 + 0 ≤ _), (by decide : 0 + 0 ≤ _)⟩)
  dsimp only [Pt.U, Pt.locs, Pt.cells, Pt.slots] at X1 l1 y1 z1 st1 hQ1
  subst l1 y1 z1
  have X1 : Stand p l e R_rmAI s m _ below meth c T1 _ 0 0 := X1
  obtain ⟨h1, e1⟩ : ∃ z, T1.heap = z := ⟨_, rfl⟩
  rw [e1] at hQ1
  obtain ⟨rfl, Nq1, Kc1, G1x0, G1x1, G1x2⟩ := hQ1
  have N1 := Fr.app N0 Nq1
  have E_a_1 : Exa Z h1 a "java/util/ArrayList" := E_a.keep Kc1
  have OLD_1 : Old Z n0 h1 := OLD.keep Kc1 (allS g_a all0)
  have Zn1 : n0 ≤ h1.size := Nat.le_trans Z0 Kc1.1
  have K1 : Keep h0 h1 [a] := K0.trans Kc1 (allS (Or.inl (List.mem_of_getElem? (i := 0) rfl)) all0)
  refine OGo.st (T' := T1) (g' := (mkF m 4 #[.val (.ref a)] [])) (fun _ k => st1.trans k) ?_
  refine OGo.st (T' := T1) (g' := (mkF m 5 #[.val (.ref a)] [(.ref a)])) (fun _ k => (XS.aloadN X1.here hx rfl (hb hby own_d_jdk_38_method_2_4) rfl rfl k)) ?_
  obtain ⟨T2, X2, e2, st2⟩ := getS2 X1 hx hZ hown (host := "") (Or.inl (hw _ (List.mem_of_getElem? (i := 39) rfl))) Via.refl e1 (Sta.ext OLD_1.2 S_ed) (g := (mkF m 5 #[.val (.ref a)] [(.ref a)])) rfl (hb hby own_d_jdk_38_method_2_5)
  refine OGo.st (T' := T2) (g' := (mkF m 8 #[.val (.ref a)] [(.ref ed), (.ref a)])) (fun _ k => st2 _ k) ?_
  obtain ⟨T3, h3, X3, e3, W3, st3⟩ := putF X2 hx hZ hown (host := "") (Or.inl (hw _ (List.mem_of_getElem? (i := 40) rfl))) Via.refl e2 G1x1 E_a_1 (Or.inl (hw _ (List.mem_of_getElem? (i := 41) rfl))) (hw _ (List.mem_of_getElem? (i := 19) rfl)) (ty := (.array (.object "java/lang/Object"))) (by decide) rfl rfl (g := (mkF m 8 #[.val (.ref a)] [(.ref ed), (.ref a)])) rfl rfl (hb hby own_d_jdk_38_method_2_8)
  have G1x1_3 : Fld Z h3 a "java/util/ArrayList" "elementData" "[Ljava/lang/Object;" (.ref ed) := G1x1.same W3
  have N3 := Fr.snoc X3 N1 g_a
  have E_a_3 : Exa Z h3 a "java/util/ArrayList" := E_a_1.wr W3
  have OLD_3 : Old Z n0 h3 := OLD_1.wr W3 g_a
  have G1x0_3 : Fld Z h3 a "java/util/AbstractList" "modCount" "I" (.int (0 : Int32)) := G1x0.other W3 (Or.inr (slot_ne (Or.inl (hw _ (List.mem_of_getElem? (i := 38) rfl))) (Or.inl (hw _ (List.mem_of_getElem? (i := 41) rfl))) (by decide) (t := .int) (t' := (.array (.object "java/lang/Object"))) (by decide) (by decide)))
  have G1x2_3 : Fld Z h3 a "java/util/ArrayList" "size" "I" (.int a_size) := G1x2.other W3 (Or.inr (slot_ne (Or.inl (hw _ (List.mem_of_getElem? (i := 54) rfl))) (Or.inl (hw _ (List.mem_of_getElem? (i := 41) rfl))) (by decide) (t := .int) (t' := (.array (.object "java/lang/Object"))) (by decide) (by decide)))
  have Zn3 : n0 ≤ h3.size := Nat.le_trans Zn1 (Nat.le_of_eq W3.size.symm)
  have K3 : Keep h0 h3 [a] := K1.wr W3 (Or.inl (List.mem_of_getElem? (i := 0) rfl))
  refine OGo.st (T' := T3) (g' := (mkF m 11 #[.val (.ref a)] [])) (fun _ k => st3 _ k) ?_
  exact OGo.retV X3 hx hlk Bd.returns (hb hby own_d_jdk_38_method_2_11) (by decide) (by decide) e3 (⟨rfl, N3, K3, G1x0_3, G1x1_3, G1x2_3⟩)
theorem own_ef_rmMax (m : MethodId) (x0 : Int32) (x1 : Int32) : entryFrame m #[(.int x0), (.int x1)] 2 = mkF m 0 #[.val (.int x0), .val (.int x1)] [] := by first | (simp [entryFrame, mkF, argsToLocals, Value.category]; done) | rfl
def R_rmMax : Room := { frames := 0, cells := 0, slots := 0, locals := 0 }
def Q_rmMax (Z : State)  (h0 : Heap) (n0 : Nat) (v : Option Value) (h : Heap) (L : List Loc) : Prop := v = some (.int (10 : Int32)) ∧ Fr n0 L ∧ h = h0
set_option maxRecDepth 65536 in
set_option maxHeartbeats 40000000 in
theorem rmMax (l : Launch) (Z : State) (a0 : Array Value) (hw : ∀ d ∈ tables_1, d.before a0 Z = true) (ws : List Jvm.Cond)  (h0 : Heap) (n0 : Nat) (Z0 : n0 ≤ h0.size) :
    MetFree l (⟨"java/lang/Math", "max", "(II)I"⟩ : MethodName) (head1 (Jvm.Cond.code (⟨"java/lang/Math", "max", "(II)I"⟩ : MethodName) jdk_29_method_65_code 2 (some .int) :: ws) R_rmMax) (fun vs_ U => vs_ = #[(.int (10 : Int32)), (.int (1 : Int32))] ∧ Z.Warmed39 U.vm ∧ U.heap = h0) (fun _ _ _ _ _ => True) (fun _ U o U' => ∃ v L, o = .returned v ∧ Q_rmMax Z  h0 n0 v U'.heap L ∧ FrameEnd U o U' L R_rmMax.cells R_rmMax.slots) := by
  refine MetFree.of_bodySF (Jvm.Free.JP.mathPlain rfl (by decide +kernel)) hisR ?_
  intro p e s m args below meth c s₁ Bd hml0 hP hK
  obtain ⟨rfl, hZ, hh⟩ := hP
  have hx := Bd.exec
  have hby := Bd.bytes
  have hml : c.maxLocals = 2 := hml0
  have hown : s.vm.findClass "java/lang/Math" = some m.cls := findClass_of_methodNamed Bd.named
  have hnm := (name_of_methodNamed Bd.named Bd.method).1
  have hlk : meth.locks = false := BodyLoose.notSynchronized Bd
  have X0 : Stand p l e R_rmMax s m #[(.int (10 : Int32)), (.int (1 : Int32))] below meth c s₁ [] 0 0 := Stand.of_body Bd
  have e0 : s₁.heap = h0 := by rw [← hh, Bd.state]; rfl
  have N0 := Fr.nil n0
  refine OGo.en (Q := Q_rmMax Z  h0 n0) (C := R_rmMax.cells) (S := R_rmMax.slots) (own_ef_rmMax m (10 : Int32) (1 : Int32)) ?_
  refine OGo.st (T' := s₁) (g' := (mkF m 10 #[.val (.int (10 : Int32)), .val (.int (1 : Int32))] [(.int (10 : Int32))])) (fun _ k => (XS.iloadN X0.here hx rfl (hb hby own_d_jdk_29_method_65_0) rfl (XS.iloadN X0.here hx rfl (hb hby own_d_jdk_29_method_65_1) rfl (XS.icmpNo X0.here hx rfl (hb hby own_d_jdk_29_method_65_2) rfl (flt (by decide : ¬ ((10 : Int32) < (1 : Int32)))).1 (XS.iloadN X0.here hx rfl (hb hby own_d_jdk_29_method_65_5) rfl (XS.goto X0.here hx rfl (pc0 := 6) (pc' := 10) rfl (hb hby own_d_jdk_29_method_65_6) (by decide) (by decide) k)))))) ?_
  exact OGo.ret X0 hx hlk Bd.returns rfl (own_rI (Or.inl rfl)) (hb hby own_d_jdk_29_method_65_10) (by decide) (by decide) e0 (⟨rfl, N0, rfl⟩)
theorem own_ef_rmGrI (m : MethodId) (x0 : Addr) (x1 : Int32) : entryFrame m #[(.ref x0), (.int x1)] 4 = mkF m 0 #[.val (.ref x0), .val (.int x1), .unset, .unset] [] := by first | (simp [entryFrame, mkF, argsToLocals, Value.category]; done) | rfl
def R_rmGrI : Room := { frames := 1, cells := 1, slots := 10, locals := 14 }
def Q_rmGrI (Z : State) (a : Addr) (a_modCount : Int32) (ed : Addr) (h0 : Heap) (n0 : Nat) (v : Option Value) (h : Heap) (L : List Loc) : Prop := ∃ b5 : Addr, v = some (.ref b5) ∧ Fr n0 L ∧ Keep h0 h [a] ∧ h0.size ≤ b5 ∧ Fld Z h a "java/util/AbstractList" "modCount" "I" (.int a_modCount) ∧ Fld Z h a "java/util/ArrayList" "elementData" "[Ljava/lang/Object;" (.ref b5) ∧ Fld Z h a "java/util/ArrayList" "size" "I" (.int (0 : Int32)) ∧ OArrR Z h b5 10 (own_L Value.null ([.null, .null, .null, .null, .null, .null, .null, .null, .null, .null] : List Value))
set_option maxRecDepth 65536 in
set_option maxHeartbeats 40000000 in
theorem rmGrI (l : Launch) (Z : State) (a0 : Array Value) (hw : ∀ d ∈ tables_1, d.before a0 Z = true) (ws : List Jvm.Cond) (a : Addr) (a_modCount : Int32) (ed : Addr) (h0 : Heap) (n0 : Nat) (Z0 : n0 ≤ h0.size) (E_a : Exa Z h0 a "java/util/ArrayList") (F_a_modCount : Fld Z h0 a "java/util/AbstractList" "modCount" "I" (.int a_modCount)) (F_a_elementData : Fld Z h0 a "java/util/ArrayList" "elementData" "[Ljava/lang/Object;" (.ref ed)) (F_a_size : Fld Z h0 a "java/util/ArrayList" "size" "I" (.int (0 : Int32))) (g_a : n0 ≤ a) (OLD : Old Z n0 h0) (S_ed : Sta Z Z.heap "java/util/ArrayList" "DEFAULTCAPACITY_EMPTY_ELEMENTDATA" "[Ljava/lang/Object;" (.ref ed)) (A_ed : OArr Z Z.heap ed (.object "java/lang/Object") 0 (fun _ => .null)) :
    MetFree l (⟨"java/util/ArrayList", "grow", "(I)[Ljava/lang/Object;"⟩ : MethodName) (head1 (Jvm.Cond.code (⟨"java/util/ArrayList", "grow", "(I)[Ljava/lang/Object;"⟩ : MethodName) jdk_38_method_6_code 4 (some (.array (.object "java/lang/Object"))) :: ws) R_rmGrI) (fun vs_ U => vs_ = #[(.ref a), (.int (1 : Int32))] ∧ Z.Warmed39 U.vm ∧ U.heap = h0) (fun _ _ _ _ _ => True) (fun _ U o U' => ∃ v L, o = .returned v ∧ Q_rmGrI Z a a_modCount ed h0 n0 v U'.heap L ∧ FrameEnd U o U' L R_rmGrI.cells R_rmGrI.slots) := by
  refine MetFree.of_bodySF (plainFor_of_name own_pn8) hisR ?_
  intro p e s m args below meth c s₁ Bd hml0 hP hK
  obtain ⟨rfl, hZ, hh⟩ := hP
  have hx := Bd.exec
  have hby := Bd.bytes
  have hml : c.maxLocals = 4 := hml0
  have hown : s.vm.findClass "java/util/ArrayList" = some m.cls := findClass_of_methodNamed Bd.named
  have hnm := (name_of_methodNamed Bd.named Bd.method).1
  have hlk : meth.locks = false := BodyLoose.notSynchronized Bd
  have X0 : Stand p l e R_rmGrI s m #[(.ref a), (.int (1 : Int32))] below meth c s₁ [] 0 0 := Stand.of_body Bd
  have e0 : s₁.heap = h0 := by rw [← hh, Bd.state]; rfl
  have N0 := Fr.nil n0
  have K0 : Keep h0 h0 [a] := Keep.refl _ _
  refine OGo.en (Q := Q_rmGrI Z a a_modCount ed h0 n0) (C := R_rmGrI.cells) (S := R_rmGrI.slots) (own_ef_rmGrI m a (1 : Int32)) ?_
  refine OGo.st (T' := s₁) (g' := (mkF m 1 #[.val (.ref a), .val (.int (1 : Int32)), .unset, .unset] [(.ref a)])) (fun _ k => (XS.aloadN X0.here hx rfl (hb hby own_d_jdk_38_method_6_0) rfl rfl k)) ?_
  obtain ⟨T1, X1, e1, st1⟩ := getF X0 hx hZ hown (host := "") (Or.inl (hw _ (List.mem_of_getElem? (i := 40) rfl))) Via.refl e0 F_a_elementData (g := (mkF m 1 #[.val (.ref a), .val (.int (1 : Int32)), .unset, .unset] [(.ref a)])) rfl rfl (hb hby own_d_jdk_38_method_6_1)
  refine OGo.st (T' := T1) (g' := (mkF m 4 #[.val (.ref a), .val (.int (1 : Int32)), .unset, .unset] [(.ref ed)])) (fun _ k => st1 _ k) ?_
  refine OGo.st (T' := T1) (g' := (mkF m 11 #[.val (.ref a), .val (.int (1 : Int32)), .val (.int (0 : Int32)), .unset] [(.ref a)])) (fun _ k => (own_len X1 hx hZ e1 (A_ed.ext OLD.2) (g := (mkF m 4 #[.val (.ref a), .val (.int (1 : Int32)), .unset, .unset] [(.ref ed)])) rfl rfl (hb hby own_d_jdk_38_method_6_4) _ (XS.istoreN X1.here hx rfl (hb hby own_d_jdk_38_method_6_5) rfl (l' := #[.val (.ref a), .val (.int (1 : Int32)), .val (.int (0 : Int32)), .unset]) rfl (XS.iloadN X1.here hx rfl (hb hby own_d_jdk_38_method_6_6) rfl (XS.ifNo X1.here hx rfl (hb hby own_d_jdk_38_method_6_7) rfl ((if0 _ _).trans (flt (by decide : ¬ ((0 : Int32) < (0 : Int32)))).2.2.1) (XS.aloadN X1.here hx rfl (hb hby own_d_jdk_38_method_6_10) rfl rfl k)))))) ?_
  obtain ⟨T2, X2, e2, st2⟩ := getF X1 hx hZ hown (host := "") (Or.inl (hw _ (List.mem_of_getElem? (i := 40) rfl))) Via.refl e1 F_a_elementData (g := (mkF m 11 #[.val (.ref a), .val (.int (1 : Int32)), .val (.int (0 : Int32)), .unset] [(.ref a)])) rfl rfl (hb hby own_d_jdk_38_method_6_11)
  refine OGo.st (T' := T2) (g' := (mkF m 14 #[.val (.ref a), .val (.int (1 : Int32)), .val (.int (0 : Int32)), .unset] [(.ref ed)])) (fun _ k => st2 _ k) ?_
  obtain ⟨T3, X3, e3, st3⟩ := getS2 X2 hx hZ hown (host := "") (Or.inl (hw _ (List.mem_of_getElem? (i := 39) rfl))) Via.refl e2 (Sta.ext OLD.2 S_ed) (g := (mkF m 14 #[.val (.ref a), .val (.int (1 : Int32)), .val (.int (0 : Int32)), .unset] [(.ref ed)])) rfl (hb hby own_d_jdk_38_method_6_14)
  refine OGo.st (T' := T3) (g' := (mkF m 17 #[.val (.ref a), .val (.int (1 : Int32)), .val (.int (0 : Int32)), .unset] [(.ref ed), (.ref ed)])) (fun _ k => st3 _ k) ?_
  refine OGo.st (T' := T3) (g' := (mkF m 49 #[.val (.ref a), .val (.int (1 : Int32)), .val (.int (0 : Int32)), .unset] [(.int (1 : Int32)), (.int (10 : Int32)), (.ref a)])) (fun _ k => (Jvm.RoadKit.acmp (g := (mkF m 17 #[.val (.ref a), .val (.int (1 : Int32)), .val (.int (0 : Int32)), .unset] [(.ref ed), (.ref ed)])) X3 hx rfl rfl rfl (pc0 := 17) (pc' := 45) (same := true) rfl (hb hby own_d_jdk_38_method_6_17) rfl (decide_eq_true rfl) (by decide) (by decide) (XS.aloadN X3.here hx rfl (hb hby own_d_jdk_38_method_6_45) rfl rfl (XS.bipush X3.here hx rfl (hb hby own_d_jdk_38_method_6_46) (XS.iloadN X3.here hx rfl (hb hby own_d_jdk_38_method_6_48) rfl k))))) ?_
  obtain ⟨_, _, ⟨T4, L4, k4, n4⟩, -, X4, ⟨Lc4, hQ4, l4, y4, z4⟩, st4⟩ := Jvm.LawKit.callS X3 hx (y := (⟨"java/lang/Math", "max", "(II)I"⟩ : MethodName)) hown (mvT hZ (hw _ (List.mem_of_getElem? (i := 70) rfl))) (mvT hZ (hw _ (List.mem_of_getElem? (i := 71) rfl))) (mvT hZ (hw _ (List.mem_of_getElem? (i := 72) rfl))) (mvT hZ (hw _ (List.mem_of_getElem? (i := 73) rfl))) (by decide) (backOf (W := 1) (rmMax l Z a0 hw []  h0 n0 Z0 ) hZ (hw _ (List.mem_of_getElem? (i := 73) rfl)) (hw _ (List.mem_of_getElem? (i := 72) rfl)) (by decide) (by decide)) (g := (mkF m 49 #[.val (.ref a), .val (.int (1 : Int32)), .val (.int (0 : Int32)), .unset] [(.int (1 : Int32)), (.int (10 : Int32)), (.ref a)])) rfl (by rw [hml]; rfl) (argsL := [(.int (10 : Int32)), (.int (1 : Int32))]) (rest := [(.ref a)]) (lenOf own_pd7 rfl) rfl (by show 2 * 0 + _ ≤ _; exact Nat.le_of_eq rfl) (hb hby own_d_jdk_38_method_6_49) (fun _ _ => ⟨rfl, e3, (by decide : 0 + 0 ≤ _), (by decide : 0 + 0 ≤ _)⟩)
  dsimp only [Pt.U, Pt.locs, Pt.cells, Pt.slots] at X4 l4 y4 z4 st4 hQ4
  subst l4 y4 z4
  have X4 : Stand p l e R_rmGrI s m _ below meth c T4 _ 0 0 := X4
  obtain ⟨rfl, Nq4, e4⟩ := hQ4
  have N4 := Fr.app N0 Nq4
  refine OGo.st (T' := T4) (g' := (mkF m 52 #[.val (.ref a), .val (.int (1 : Int32)), .val (.int (0 : Int32)), .unset] [(.int (10 : Int32)), (.ref a)])) (fun _ k => st4 _ k) ?_
  obtain ⟨T5, h5, b5, g5, X5, e5, E5, V5, st5⟩ := own_newR X4 hx hZ hown (hw _ (List.mem_of_getElem? (i := 74) rfl)) (hw _ (List.mem_of_getElem? (i := 75) rfl)) e4 (g := (mkF m 52 #[.val (.ref a), .val (.int (1 : Int32)), .val (.int (0 : Int32)), .unset] [(.int (10 : Int32)), (.ref a)])) rfl (hb hby own_d_jdk_38_method_6_52) rfl (n := 10) ⟨by decide, by decide⟩ (cap := 10) (by decide) (by decide) (by decide) (by decide)
  have ne_a_b5 : a ≠ b5 := Nat.ne_of_lt (Nat.lt_of_lt_of_le E_a.lt (Nat.le_of_eq g5.symm))
  have ne_ed_b5 : ed ≠ b5 := Nat.ne_of_lt (Nat.lt_of_lt_of_le (A_ed.ext OLD.2).lt (Nat.le_of_eq g5.symm))
  have g_b5 : n0 ≤ b5 := Nat.le_trans Z0 (Nat.le_of_eq g5.symm)
  have sz_b5 : h0.size ≤ b5 := Nat.le_trans K0.1 (Nat.le_of_eq g5.symm)
  have A5 : OArrR Z h5 b5 10 (own_L Value.null ([.null, .null, .null, .null, .null, .null, .null, .null, .null, .null] : List Value)) := V5.cast (fun j _ => own_L_rep Value.null 10 j)
  have E_a_5 : Exa Z h5 a "java/util/ArrayList" := E_a.ext E5
  have F_a_modCount_5 : Fld Z h5 a "java/util/AbstractList" "modCount" "I" (.int a_modCount) := F_a_modCount.ext E5
  have F_a_elementData_5 : Fld Z h5 a "java/util/ArrayList" "elementData" "[Ljava/lang/Object;" (.ref ed) := F_a_elementData.ext E5
  have F_a_size_5 : Fld Z h5 a "java/util/ArrayList" "size" "I" (.int (0 : Int32)) := F_a_size.ext E5
  have OLD_5 : Old Z n0 h5 := OLD.ext E5
  have Zn5 : n0 ≤ h5.size := Nat.le_trans Z0 E5.1
  have K5 : Keep h0 h5 [a] := K0.ext E5
  have X5 : Stand p l e R_rmGrI s m _ below meth c T5 _ 1 10 := X5
  refine OGo.st (T' := T5) (g' := (mkF m 55 #[.val (.ref a), .val (.int (1 : Int32)), .val (.int (0 : Int32)), .unset] [(.ref b5), (.ref a)])) (fun _ k => st5 _ k) ?_
  refine OGo.st (T' := T5) (g' := (mkF m 56 #[.val (.ref a), .val (.int (1 : Int32)), .val (.int (0 : Int32)), .unset] [(.ref b5), (.ref a), (.ref b5)])) (fun _ k => (XS.dupX1 X5.here hx rfl (hb hby own_d_jdk_38_method_6_55) rfl rfl rfl k)) ?_
  obtain ⟨T6, h6, X6, e6, W6, st6⟩ := putF X5 hx hZ hown (host := "") (Or.inl (hw _ (List.mem_of_getElem? (i := 40) rfl))) Via.refl e5 F_a_elementData_5 E_a_5 (Or.inl (hw _ (List.mem_of_getElem? (i := 41) rfl))) (hw _ (List.mem_of_getElem? (i := 19) rfl)) (ty := (.array (.object "java/lang/Object"))) (by decide) rfl rfl (g := (mkF m 56 #[.val (.ref a), .val (.int (1 : Int32)), .val (.int (0 : Int32)), .unset] [(.ref b5), (.ref a), (.ref b5)])) rfl rfl (hb hby own_d_jdk_38_method_6_56)
  have F_a_elementData_6 : Fld Z h6 a "java/util/ArrayList" "elementData" "[Ljava/lang/Object;" (.ref b5) := F_a_elementData_5.same W6
  have N6 := Fr.snoc X6 N4 g_a
  have E_a_6 : Exa Z h6 a "java/util/ArrayList" := E_a_5.wr W6
  have F_a_modCount_6 : Fld Z h6 a "java/util/AbstractList" "modCount" "I" (.int a_modCount) := F_a_modCount_5.other W6 (Or.inr (slot_ne (Or.inl (hw _ (List.mem_of_getElem? (i := 38) rfl))) (Or.inl (hw _ (List.mem_of_getElem? (i := 41) rfl))) (by decide) (t := .int) (t' := (.array (.object "java/lang/Object"))) (by decide) (by decide)))
  have F_a_size_6 : Fld Z h6 a "java/util/ArrayList" "size" "I" (.int (0 : Int32)) := F_a_size_5.other W6 (Or.inr (slot_ne (Or.inl (hw _ (List.mem_of_getElem? (i := 54) rfl))) (Or.inl (hw _ (List.mem_of_getElem? (i := 41) rfl))) (by decide) (t := .int) (t' := (.array (.object "java/lang/Object"))) (by decide) (by decide)))
  have OLD_6 : Old Z n0 h6 := OLD_5.wr W6 g_a
  have A5_6 : OArrR Z h6 b5 10 (own_L Value.null ([.null, .null, .null, .null, .null, .null, .null, .null, .null, .null] : List Value)) := A5.other W6 (Ne.symm ne_a_b5)
  have Zn6 : n0 ≤ h6.size := Nat.le_trans Zn5 (Nat.le_of_eq W6.size.symm)
  have K6 : Keep h0 h6 [a] := K5.wr W6 (Or.inl (List.mem_of_getElem? (i := 0) rfl))
  refine OGo.st (T' := T6) (g' := (mkF m 59 #[.val (.ref a), .val (.int (1 : Int32)), .val (.int (0 : Int32)), .unset] [(.ref b5)])) (fun _ k => st6 _ k) ?_
  exact OGo.ret X6 hx hlk Bd.returns rfl (own_rR rfl rfl) (hb hby own_d_jdk_38_method_6_59) (by decide) (by decide) e6 (⟨b5, rfl, N6, K6, sz_b5, F_a_modCount_6, F_a_elementData_6, F_a_size_6, A5_6⟩)
theorem own_ef_rmGr (m : MethodId) (x0 : Addr) : entryFrame m #[(.ref x0)] 1 = mkF m 0 #[.val (.ref x0)] [] := by first | (simp [entryFrame, mkF, argsToLocals, Value.category]; done) | rfl
def R_rmGr : Room := { frames := 2, cells := 1, slots := 10, locals := 29 }
def Q_rmGr (Z : State) (a : Addr) (a_modCount : Int32) (ed : Addr) (h0 : Heap) (n0 : Nat) (v : Option Value) (h : Heap) (L : List Loc) : Prop := ∃ b2 : Addr, v = some (.ref b2) ∧ Fr n0 L ∧ Keep h0 h [a] ∧ h0.size ≤ b2 ∧ Fld Z h a "java/util/AbstractList" "modCount" "I" (.int a_modCount) ∧ Fld Z h a "java/util/ArrayList" "elementData" "[Ljava/lang/Object;" (.ref b2) ∧ Fld Z h a "java/util/ArrayList" "size" "I" (.int (0 : Int32)) ∧ OArrR Z h b2 10 (own_L Value.null ([.null, .null, .null, .null, .null, .null, .null, .null, .null, .null] : List Value))
set_option maxRecDepth 65536 in
set_option maxHeartbeats 40000000 in
theorem rmGr (l : Launch) (Z : State) (a0 : Array Value) (hw : ∀ d ∈ tables_1, d.before a0 Z = true) (ws : List Jvm.Cond) (a : Addr) (a_modCount : Int32) (ed : Addr) (h0 : Heap) (n0 : Nat) (Z0 : n0 ≤ h0.size) (E_a : Exa Z h0 a "java/util/ArrayList") (F_a_modCount : Fld Z h0 a "java/util/AbstractList" "modCount" "I" (.int a_modCount)) (F_a_elementData : Fld Z h0 a "java/util/ArrayList" "elementData" "[Ljava/lang/Object;" (.ref ed)) (F_a_size : Fld Z h0 a "java/util/ArrayList" "size" "I" (.int (0 : Int32))) (g_a : n0 ≤ a) (OLD : Old Z n0 h0) (S_ed : Sta Z Z.heap "java/util/ArrayList" "DEFAULTCAPACITY_EMPTY_ELEMENTDATA" "[Ljava/lang/Object;" (.ref ed)) (A_ed : OArr Z Z.heap ed (.object "java/lang/Object") 0 (fun _ => .null)) :
    MetFree l (⟨"java/util/ArrayList", "grow", "()[Ljava/lang/Object;"⟩ : MethodName) (head1 (Jvm.Cond.code (⟨"java/util/ArrayList", "grow", "()[Ljava/lang/Object;"⟩ : MethodName) jdk_38_method_7_code 1 (some (.array (.object "java/lang/Object"))) :: ws) R_rmGr) (fun vs_ U => vs_ = #[(.ref a)] ∧ Z.Warmed39 U.vm ∧ U.heap = h0) (fun _ _ _ _ _ => True) (fun _ U o U' => ∃ v L, o = .returned v ∧ Q_rmGr Z a a_modCount ed h0 n0 v U'.heap L ∧ FrameEnd U o U' L R_rmGr.cells R_rmGr.slots) := by
  refine MetFree.of_bodySF (plainFor_of_name own_pn8) hisR ?_
  intro p e s m args below meth c s₁ Bd hml0 hP hK
  obtain ⟨rfl, hZ, hh⟩ := hP
  have hx := Bd.exec
  have hby := Bd.bytes
  have hml : c.maxLocals = 1 := hml0
  have hown : s.vm.findClass "java/util/ArrayList" = some m.cls := findClass_of_methodNamed Bd.named
  have hnm := (name_of_methodNamed Bd.named Bd.method).1
  have hlk : meth.locks = false := BodyLoose.notSynchronized Bd
  have X0 : Stand p l e R_rmGr s m #[(.ref a)] below meth c s₁ [] 0 0 := Stand.of_body Bd
  have e0 : s₁.heap = h0 := by rw [← hh, Bd.state]; rfl
  have N0 := Fr.nil n0
  have K0 : Keep h0 h0 [a] := Keep.refl _ _
  refine OGo.en (Q := Q_rmGr Z a a_modCount ed h0 n0) (C := R_rmGr.cells) (S := R_rmGr.slots) (own_ef_rmGr m a) ?_
  refine OGo.st (T' := s₁) (g' := (mkF m 2 #[.val (.ref a)] [(.ref a), (.ref a)])) (fun _ k => (XS.aloadN X0.here hx rfl (hb hby own_d_jdk_38_method_7_0) rfl rfl (XS.aloadN X0.here hx rfl (hb hby own_d_jdk_38_method_7_1) rfl rfl k))) ?_
  obtain ⟨T1, X1, e1, st1⟩ := getF X0 hx hZ hown (host := "") (Or.inl (hw _ (List.mem_of_getElem? (i := 53) rfl))) Via.refl e0 F_a_size (g := (mkF m 2 #[.val (.ref a)] [(.ref a), (.ref a)])) rfl rfl (hb hby own_d_jdk_38_method_7_2)
  refine OGo.st (T' := T1) (g' := (mkF m 5 #[.val (.ref a)] [(.int (0 : Int32)), (.ref a)])) (fun _ k => st1 _ k) ?_
  refine OGo.st (T' := T1) (g' := (mkF m 7 #[.val (.ref a)] [(.int (1 : Int32)), (.ref a)])) (fun _ k => (XS.iconst X1.here hx rfl (hb hby own_d_jdk_38_method_7_5) (XS.iadd X1.here hx rfl (hb hby own_d_jdk_38_method_7_6) rfl k))) ?_
  obtain ⟨cq2, q2, q2'⟩ := E_a.cell
  obtain ⟨_, _, ⟨T2, L2, k2, n2⟩, -, X2, ⟨Lc2, hQ2, l2, y2, z2⟩, st2⟩ := X1.privateBack hx (y := (⟨"java/util/ArrayList", "grow", "(I)[Ljava/lang/Object;"⟩ : MethodName)) hown (mvT hZ (hw _ (List.mem_of_getElem? (i := 65) rfl))) (mvT hZ (hw _ (List.mem_of_getElem? (i := 66) rfl))) (mvT hZ (hw _ (List.mem_of_getElem? (i := 68) rfl))) (Cond.privateMethod_at (mvP hZ (hw _ (List.mem_of_getElem? (i := 67) rfl)) (args := #[]))) (mvT hZ (hw _ (List.mem_of_getElem? (i := 69) rfl))) (by decide) (backOf (W := 0) (rmGrI l Z a0 hw [] (a) (a_modCount) (ed) h0 n0 Z0 (E_a) (F_a_modCount) (F_a_elementData) (F_a_size) (g_a) (OLD) (S_ed) (A_ed)) hZ (hw _ (List.mem_of_getElem? (i := 69) rfl)) (hw _ (List.mem_of_getElem? (i := 20) rfl)) (by decide) (by decide)) (g := (mkF m 7 #[.val (.ref a)] [(.int (1 : Int32)), (.ref a)])) rfl (by rw [hml]; rfl) (Steps.refl _) (a := a) (by rw [e1]; exact q2) q2' (argsL := [(.int (1 : Int32))]) (rest := []) (lenOf own_pd6 rfl) rfl (by show 2 * 0 + _ ≤ _; exact Nat.le_of_eq rfl) (hb hby own_d_jdk_38_method_7_7) (fun _ _ => ⟨rfl, e1, (by decide : 0 + 1 ≤ _), (by decide : 0 + 10 ≤ _)⟩)
  dsimp only [Pt.U, Pt.locs, Pt.cells, Pt.slots] at X2 l2 y2 z2 st2 hQ2
  subst l2 y2 z2
  have X2 : Stand p l e R_rmGr s m _ below meth c T2 _ 1 10 := X2
  obtain ⟨h2, e2⟩ : ∃ z, T2.heap = z := ⟨_, rfl⟩
  rw [e2] at hQ2
  obtain ⟨b2, rfl, Nq2, Kc2, sz_b2, G2x0, G2x1, G2x2, G2x3⟩ := hQ2
  have N2 := Fr.app N0 Nq2
  have ne_a_b2 : a ≠ b2 := Nat.ne_of_lt (Nat.lt_of_lt_of_le E_a.lt sz_b2)
  have ne_ed_b2 : ed ≠ b2 := Nat.ne_of_lt (Nat.lt_of_lt_of_le (A_ed.ext OLD.2).lt sz_b2)
  have g_b2 : n0 ≤ b2 := Nat.le_trans Z0 sz_b2
  have sq_b2 : h0.size ≤ b2 := Nat.le_trans K0.1 sz_b2
  have E_a_2 : Exa Z h2 a "java/util/ArrayList" := E_a.keep Kc2
  have OLD_2 : Old Z n0 h2 := OLD.keep Kc2 (allS g_a all0)
  have Zn2 : n0 ≤ h2.size := Nat.le_trans Z0 Kc2.1
  have K2 : Keep h0 h2 [a] := K0.trans Kc2 (allS (Or.inl (List.mem_of_getElem? (i := 0) rfl)) all0)
  refine OGo.st (T' := T2) (g' := (mkF m 10 #[.val (.ref a)] [(.ref b2)])) (fun _ k => st2.trans k) ?_
  exact OGo.ret X2 hx hlk Bd.returns rfl (own_rR rfl rfl) (hb hby own_d_jdk_38_method_7_10) (by decide) (by decide) e2 (⟨b2, rfl, N2, K2, sq_b2, G2x0, G2x1, G2x2, G2x3⟩)
theorem own_ef_rmPa0 (m : MethodId) (x0 : Addr) (x1 : Addr) (x2 : Addr) (x3 : Int32) : entryFrame m #[(.ref x0), (.ref x1), (.ref x2), (.int x3)] 4 = mkF m 0 #[.val (.ref x0), .val (.ref x1), .val (.ref x2), .val (.int x3)] [] := by first | (simp [entryFrame, mkF, argsToLocals, Value.category]; done) | rfl
def R_rmPa0 : Room := { frames := 3, cells := 1, slots := 10, locals := 41 }
def Q_rmPa0 (Z : State) (a : Addr) (a_modCount : Int32) (y : Addr) (ed : Addr) (h0 : Heap) (n0 : Nat) (v : Option Value) (h : Heap) (L : List Loc) : Prop := ∃ b1 : Addr, v = none ∧ Fr n0 L ∧ Keep h0 h [a] ∧ h0.size ≤ b1 ∧ Fld Z h a "java/util/AbstractList" "modCount" "I" (.int a_modCount) ∧ Fld Z h a "java/util/ArrayList" "elementData" "[Ljava/lang/Object;" (.ref b1) ∧ Fld Z h a "java/util/ArrayList" "size" "I" (.int (1 : Int32)) ∧ OArrR Z h b1 10 (own_L Value.null ([(.ref y), .null, .null, .null, .null, .null, .null, .null, .null, .null] : List Value))
set_option maxRecDepth 65536 in
set_option maxHeartbeats 40000000 in
theorem rmPa0 (l : Launch) (Z : State) (a0 : Array Value) (hw : ∀ d ∈ tables_1, d.before a0 Z = true) (ws : List Jvm.Cond) (a : Addr) (a_modCount : Int32) (y : Addr) (ed : Addr) (h0 : Heap) (n0 : Nat) (Z0 : n0 ≤ h0.size) (E_a : Exa Z h0 a "java/util/ArrayList") (F_a_modCount : Fld Z h0 a "java/util/AbstractList" "modCount" "I" (.int a_modCount)) (F_a_elementData : Fld Z h0 a "java/util/ArrayList" "elementData" "[Ljava/lang/Object;" (.ref ed)) (F_a_size : Fld Z h0 a "java/util/ArrayList" "size" "I" (.int (0 : Int32))) (E_y : Exa Z h0 y "com/example/rallypoint/rallypoint/protocol/MultiRequest$Op") (g_a : n0 ≤ a) (ne_a_y : a ≠ y) (OLD : Old Z n0 h0) (S_ed : Sta Z Z.heap "java/util/ArrayList" "DEFAULTCAPACITY_EMPTY_ELEMENTDATA" "[Ljava/lang/Object;" (.ref ed)) (A_ed : OArr Z Z.heap ed (.object "java/lang/Object") 0 (fun _ => .null)) :
    MetFree l (⟨"java/util/ArrayList", "add", "(Ljava/lang/Object;[Ljava/lang/Object;I)V"⟩ : MethodName) (head1 (Jvm.Cond.code (⟨"java/util/ArrayList", "add", "(Ljava/lang/Object;[Ljava/lang/Object;I)V"⟩ : MethodName) jdk_38_method_24_code 4 none :: ws) R_rmPa0) (fun vs_ U => vs_ = #[(.ref a), (.ref y), (.ref ed), (.int (0 : Int32))] ∧ Z.Warmed39 U.vm ∧ U.heap = h0) (fun _ _ _ _ _ => True) (fun _ U o U' => ∃ v L, o = .returned v ∧ Q_rmPa0 Z a a_modCount y ed h0 n0 v U'.heap L ∧ FrameEnd U o U' L R_rmPa0.cells R_rmPa0.slots) := by
  refine MetFree.of_bodySF (plainFor_of_name own_pn8) hisR ?_
  intro p e s m args below meth c s₁ Bd hml0 hP hK
  obtain ⟨rfl, hZ, hh⟩ := hP
  have hx := Bd.exec
  have hby := Bd.bytes
  have hml : c.maxLocals = 4 := hml0
  have hown : s.vm.findClass "java/util/ArrayList" = some m.cls := findClass_of_methodNamed Bd.named
  have hnm := (name_of_methodNamed Bd.named Bd.method).1
  have hlk : meth.locks = false := BodyLoose.notSynchronized Bd
  have X0 : Stand p l e R_rmPa0 s m #[(.ref a), (.ref y), (.ref ed), (.int (0 : Int32))] below meth c s₁ [] 0 0 := Stand.of_body Bd
  have e0 : s₁.heap = h0 := by rw [← hh, Bd.state]; rfl
  have N0 := Fr.nil n0
  have K0 : Keep h0 h0 [a] := Keep.refl _ _
  refine OGo.en (Q := Q_rmPa0 Z a a_modCount y ed h0 n0) (C := R_rmPa0.cells) (S := R_rmPa0.slots) (own_ef_rmPa0 m a y ed (0 : Int32)) ?_
  refine OGo.st (T' := s₁) (g' := (mkF m 2 #[.val (.ref a), .val (.ref y), .val (.ref ed), .val (.int (0 : Int32))] [(.ref ed), (.int (0 : Int32))])) (fun _ k => (XS.iloadN X0.here hx rfl (hb hby own_d_jdk_38_method_24_0) rfl (XS.aloadN X0.here hx rfl (hb hby own_d_jdk_38_method_24_1) rfl rfl k))) ?_
  refine OGo.st (T' := s₁) (g' := (mkF m 7 #[.val (.ref a), .val (.ref y), .val (.ref ed), .val (.int (0 : Int32))] [(.ref a)])) (fun _ k => (own_len X0 hx hZ e0 (A_ed.ext OLD.2) (g := (mkF m 2 #[.val (.ref a), .val (.ref y), .val (.ref ed), .val (.int (0 : Int32))] [(.ref ed), (.int (0 : Int32))])) rfl rfl (hb hby own_d_jdk_38_method_24_2) _ (XS.icmpNo X0.here hx rfl (hb hby own_d_jdk_38_method_24_3) rfl (teq (by decide : (0 : Int32) = (0 : Int32))).2 (XS.aloadN X0.here hx rfl (hb hby own_d_jdk_38_method_24_6) rfl rfl k)))) ?_
  obtain ⟨cq1, q1, q1'⟩ := E_a.cell
  obtain ⟨_, _, ⟨T1, L1, k1, n1⟩, -, X1, ⟨Lc1, hQ1, l1, y1, z1⟩, st1⟩ := X0.privateBack hx (y := (⟨"java/util/ArrayList", "grow", "()[Ljava/lang/Object;"⟩ : MethodName)) hown (mvT hZ (hw _ (List.mem_of_getElem? (i := 60) rfl))) (mvT hZ (hw _ (List.mem_of_getElem? (i := 61) rfl))) (mvT hZ (hw _ (List.mem_of_getElem? (i := 63) rfl))) (Cond.privateMethod_at (mvP hZ (hw _ (List.mem_of_getElem? (i := 62) rfl)) (args := #[]))) (mvT hZ (hw _ (List.mem_of_getElem? (i := 64) rfl))) (by decide) (backOf (W := 0) (rmGr l Z a0 hw [] (a) (a_modCount) (ed) h0 n0 Z0 (E_a) (F_a_modCount) (F_a_elementData) (F_a_size) (g_a) (OLD) (S_ed) (A_ed)) hZ (hw _ (List.mem_of_getElem? (i := 64) rfl)) (hw _ (List.mem_of_getElem? (i := 20) rfl)) (by decide) (by decide)) (g := (mkF m 7 #[.val (.ref a), .val (.ref y), .val (.ref ed), .val (.int (0 : Int32))] [(.ref a)])) rfl (by rw [hml]; rfl) (Steps.refl _) (a := a) (by rw [e0]; exact q1) q1' (argsL := []) (rest := []) (lenOf own_pd4 rfl) rfl (by show 2 * 0 + _ ≤ _; exact Nat.le_of_eq rfl) (hb hby own_d_jdk_38_method_24_7) (fun _ _ => ⟨rfl, e0, (by decide : 0 + 1 ≤ _), (by decide : 0 + 10 ≤ _)⟩)
  dsimp only [Pt.U, Pt.locs, Pt.cells, Pt.slots] at X1 l1 y1 z1 st1 hQ1
  subst l1 y1 z1
  have X1 : Stand p l e R_rmPa0 s m _ below meth c T1 _ 1 10 := X1
  obtain ⟨h1, e1⟩ : ∃ z, T1.heap = z := ⟨_, rfl⟩
  rw [e1] at hQ1
  obtain ⟨b1, rfl, Nq1, Kc1, sz_b1, G1x0, G1x1, G1x2, G1x3⟩ := hQ1
  have N1 := Fr.app N0 Nq1
  have ne_a_b1 : a ≠ b1 := Nat.ne_of_lt (Nat.lt_of_lt_of_le E_a.lt sz_b1)
  have ne_y_b1 : y ≠ b1 := Nat.ne_of_lt (Nat.lt_of_lt_of_le E_y.lt sz_b1)
  have ne_ed_b1 : ed ≠ b1 := Nat.ne_of_lt (Nat.lt_of_lt_of_le (A_ed.ext OLD.2).lt sz_b1)
  have g_b1 : n0 ≤ b1 := Nat.le_trans Z0 sz_b1
  have sq_b1 : h0.size ≤ b1 := Nat.le_trans K0.1 sz_b1
  have E_a_1 : Exa Z h1 a "java/util/ArrayList" := E_a.keep Kc1
  have E_y_1 : Exa Z h1 y "com/example/rallypoint/rallypoint/protocol/MultiRequest$Op" := E_y.keep Kc1
  have OLD_1 : Old Z n0 h1 := OLD.keep Kc1 (allS g_a all0)
  have Zn1 : n0 ≤ h1.size := Nat.le_trans Z0 Kc1.1
  have K1 : Keep h0 h1 [a] := K0.trans Kc1 (allS (Or.inl (List.mem_of_getElem? (i := 0) rfl)) all0)
  refine OGo.st (T' := T1) (g' := (mkF m 10 #[.val (.ref a), .val (.ref y), .val (.ref ed), .val (.int (0 : Int32))] [(.ref b1)])) (fun _ k => st1.trans k) ?_
  refine OGo.st (T' := T1) (g' := (mkF m 14 #[.val (.ref a), .val (.ref y), .val (.ref b1), .val (.int (0 : Int32))] [(.ref y), (.int (0 : Int32)), (.ref b1)])) (fun _ k => (XS.astoreN X1.here hx rfl (hb hby own_d_jdk_38_method_24_10) rfl rfl (l' := #[.val (.ref a), .val (.ref y), .val (.ref b1), .val (.int (0 : Int32))]) rfl (XS.aloadN X1.here hx rfl (hb hby own_d_jdk_38_method_24_11) rfl rfl (XS.iloadN X1.here hx rfl (hb hby own_d_jdk_38_method_24_12) rfl (XS.aloadN X1.here hx rfl (hb hby own_d_jdk_38_method_24_13) rfl rfl k))))) ?_
  obtain ⟨T2, h2, X2, e2, W2, V2, st2⟩ := own_stR X1 hx hZ e1 G1x3 (Ins.of_exa E_y_1 (hw _ (List.mem_of_getElem? (i := 76) rfl))) (j := (0 : Int32)) (i := 0) ⟨by decide, by decide⟩ (by decide) (g := (mkF m 14 #[.val (.ref a), .val (.ref y), .val (.ref b1), .val (.int (0 : Int32))] [(.ref y), (.int (0 : Int32)), (.ref b1)])) rfl rfl (hb hby own_d_jdk_38_method_24_14)
  have Ab1_2 : OArrR Z h2 b1 10 (own_L Value.null ([(.ref y), .null, .null, .null, .null, .null, .null, .null, .null, .null] : List Value)) := V2.cast (fun j _ => own_L_set Value.null ([.null, .null, .null, .null, .null, .null, .null, .null, .null, .null] : List Value) 0 (.ref y) (Nat.le_of_ble_eq_true rfl) j)
  have N2 := Fr.snoc X2 N1 g_b1
  have E_a_2 : Exa Z h2 a "java/util/ArrayList" := E_a_1.wr W2
  have E_y_2 : Exa Z h2 y "com/example/rallypoint/rallypoint/protocol/MultiRequest$Op" := E_y_1.wr W2
  have OLD_2 : Old Z n0 h2 := OLD_1.wr W2 g_b1
  have G1x0_2 : Fld Z h2 a "java/util/AbstractList" "modCount" "I" (.int a_modCount) := G1x0.other W2 (Or.inl ne_a_b1)
  have G1x1_2 : Fld Z h2 a "java/util/ArrayList" "elementData" "[Ljava/lang/Object;" (.ref b1) := G1x1.other W2 (Or.inl ne_a_b1)
  have G1x2_2 : Fld Z h2 a "java/util/ArrayList" "size" "I" (.int (0 : Int32)) := G1x2.other W2 (Or.inl ne_a_b1)
  have Zn2 : n0 ≤ h2.size := Nat.le_trans Zn1 (Nat.le_of_eq W2.size.symm)
  have K2 : Keep h0 h2 [a] := K1.wr W2 (Or.inr sq_b1)
  refine OGo.st (T' := T2) (g' := (mkF m 15 #[.val (.ref a), .val (.ref y), .val (.ref b1), .val (.int (0 : Int32))] [])) (fun _ k => st2 _ k) ?_
  refine OGo.st (T' := T2) (g' := (mkF m 19 #[.val (.ref a), .val (.ref y), .val (.ref b1), .val (.int (0 : Int32))] [(.int (1 : Int32)), (.ref a)])) (fun _ k => (XS.aloadN X2.here hx rfl (hb hby own_d_jdk_38_method_24_15) rfl rfl (XS.iloadN X2.here hx rfl (hb hby own_d_jdk_38_method_24_16) rfl (XS.iconst X2.here hx rfl (hb hby own_d_jdk_38_method_24_17) (XS.iadd X2.here hx rfl (hb hby own_d_jdk_38_method_24_18) rfl k))))) ?_
  obtain ⟨T3, h3, X3, e3, W3, st3⟩ := putF X2 hx hZ hown (host := "") (Or.inl (hw _ (List.mem_of_getElem? (i := 53) rfl))) Via.refl e2 G1x2_2 E_a_2 (Or.inl (hw _ (List.mem_of_getElem? (i := 54) rfl))) (hw _ (List.mem_of_getElem? (i := 19) rfl)) (ty := .int) (by decide) rfl rfl (g := (mkF m 19 #[.val (.ref a), .val (.ref y), .val (.ref b1), .val (.int (0 : Int32))] [(.int (1 : Int32)), (.ref a)])) rfl rfl (hb hby own_d_jdk_38_method_24_19)
  have G1x2_3 : Fld Z h3 a "java/util/ArrayList" "size" "I" (.int (1 : Int32)) := G1x2_2.same W3
  have N3 := Fr.snoc X3 N2 g_a
  have E_a_3 : Exa Z h3 a "java/util/ArrayList" := E_a_2.wr W3
  have E_y_3 : Exa Z h3 y "com/example/rallypoint/rallypoint/protocol/MultiRequest$Op" := E_y_2.wr W3
  have OLD_3 : Old Z n0 h3 := OLD_2.wr W3 g_a
  have G1x0_3 : Fld Z h3 a "java/util/AbstractList" "modCount" "I" (.int a_modCount) := G1x0_2.other W3 (Or.inr (slot_ne (Or.inl (hw _ (List.mem_of_getElem? (i := 38) rfl))) (Or.inl (hw _ (List.mem_of_getElem? (i := 54) rfl))) (by decide) (t := .int) (t' := .int) (by decide) (by decide)))
  have G1x1_3 : Fld Z h3 a "java/util/ArrayList" "elementData" "[Ljava/lang/Object;" (.ref b1) := G1x1_2.other W3 (Or.inr (slot_ne (Or.inl (hw _ (List.mem_of_getElem? (i := 41) rfl))) (Or.inl (hw _ (List.mem_of_getElem? (i := 54) rfl))) (by decide) (t := (.array (.object "java/lang/Object"))) (t' := .int) (by decide) (by decide)))
  have Ab1_3 : OArrR Z h3 b1 10 (own_L Value.null ([(.ref y), .null, .null, .null, .null, .null, .null, .null, .null, .null] : List Value)) := Ab1_2.other W3 (Ne.symm ne_a_b1)
  have Zn3 : n0 ≤ h3.size := Nat.le_trans Zn2 (Nat.le_of_eq W3.size.symm)
  have K3 : Keep h0 h3 [a] := K2.wr W3 (Or.inl (List.mem_of_getElem? (i := 0) rfl))
  refine OGo.st (T' := T3) (g' := (mkF m 22 #[.val (.ref a), .val (.ref y), .val (.ref b1), .val (.int (0 : Int32))] [])) (fun _ k => st3 _ k) ?_
  exact OGo.retV X3 hx hlk Bd.returns (hb hby own_d_jdk_38_method_24_22) (by decide) (by decide) e3 (⟨b1, rfl, N3, K3, sq_b1, G1x0_3, G1x1_3, G1x2_3, Ab1_3⟩)
theorem own_ef_rmAd0 (m : MethodId) (x0 : Addr) (x1 : Addr) : entryFrame m #[(.ref x0), (.ref x1)] 2 = mkF m 0 #[.val (.ref x0), .val (.ref x1)] [] := by first | (simp [entryFrame, mkF, argsToLocals, Value.category]; done) | rfl
def R_rmAd0 : Room := { frames := 4, cells := 1, slots := 10, locals := 56 }
def Q_rmAd0 (Z : State) (a : Addr) (a_modCount : Int32) (y : Addr) (ed : Addr) (h0 : Heap) (n0 : Nat) (v : Option Value) (h : Heap) (L : List Loc) : Prop := ∃ b5 : Addr, v = some (.int (1 : Int32)) ∧ Fr n0 L ∧ Keep h0 h [a] ∧ h0.size ≤ b5 ∧ Fld Z h a "java/util/AbstractList" "modCount" "I" (.int (a_modCount + (1 : Int32))) ∧ Fld Z h a "java/util/ArrayList" "elementData" "[Ljava/lang/Object;" (.ref b5) ∧ Fld Z h a "java/util/ArrayList" "size" "I" (.int (1 : Int32)) ∧ OArrR Z h b5 10 (own_L Value.null ([(.ref y), .null, .null, .null, .null, .null, .null, .null, .null, .null] : List Value))
set_option maxRecDepth 65536 in
set_option maxHeartbeats 40000000 in
theorem rmAd0 (l : Launch) (Z : State) (a0 : Array Value) (hw : ∀ d ∈ tables_1, d.before a0 Z = true) (ws : List Jvm.Cond) (a : Addr) (a_modCount : Int32) (y : Addr) (ed : Addr) (h0 : Heap) (n0 : Nat) (Z0 : n0 ≤ h0.size) (E_a : Exa Z h0 a "java/util/ArrayList") (F_a_modCount : Fld Z h0 a "java/util/AbstractList" "modCount" "I" (.int a_modCount)) (F_a_elementData : Fld Z h0 a "java/util/ArrayList" "elementData" "[Ljava/lang/Object;" (.ref ed)) (F_a_size : Fld Z h0 a "java/util/ArrayList" "size" "I" (.int (0 : Int32))) (E_y : Exa Z h0 y "com/example/rallypoint/rallypoint/protocol/MultiRequest$Op") (g_a : n0 ≤ a) (ne_a_y : a ≠ y) (OLD : Old Z n0 h0) (S_ed : Sta Z Z.heap "java/util/ArrayList" "DEFAULTCAPACITY_EMPTY_ELEMENTDATA" "[Ljava/lang/Object;" (.ref ed)) (A_ed : OArr Z Z.heap ed (.object "java/lang/Object") 0 (fun _ => .null)) :
    MetFree l (⟨"java/util/ArrayList", "add", "(Ljava/lang/Object;)Z"⟩ : MethodName) (head1 (Jvm.Cond.code (⟨"java/util/ArrayList", "add", "(Ljava/lang/Object;)Z"⟩ : MethodName) jdk_38_method_25_code 2 (some .boolean) :: ws) R_rmAd0) (fun vs_ U => vs_ = #[(.ref a), (.ref y)] ∧ Z.Warmed39 U.vm ∧ U.heap = h0) (fun _ _ _ _ _ => True) (fun _ U o U' => ∃ v L, o = .returned v ∧ Q_rmAd0 Z a a_modCount y ed h0 n0 v U'.heap L ∧ FrameEnd U o U' L R_rmAd0.cells R_rmAd0.slots) := by
  refine MetFree.of_bodySF (plainFor_of_name own_pn8) hisR ?_
  intro p e s m args below meth c s₁ Bd hml0 hP hK
  obtain ⟨rfl, hZ, hh⟩ := hP
  have hx := Bd.exec
  have hby := Bd.bytes
  have hml : c.maxLocals = 2 := hml0
  have hown : s.vm.findClass "java/util/ArrayList" = some m.cls := findClass_of_methodNamed Bd.named
  have hnm := (name_of_methodNamed Bd.named Bd.method).1
  have hlk : meth.locks = false := BodyLoose.notSynchronized Bd
  have X0 : Stand p l e R_rmAd0 s m #[(.ref a), (.ref y)] below meth c s₁ [] 0 0 := Stand.of_body Bd
  have e0 : s₁.heap = h0 := by rw [← hh, Bd.state]; rfl
  have N0 := Fr.nil n0
  have K0 : Keep h0 h0 [a] := Keep.refl _ _
  refine OGo.en (Q := Q_rmAd0 Z a a_modCount y ed h0 n0) (C := R_rmAd0.cells) (S := R_rmAd0.slots) (own_ef_rmAd0 m a y) ?_
  refine OGo.st (T' := s₁) (g' := (mkF m 2 #[.val (.ref a), .val (.ref y)] [(.ref a), (.ref a)])) (fun _ k => (XS.aloadN X0.here hx rfl (hb hby own_d_jdk_38_method_25_0) rfl rfl (XS.dup X0.here hx rfl (hb hby own_d_jdk_38_method_25_1) rfl rfl k))) ?_
  obtain ⟨T1, X1, e1, st1⟩ := getF X0 hx hZ hown (host := "") (Or.inl (hw _ (List.mem_of_getElem? (i := 51) rfl))) (Via.of (hw _ (List.mem_of_getElem? (i := 52) rfl))) e0 F_a_modCount (g := (mkF m 2 #[.val (.ref a), .val (.ref y)] [(.ref a), (.ref a)])) rfl rfl (hb hby own_d_jdk_38_method_25_2)
  refine OGo.st (T' := T1) (g' := (mkF m 5 #[.val (.ref a), .val (.ref y)] [(.int a_modCount), (.ref a)])) (fun _ k => st1 _ k) ?_
  refine OGo.st (T' := T1) (g' := (mkF m 7 #[.val (.ref a), .val (.ref y)] [(.int (a_modCount + (1 : Int32))), (.ref a)])) (fun _ k => (XS.iconst X1.here hx rfl (hb hby own_d_jdk_38_method_25_5) (XS.iadd X1.here hx rfl (hb hby own_d_jdk_38_method_25_6) rfl k))) ?_
  obtain ⟨T2, h2, X2, e2, W2, st2⟩ := putF X1 hx hZ hown (host := "") (Or.inl (hw _ (List.mem_of_getElem? (i := 51) rfl))) (Via.of (hw _ (List.mem_of_getElem? (i := 52) rfl))) e1 F_a_modCount E_a (Or.inl (hw _ (List.mem_of_getElem? (i := 38) rfl))) (hw _ (List.mem_of_getElem? (i := 19) rfl)) (ty := .int) (by decide) rfl rfl (g := (mkF m 7 #[.val (.ref a), .val (.ref y)] [(.int (a_modCount + (1 : Int32))), (.ref a)])) rfl rfl (hb hby own_d_jdk_38_method_25_7)
  have F_a_modCount_2 : Fld Z h2 a "java/util/AbstractList" "modCount" "I" (.int (a_modCount + (1 : Int32))) := F_a_modCount.same W2
  have N2 := Fr.snoc X2 N0 g_a
  have E_a_2 : Exa Z h2 a "java/util/ArrayList" := E_a.wr W2
  have F_a_elementData_2 : Fld Z h2 a "java/util/ArrayList" "elementData" "[Ljava/lang/Object;" (.ref ed) := F_a_elementData.other W2 (Or.inr (slot_ne (Or.inl (hw _ (List.mem_of_getElem? (i := 41) rfl))) (Or.inl (hw _ (List.mem_of_getElem? (i := 38) rfl))) (by decide) (t := (.array (.object "java/lang/Object"))) (t' := .int) (by decide) (by decide)))
  have F_a_size_2 : Fld Z h2 a "java/util/ArrayList" "size" "I" (.int (0 : Int32)) := F_a_size.other W2 (Or.inr (slot_ne (Or.inl (hw _ (List.mem_of_getElem? (i := 54) rfl))) (Or.inl (hw _ (List.mem_of_getElem? (i := 38) rfl))) (by decide) (t := .int) (t' := .int) (by decide) (by decide)))
  have E_y_2 : Exa Z h2 y "com/example/rallypoint/rallypoint/protocol/MultiRequest$Op" := E_y.wr W2
  have OLD_2 : Old Z n0 h2 := OLD.wr W2 g_a
  have Zn2 : n0 ≤ h2.size := Nat.le_trans Z0 (Nat.le_of_eq W2.size.symm)
  have K2 : Keep h0 h2 [a] := K0.wr W2 (Or.inl (List.mem_of_getElem? (i := 0) rfl))
  refine OGo.st (T' := T2) (g' := (mkF m 10 #[.val (.ref a), .val (.ref y)] [])) (fun _ k => st2 _ k) ?_
  refine OGo.st (T' := T2) (g' := (mkF m 13 #[.val (.ref a), .val (.ref y)] [(.ref a), (.ref y), (.ref a)])) (fun _ k => (XS.aloadN X2.here hx rfl (hb hby own_d_jdk_38_method_25_10) rfl rfl (XS.aloadN X2.here hx rfl (hb hby own_d_jdk_38_method_25_11) rfl rfl (XS.aloadN X2.here hx rfl (hb hby own_d_jdk_38_method_25_12) rfl rfl k)))) ?_
  obtain ⟨T3, X3, e3, st3⟩ := getF X2 hx hZ hown (host := "") (Or.inl (hw _ (List.mem_of_getElem? (i := 40) rfl))) Via.refl e2 F_a_elementData_2 (g := (mkF m 13 #[.val (.ref a), .val (.ref y)] [(.ref a), (.ref y), (.ref a)])) rfl rfl (hb hby own_d_jdk_38_method_25_13)
  refine OGo.st (T' := T3) (g' := (mkF m 16 #[.val (.ref a), .val (.ref y)] [(.ref ed), (.ref y), (.ref a)])) (fun _ k => st3 _ k) ?_
  refine OGo.st (T' := T3) (g' := (mkF m 17 #[.val (.ref a), .val (.ref y)] [(.ref a), (.ref ed), (.ref y), (.ref a)])) (fun _ k => (XS.aloadN X3.here hx rfl (hb hby own_d_jdk_38_method_25_16) rfl rfl k)) ?_
  obtain ⟨T4, X4, e4, st4⟩ := getF X3 hx hZ hown (host := "") (Or.inl (hw _ (List.mem_of_getElem? (i := 53) rfl))) Via.refl e3 F_a_size_2 (g := (mkF m 17 #[.val (.ref a), .val (.ref y)] [(.ref a), (.ref ed), (.ref y), (.ref a)])) rfl rfl (hb hby own_d_jdk_38_method_25_17)
  refine OGo.st (T' := T4) (g' := (mkF m 20 #[.val (.ref a), .val (.ref y)] [(.int (0 : Int32)), (.ref ed), (.ref y), (.ref a)])) (fun _ k => st4 _ k) ?_
  obtain ⟨cq5, q5, q5'⟩ := E_a_2.cell
  obtain ⟨_, _, ⟨T5, L5, k5, n5⟩, -, X5, ⟨Lc5, hQ5, l5, y5, z5⟩, st5⟩ := X4.privateBack hx (y := (⟨"java/util/ArrayList", "add", "(Ljava/lang/Object;[Ljava/lang/Object;I)V"⟩ : MethodName)) hown (mvT hZ (hw _ (List.mem_of_getElem? (i := 55) rfl))) (mvT hZ (hw _ (List.mem_of_getElem? (i := 56) rfl))) (mvT hZ (hw _ (List.mem_of_getElem? (i := 58) rfl))) (Cond.privateMethod_at (mvP hZ (hw _ (List.mem_of_getElem? (i := 57) rfl)) (args := #[]))) (mvT hZ (hw _ (List.mem_of_getElem? (i := 59) rfl))) (by decide) (backOf (W := 0) (rmPa0 l Z a0 hw [] (a) ((a_modCount + (1 : Int32))) (y) (ed) h2 n0 Zn2 (E_a_2) (F_a_modCount_2) (F_a_elementData_2) (F_a_size_2) (E_y_2) (g_a) (ne_a_y) (OLD_2) (S_ed) (A_ed)) hZ (hw _ (List.mem_of_getElem? (i := 59) rfl)) (hw _ (List.mem_of_getElem? (i := 20) rfl)) (by decide) (by decide)) (g := (mkF m 20 #[.val (.ref a), .val (.ref y)] [(.int (0 : Int32)), (.ref ed), (.ref y), (.ref a)])) rfl (by rw [hml]; rfl) (Steps.refl _) (a := a) (by rw [e4]; exact q5) q5' (argsL := [(.ref y), (.ref ed), (.int (0 : Int32))]) (rest := []) (lenOf own_pd14 rfl) rfl (by show 2 * 0 + _ ≤ _; exact Nat.le_of_eq rfl) (hb hby own_d_jdk_38_method_25_20) (fun _ _ => ⟨rfl, e4, (by decide : 0 + 1 ≤ _), (by decide : 0 + 10 ≤ _)⟩)
  dsimp only [Pt.U, Pt.locs, Pt.cells, Pt.slots] at X5 l5 y5 z5 st5 hQ5
  subst l5 y5 z5
  have X5 : Stand p l e R_rmAd0 s m _ below meth c T5 _ 1 10 := X5
  obtain ⟨h5, e5⟩ : ∃ z, T5.heap = z := ⟨_, rfl⟩
  rw [e5] at hQ5
  obtain ⟨b5, rfl, Nq5, Kc5, sz_b5, G5x0, G5x1, G5x2, G5x3⟩ := hQ5
  have N5 := Fr.app N2 Nq5
  have ne_a_b5 : a ≠ b5 := Nat.ne_of_lt (Nat.lt_of_lt_of_le E_a_2.lt sz_b5)
  have ne_y_b5 : y ≠ b5 := Nat.ne_of_lt (Nat.lt_of_lt_of_le E_y_2.lt sz_b5)
  have ne_ed_b5 : ed ≠ b5 := Nat.ne_of_lt (Nat.lt_of_lt_of_le (A_ed.ext OLD_2.2).lt sz_b5)
  have g_b5 : n0 ≤ b5 := Nat.le_trans Zn2 sz_b5
  have sq_b5 : h0.size ≤ b5 := Nat.le_trans K2.1 sz_b5
  have E_a_5 : Exa Z h5 a "java/util/ArrayList" := E_a_2.keep Kc5
  have E_y_5 : Exa Z h5 y "com/example/rallypoint/rallypoint/protocol/MultiRequest$Op" := E_y_2.keep Kc5
  have OLD_5 : Old Z n0 h5 := OLD_2.keep Kc5 (allS g_a all0)
  have Zn5 : n0 ≤ h5.size := Nat.le_trans Zn2 Kc5.1
  have K5 : Keep h0 h5 [a] := K2.trans Kc5 (allS (Or.inl (List.mem_of_getElem? (i := 0) rfl)) all0)
  refine OGo.st (T' := T5) (g' := (mkF m 23 #[.val (.ref a), .val (.ref y)] [])) (fun _ k => st5.trans k) ?_
  refine OGo.st (T' := T5) (g' := (mkF m 24 #[.val (.ref a), .val (.ref y)] [(.int (1 : Int32))])) (fun _ k => (XS.iconst X5.here hx rfl (hb hby own_d_jdk_38_method_25_23) k)) ?_
  exact OGo.ret X5 hx hlk Bd.returns rfl (own_rI (Or.inr (Or.inl rfl))) (hb hby own_d_jdk_38_method_25_24) (by decide) (by decide) e5 (⟨b5, rfl, N5, K5, sq_b5, G5x0, G5x1, G5x2, G5x3⟩)
theorem own_ef_rmPa1 (m : MethodId) (x0 : Addr) (x1 : Addr) (x2 : Addr) (x3 : Int32) : entryFrame m #[(.ref x0), (.ref x1), (.ref x2), (.int x3)] 4 = mkF m 0 #[.val (.ref x0), .val (.ref x1), .val (.ref x2), .val (.int x3)] [] := by first | (simp [entryFrame, mkF, argsToLocals, Value.category]; done) | rfl
def R_rmPa1 : Room := { frames := 0, cells := 0, slots := 0, locals := 0 }
def Q_rmPa1 (Z : State) (a : Addr) (a_modCount : Int32) (y : Addr) (d : Addr) (x0 : Addr) (h0 : Heap) (n0 : Nat) (v : Option Value) (h : Heap) (L : List Loc) : Prop := v = none ∧ Fr n0 L ∧ Keep h0 h [a, d] ∧ Fld Z h a "java/util/AbstractList" "modCount" "I" (.int a_modCount) ∧ Fld Z h a "java/util/ArrayList" "elementData" "[Ljava/lang/Object;" (.ref d) ∧ Fld Z h a "java/util/ArrayList" "size" "I" (.int (2 : Int32)) ∧ OArrR Z h d 10 (own_L Value.null ([(.ref x0), (.ref y), .null, .null, .null, .null, .null, .null, .null, .null] : List Value))
set_option maxRecDepth 65536 in
set_option maxHeartbeats 40000000 in
theorem rmPa1 (l : Launch) (Z : State) (a0 : Array Value) (hw : ∀ d ∈ tables_1, d.before a0 Z = true) (ws : List Jvm.Cond) (a : Addr) (a_modCount : Int32) (y : Addr) (d : Addr) (x0 : Addr) (h0 : Heap) (n0 : Nat) (Z0 : n0 ≤ h0.size) (E_a : Exa Z h0 a "java/util/ArrayList") (F_a_modCount : Fld Z h0 a "java/util/AbstractList" "modCount" "I" (.int a_modCount)) (F_a_elementData : Fld Z h0 a "java/util/ArrayList" "elementData" "[Ljava/lang/Object;" (.ref d)) (F_a_size : Fld Z h0 a "java/util/ArrayList" "size" "I" (.int (1 : Int32))) (E_y : Exa Z h0 y "com/example/rallypoint/rallypoint/protocol/MultiRequest$Op") (A_d : OArrR Z h0 d 10 (own_L Value.null ([(.ref x0), .null, .null, .null, .null, .null, .null, .null, .null, .null] : List Value))) (g_a : n0 ≤ a) (g_d : n0 ≤ d) (ne_a_y : a ≠ y) (ne_a_d : a ≠ d) (ne_y_d : y ≠ d) :
    MetFree l (⟨"java/util/ArrayList", "add", "(Ljava/lang/Object;[Ljava/lang/Object;I)V"⟩ : MethodName) (head1 (Jvm.Cond.code (⟨"java/util/ArrayList", "add", "(Ljava/lang/Object;[Ljava/lang/Object;I)V"⟩ : MethodName) jdk_38_method_24_code 4 none :: ws) R_rmPa1) (fun vs_ U => vs_ = #[(.ref a), (.ref y), (.ref d), (.int (1 : Int32))] ∧ Z.Warmed39 U.vm ∧ U.heap = h0) (fun _ _ _ _ _ => True) (fun _ U o U' => ∃ v L, o = .returned v ∧ Q_rmPa1 Z a a_modCount y d x0 h0 n0 v U'.heap L ∧ FrameEnd U o U' L R_rmPa1.cells R_rmPa1.slots) := by
  refine MetFree.of_bodySF (plainFor_of_name own_pn8) hisR ?_
  intro p e s m args below meth c s₁ Bd hml0 hP hK
  obtain ⟨rfl, hZ, hh⟩ := hP
  have hx := Bd.exec
  have hby := Bd.bytes
  have hml : c.maxLocals = 4 := hml0
  have hown : s.vm.findClass "java/util/ArrayList" = some m.cls := findClass_of_methodNamed Bd.named
  have hnm := (name_of_methodNamed Bd.named Bd.method).1
  have hlk : meth.locks = false := BodyLoose.notSynchronized Bd
  have X0 : Stand p l e R_rmPa1 s m #[(.ref a), (.ref y), (.ref d), (.int (1 : Int32))] below meth c s₁ [] 0 0 := Stand.of_body Bd
  have e0 : s₁.heap = h0 := by rw [← hh, Bd.state]; rfl
  have N0 := Fr.nil n0
  have K0 : Keep h0 h0 [a, d] := Keep.refl _ _
  refine OGo.en (Q := Q_rmPa1 Z a a_modCount y d x0 h0 n0) (C := R_rmPa1.cells) (S := R_rmPa1.slots) (own_ef_rmPa1 m a y d (1 : Int32)) ?_
  refine OGo.st (T' := s₁) (g' := (mkF m 2 #[.val (.ref a), .val (.ref y), .val (.ref d), .val (.int (1 : Int32))] [(.ref d), (.int (1 : Int32))])) (fun _ k => (XS.iloadN X0.here hx rfl (hb hby own_d_jdk_38_method_24_0) rfl (XS.aloadN X0.here hx rfl (hb hby own_d_jdk_38_method_24_1) rfl rfl k))) ?_
  refine OGo.st (T' := s₁) (g' := (mkF m 14 #[.val (.ref a), .val (.ref y), .val (.ref d), .val (.int (1 : Int32))] [(.ref y), (.int (1 : Int32)), (.ref d)])) (fun _ k => (own_len X0 hx hZ e0 A_d.arr (g := (mkF m 2 #[.val (.ref a), .val (.ref y), .val (.ref d), .val (.int (1 : Int32))] [(.ref d), (.int (1 : Int32))])) rfl rfl (hb hby own_d_jdk_38_method_24_2) _ (XS.icmpYes X0.here hx rfl (pc0 := 3) (pc' := 11) rfl (hb hby own_d_jdk_38_method_24_3) rfl (feq (by decide : ¬ ((1 : Int32) = (10 : Int32)))).2 (by decide) (by decide) (XS.aloadN X0.here hx rfl (hb hby own_d_jdk_38_method_24_11) rfl rfl (XS.iloadN X0.here hx rfl (hb hby own_d_jdk_38_method_24_12) rfl (XS.aloadN X0.here hx rfl (hb hby own_d_jdk_38_method_24_13) rfl rfl k)))))) ?_
  obtain ⟨T1, h1, X1, e1, W1, V1, st1⟩ := own_stR X0 hx hZ e0 A_d (Ins.of_exa E_y (hw _ (List.mem_of_getElem? (i := 76) rfl))) (j := (1 : Int32)) (i := 1) ⟨by decide, by decide⟩ (by decide) (g := (mkF m 14 #[.val (.ref a), .val (.ref y), .val (.ref d), .val (.int (1 : Int32))] [(.ref y), (.int (1 : Int32)), (.ref d)])) rfl rfl (hb hby own_d_jdk_38_method_24_14)
  have Ad_1 : OArrR Z h1 d 10 (own_L Value.null ([(.ref x0), (.ref y), .null, .null, .null, .null, .null, .null, .null, .null] : List Value)) := V1.cast (fun j _ => own_L_set Value.null ([(.ref x0), .null, .null, .null, .null, .null, .null, .null, .null, .null] : List Value) 1 (.ref y) (Nat.le_of_ble_eq_true rfl) j)
  have N1 := Fr.snoc X1 N0 g_d
  have E_a_1 : Exa Z h1 a "java/util/ArrayList" := E_a.wr W1
  have F_a_modCount_1 : Fld Z h1 a "java/util/AbstractList" "modCount" "I" (.int a_modCount) := F_a_modCount.other W1 (Or.inl ne_a_d)
  have F_a_elementData_1 : Fld Z h1 a "java/util/ArrayList" "elementData" "[Ljava/lang/Object;" (.ref d) := F_a_elementData.other W1 (Or.inl ne_a_d)
  have F_a_size_1 : Fld Z h1 a "java/util/ArrayList" "size" "I" (.int (1 : Int32)) := F_a_size.other W1 (Or.inl ne_a_d)
  have E_y_1 : Exa Z h1 y "com/example/rallypoint/rallypoint/protocol/MultiRequest$Op" := E_y.wr W1
  have Zn1 : n0 ≤ h1.size := Nat.le_trans Z0 (Nat.le_of_eq W1.size.symm)
  have K1 : Keep h0 h1 [a, d] := K0.wr W1 (Or.inl (List.mem_of_getElem? (i := 1) rfl))
  refine OGo.st (T' := T1) (g' := (mkF m 15 #[.val (.ref a), .val (.ref y), .val (.ref d), .val (.int (1 : Int32))] [])) (fun _ k => st1 _ k) ?_
  refine OGo.st (T' := T1) (g' := (mkF m 19 #[.val (.ref a), .val (.ref y), .val (.ref d), .val (.int (1 : Int32))] [(.int (2 : Int32)), (.ref a)])) (fun _ k => (XS.aloadN X1.here hx rfl (hb hby own_d_jdk_38_method_24_15) rfl rfl (XS.iloadN X1.here hx rfl (hb hby own_d_jdk_38_method_24_16) rfl (XS.iconst X1.here hx rfl (hb hby own_d_jdk_38_method_24_17) (XS.iadd X1.here hx rfl (hb hby own_d_jdk_38_method_24_18) rfl k))))) ?_
  obtain ⟨T2, h2, X2, e2, W2, st2⟩ := putF X1 hx hZ hown (host := "") (Or.inl (hw _ (List.mem_of_getElem? (i := 53) rfl))) Via.refl e1 F_a_size_1 E_a_1 (Or.inl (hw _ (List.mem_of_getElem? (i := 54) rfl))) (hw _ (List.mem_of_getElem? (i := 19) rfl)) (ty := .int) (by decide) rfl rfl (g := (mkF m 19 #[.val (.ref a), .val (.ref y), .val (.ref d), .val (.int (1 : Int32))] [(.int (2 : Int32)), (.ref a)])) rfl rfl (hb hby own_d_jdk_38_method_24_19)
  have F_a_size_2 : Fld Z h2 a "java/util/ArrayList" "size" "I" (.int (2 : Int32)) := F_a_size_1.same W2
  have N2 := Fr.snoc X2 N1 g_a
  have E_a_2 : Exa Z h2 a "java/util/ArrayList" := E_a_1.wr W2
  have F_a_modCount_2 : Fld Z h2 a "java/util/AbstractList" "modCount" "I" (.int a_modCount) := F_a_modCount_1.other W2 (Or.inr (slot_ne (Or.inl (hw _ (List.mem_of_getElem? (i := 38) rfl))) (Or.inl (hw _ (List.mem_of_getElem? (i := 54) rfl))) (by decide) (t := .int) (t' := .int) (by decide) (by decide)))
  have F_a_elementData_2 : Fld Z h2 a "java/util/ArrayList" "elementData" "[Ljava/lang/Object;" (.ref d) := F_a_elementData_1.other W2 (Or.inr (slot_ne (Or.inl (hw _ (List.mem_of_getElem? (i := 41) rfl))) (Or.inl (hw _ (List.mem_of_getElem? (i := 54) rfl))) (by decide) (t := (.array (.object "java/lang/Object"))) (t' := .int) (by decide) (by decide)))
  have E_y_2 : Exa Z h2 y "com/example/rallypoint/rallypoint/protocol/MultiRequest$Op" := E_y_1.wr W2
  have Ad_2 : OArrR Z h2 d 10 (own_L Value.null ([(.ref x0), (.ref y), .null, .null, .null, .null, .null, .null, .null, .null] : List Value)) := Ad_1.other W2 (Ne.symm ne_a_d)
  have Zn2 : n0 ≤ h2.size := Nat.le_trans Zn1 (Nat.le_of_eq W2.size.symm)
  have K2 : Keep h0 h2 [a, d] := K1.wr W2 (Or.inl (List.mem_of_getElem? (i := 0) rfl))
  refine OGo.st (T' := T2) (g' := (mkF m 22 #[.val (.ref a), .val (.ref y), .val (.ref d), .val (.int (1 : Int32))] [])) (fun _ k => st2 _ k) ?_
  exact OGo.retV X2 hx hlk Bd.returns (hb hby own_d_jdk_38_method_24_22) (by decide) (by decide) e2 (⟨rfl, N2, K2, F_a_modCount_2, F_a_elementData_2, F_a_size_2, Ad_2⟩)
theorem own_ef_rmAd1 (m : MethodId) (x0 : Addr) (x1 : Addr) : entryFrame m #[(.ref x0), (.ref x1)] 2 = mkF m 0 #[.val (.ref x0), .val (.ref x1)] [] := by first | (simp [entryFrame, mkF, argsToLocals, Value.category]; done) | rfl
def R_rmAd1 : Room := { frames := 1, cells := 0, slots := 0, locals := 15 }
def Q_rmAd1 (Z : State) (a : Addr) (a_modCount : Int32) (y : Addr) (d : Addr) (x0 : Addr) (h0 : Heap) (n0 : Nat) (v : Option Value) (h : Heap) (L : List Loc) : Prop := v = some (.int (1 : Int32)) ∧ Fr n0 L ∧ Keep h0 h [a, d] ∧ Fld Z h a "java/util/AbstractList" "modCount" "I" (.int (a_modCount + (1 : Int32))) ∧ Fld Z h a "java/util/ArrayList" "elementData" "[Ljava/lang/Object;" (.ref d) ∧ Fld Z h a "java/util/ArrayList" "size" "I" (.int (2 : Int32)) ∧ OArrR Z h d 10 (own_L Value.null ([(.ref x0), (.ref y), .null, .null, .null, .null, .null, .null, .null, .null] : List Value))
set_option maxRecDepth 65536 in
set_option maxHeartbeats 40000000 in
theorem rmAd1 (l : Launch) (Z : State) (a0 : Array Value) (hw : ∀ d ∈ tables_1, d.before a0 Z = true) (ws : List Jvm.Cond) (a : Addr) (a_modCount : Int32) (y : Addr) (d : Addr) (x0 : Addr) (h0 : Heap) (n0 : Nat) (Z0 : n0 ≤ h0.size) (E_a : Exa Z h0 a "java/util/ArrayList") (F_a_modCount : Fld Z h0 a "java/util/AbstractList" "modCount" "I" (.int a_modCount)) (F_a_elementData : Fld Z h0 a "java/util/ArrayList" "elementData" "[Ljava/lang/Object;" (.ref d)) (F_a_size : Fld Z h0 a "java/util/ArrayList" "size" "I" (.int (1 : Int32))) (E_y : Exa Z h0 y "com/example/rallypoint/rallypoint/protocol/MultiRequest$Op") (A_d : OArrR Z h0 d 10 (own_L Value.null ([(.ref x0), .null, .null, .null, .null, .null, .null, .null, .null, .null] : List Value))) (g_a : n0 ≤ a) (g_d : n0 ≤ d) (ne_a_y : a ≠ y) (ne_a_d : a ≠ d) (ne_y_d : y ≠ d) :
    MetFree l (⟨"java/util/ArrayList", "add", "(Ljava/lang/Object;)Z"⟩ : MethodName) (head1 (Jvm.Cond.code (⟨"java/util/ArrayList", "add", "(Ljava/lang/Object;)Z"⟩ : MethodName) jdk_38_method_25_code 2 (some .boolean) :: ws) R_rmAd1) (fun vs_ U => vs_ = #[(.ref a), (.ref y)] ∧ Z.Warmed39 U.vm ∧ U.heap = h0) (fun _ _ _ _ _ => True) (fun _ U o U' => ∃ v L, o = .returned v ∧ Q_rmAd1 Z a a_modCount y d x0 h0 n0 v U'.heap L ∧ FrameEnd U o U' L R_rmAd1.cells R_rmAd1.slots) := by
  refine MetFree.of_bodySF (plainFor_of_name own_pn8) hisR ?_
  intro p e s m args below meth c s₁ Bd hml0 hP hK
  obtain ⟨rfl, hZ, hh⟩ := hP
  have hx := Bd.exec
  have hby := Bd.bytes
  have hml : c.maxLocals = 2 := hml0
  have hown : s.vm.findClass "java/util/ArrayList" = some m.cls := findClass_of_methodNamed Bd.named
  have hnm := (name_of_methodNamed Bd.named Bd.method).1
  have hlk : meth.locks = false := BodyLoose.notSynchronized Bd
  have X0 : Stand p l e R_rmAd1 s m #[(.ref a), (.ref y)] below meth c s₁ [] 0 0 := Stand.of_body Bd
  have e0 : s₁.heap = h0 := by rw [← hh, Bd.state]; rfl
  have N0 := Fr.nil n0
  have K0 : Keep h0 h0 [a, d] := Keep.refl _ _
  refine OGo.en (Q := Q_rmAd1 Z a a_modCount y d x0 h0 n0) (C := R_rmAd1.cells) (S := R_rmAd1.slots) (own_ef_rmAd1 m a y) ?_
  refine OGo.st (T' := s₁) (g' := (mkF m 2 #[.val (.ref a), .val (.ref y)] [(.ref a), (.ref a)])) (fun _ k => (XS.aloadN X0.here hx rfl (hb hby own_d_jdk_38_method_25_0) rfl rfl (XS.dup X0.here hx rfl (hb hby own_d_jdk_38_method_25_1) rfl rfl k))) ?_
  obtain ⟨T1, X1, e1, st1⟩ := getF X0 hx hZ hown (host := "") (Or.inl (hw _ (List.mem_of_getElem? (i := 51) rfl))) (Via.of (hw _ (List.mem_of_getElem? (i := 52) rfl))) e0 F_a_modCount (g := (mkF m 2 #[.val (.ref a), .val (.ref y)] [(.ref a), (.ref a)])) rfl rfl (hb hby own_d_jdk_38_method_25_2)
  refine OGo.st (T' := T1) (g' := (mkF m 5 #[.val (.ref a), .val (.ref y)] [(.int a_modCount), (.ref a)])) (fun _ k => st1 _ k) ?_
  refine OGo.st (T' := T1) (g' := (mkF m 7 #[.val (.ref a), .val (.ref y)] [(.int (a_modCount + (1 : Int32))), (.ref a)])) (fun _ k => (XS.iconst X1.here hx rfl (hb hby own_d_jdk_38_method_25_5) (XS.iadd X1.here hx rfl (hb hby own_d_jdk_38_method_25_6) rfl k))) ?_
  obtain ⟨T2, h2, X2, e2, W2, st2⟩ := putF X1 hx hZ hown (host := "") (Or.inl (hw _ (List.mem_of_getElem? (i := 51) rfl))) (Via.of (hw _ (List.mem_of_getElem? (i := 52) rfl))) e1 F_a_modCount E_a (Or.inl (hw _ (List.mem_of_getElem? (i := 38) rfl))) (hw _ (List.mem_of_getElem? (i := 19) rfl)) (ty := .int) (by decide) rfl rfl (g := (mkF m 7 #[.val (.ref a), .val (.ref y)] [(.int (a_modCount + (1 : Int32))), (.ref a)])) rfl rfl (hb hby own_d_jdk_38_method_25_7)
  have F_a_modCount_2 : Fld Z h2 a "java/util/AbstractList" "modCount" "I" (.int (a_modCount + (1 : Int32))) := F_a_modCount.same W2
  have N2 := Fr.snoc X2 N0 g_a
  have E_a_2 : Exa Z h2 a "java/util/ArrayList" := E_a.wr W2
  have F_a_elementData_2 : Fld Z h2 a "java/util/ArrayList" "elementData" "[Ljava/lang/Object;" (.ref d) := F_a_elementData.other W2 (Or.inr (slot_ne (Or.inl (hw _ (List.mem_of_getElem? (i := 41) rfl))) (Or.inl (hw _ (List.mem_of_getElem? (i := 38) rfl))) (by decide) (t := (.array (.object "java/lang/Object"))) (t' := .int) (by decide) (by decide)))
  have F_a_size_2 : Fld Z h2 a "java/util/ArrayList" "size" "I" (.int (1 : Int32)) := F_a_size.other W2 (Or.inr (slot_ne (Or.inl (hw _ (List.mem_of_getElem? (i := 54) rfl))) (Or.inl (hw _ (List.mem_of_getElem? (i := 38) rfl))) (by decide) (t := .int) (t' := .int) (by decide) (by decide)))
  have E_y_2 : Exa Z h2 y "com/example/rallypoint/rallypoint/protocol/MultiRequest$Op" := E_y.wr W2
  have A_d_2 : OArrR Z h2 d 10 (own_L Value.null ([(.ref x0), .null, .null, .null, .null, .null, .null, .null, .null, .null] : List Value)) := A_d.other W2 (Ne.symm ne_a_d)
  have Zn2 : n0 ≤ h2.size := Nat.le_trans Z0 (Nat.le_of_eq W2.size.symm)
  have K2 : Keep h0 h2 [a, d] := K0.wr W2 (Or.inl (List.mem_of_getElem? (i := 0) rfl))
  refine OGo.st (T' := T2) (g' := (mkF m 10 #[.val (.ref a), .val (.ref y)] [])) (fun _ k => st2 _ k) ?_
  refine OGo.st (T' := T2) (g' := (mkF m 13 #[.val (.ref a), .val (.ref y)] [(.ref a), (.ref y), (.ref a)])) (fun _ k => (XS.aloadN X2.here hx rfl (hb hby own_d_jdk_38_method_25_10) rfl rfl (XS.aloadN X2.here hx rfl (hb hby own_d_jdk_38_method_25_11) rfl rfl (XS.aloadN X2.here hx rfl (hb hby own_d_jdk_38_method_25_12) rfl rfl k)))) ?_
  obtain ⟨T3, X3, e3, st3⟩ := getF X2 hx hZ hown (host := "") (Or.inl (hw _ (List.mem_of_getElem? (i := 40) rfl))) Via.refl e2 F_a_elementData_2 (g := (mkF m 13 #[.val (.ref a), .val (.ref y)] [(.ref a), (.ref y), (.ref a)])) rfl rfl (hb hby own_d_jdk_38_method_25_13)
  refine OGo.st (T' := T3) (g' := (mkF m 16 #[.val (.ref a), .val (.ref y)] [(.ref d), (.ref y), (.ref a)])) (fun _ k => st3 _ k) ?_
  refine OGo.st (T' := T3) (g' := (mkF m 17 #[.val (.ref a), .val (.ref y)] [(.ref a), (.ref d), (.ref y), (.ref a)])) (fun _ k => (XS.aloadN X3.here hx rfl (hb hby own_d_jdk_38_method_25_16) rfl rfl k)) ?_
  obtain ⟨T4, X4, e4, st4⟩ := getF X3 hx hZ hown (host := "") (Or.inl (hw _ (List.mem_of_getElem? (i := 53) rfl))) Via.refl e3 F_a_size_2 (g := (mkF m 17 #[.val (.ref a), .val (.ref y)] [(.ref a), (.ref d), (.ref y), (.ref a)])) rfl rfl (hb hby own_d_jdk_38_method_25_17)
  refine OGo.st (T' := T4) (g' := (mkF m 20 #[.val (.ref a), .val (.ref y)] [(.int (1 : Int32)), (.ref d), (.ref y), (.ref a)])) (fun _ k => st4 _ k) ?_
  obtain ⟨cq5, q5, q5'⟩ := E_a_2.cell
  obtain ⟨_, _, ⟨T5, L5, k5, n5⟩, -, X5, ⟨Lc5, hQ5, l5, y5, z5⟩, st5⟩ := X4.privateBack hx (y := (⟨"java/util/ArrayList", "add", "(Ljava/lang/Object;[Ljava/lang/Object;I)V"⟩ : MethodName)) hown (mvT hZ (hw _ (List.mem_of_getElem? (i := 55) rfl))) (mvT hZ (hw _ (List.mem_of_getElem? (i := 56) rfl))) (mvT hZ (hw _ (List.mem_of_getElem? (i := 58) rfl))) (Cond.privateMethod_at (mvP hZ (hw _ (List.mem_of_getElem? (i := 57) rfl)) (args := #[]))) (mvT hZ (hw _ (List.mem_of_getElem? (i := 59) rfl))) (by decide) (backOf (W := 0) (rmPa1 l Z a0 hw [] (a) ((a_modCount + (1 : Int32))) (y) (d) (x0) h2 n0 Zn2 (E_a_2) (F_a_modCount_2) (F_a_elementData_2) (F_a_size_2) (E_y_2) (A_d_2) (g_a) (g_d) (ne_a_y) (ne_a_d) (ne_y_d)) hZ (hw _ (List.mem_of_getElem? (i := 59) rfl)) (hw _ (List.mem_of_getElem? (i := 20) rfl)) (by decide) (by decide)) (g := (mkF m 20 #[.val (.ref a), .val (.ref y)] [(.int (1 : Int32)), (.ref d), (.ref y), (.ref a)])) rfl (by rw [hml]; rfl) (Steps.refl _) (a := a) (by rw [e4]; exact q5) q5' (argsL := [(.ref y), (.ref d), (.int (1 : Int32))]) (rest := []) (lenOf own_pd14 rfl) rfl (by show 2 * 0 + _ ≤ _; exact Nat.le_of_eq rfl) (hb hby own_d_jdk_38_method_25_20) (fun _ _ => ⟨rfl, e4, (by decide : 0 + 0 ≤ _), (by decide : 0 + 0 ≤ _)⟩)
  dsimp only [Pt.U, Pt.locs, Pt.cells, Pt.slots] at X5 l5 y5 z5 st5 hQ5
  subst l5 y5 z5
  have X5 : Stand p l e R_rmAd1 s m _ below meth c T5 _ 0 0 := X5
  obtain ⟨h5, e5⟩ : ∃ z, T5.heap = z := ⟨_, rfl⟩
  rw [e5] at hQ5
  obtain ⟨rfl, Nq5, Kc5, G5x0, G5x1, G5x2, G5x3⟩ := hQ5
  have N5 := Fr.app N2 Nq5
  have E_a_5 : Exa Z h5 a "java/util/ArrayList" := E_a_2.keep Kc5
  have E_y_5 : Exa Z h5 y "com/example/rallypoint/rallypoint/protocol/MultiRequest$Op" := E_y_2.keep Kc5
  have Zn5 : n0 ≤ h5.size := Nat.le_trans Zn2 Kc5.1
  have K5 : Keep h0 h5 [a, d] := K2.trans Kc5 (allS (Or.inl (List.mem_of_getElem? (i := 0) rfl)) (allS (Or.inl (List.mem_of_getElem? (i := 1) rfl)) all0))
  refine OGo.st (T' := T5) (g' := (mkF m 23 #[.val (.ref a), .val (.ref y)] [])) (fun _ k => st5.trans k) ?_
  refine OGo.st (T' := T5) (g' := (mkF m 24 #[.val (.ref a), .val (.ref y)] [(.int (1 : Int32))])) (fun _ k => (XS.iconst X5.here hx rfl (hb hby own_d_jdk_38_method_25_23) k)) ?_
  exact OGo.ret X5 hx hlk Bd.returns rfl (own_rI (Or.inr (Or.inl rfl))) (hb hby own_d_jdk_38_method_25_24) (by decide) (by decide) e5 (⟨rfl, N5, K5, G5x0, G5x1, G5x2, G5x3⟩)
theorem own_ef_rmPa2 (m : MethodId) (x0 : Addr) (x1 : Addr) (x2 : Addr) (x3 : Int32) : entryFrame m #[(.ref x0), (.ref x1), (.ref x2), (.int x3)] 4 = mkF m 0 #[.val (.ref x0), .val (.ref x1), .val (.ref x2), .val (.int x3)] [] := by first | (simp [entryFrame, mkF, argsToLocals, Value.category]; done) | rfl
def R_rmPa2 : Room := { frames := 0, cells := 0, slots := 0, locals := 0 }
def Q_rmPa2 (Z : State) (a : Addr) (a_modCount : Int32) (y : Addr) (d : Addr) (x0 : Addr) (x1 : Addr) (h0 : Heap) (n0 : Nat) (v : Option Value) (h : Heap) (L : List Loc) : Prop := v = none ∧ Fr n0 L ∧ Keep h0 h [a, d] ∧ Fld Z h a "java/util/AbstractList" "modCount" "I" (.int a_modCount) ∧ Fld Z h a "java/util/ArrayList" "elementData" "[Ljava/lang/Object;" (.ref d) ∧ Fld Z h a "java/util/ArrayList" "size" "I" (.int (3 : Int32)) ∧ OArrR Z h d 10 (own_L Value.null ([(.ref x0), (.ref x1), (.ref y), .null, .null, .null, .null, .null, .null, .null] : List Value))
set_option maxRecDepth 65536 in
set_option maxHeartbeats 40000000 in
theorem rmPa2 (l : Launch) (Z : State) (a0 : Array Value) (hw : ∀ d ∈ tables_1, d.before a0 Z = true) (ws : List Jvm.Cond) (a : Addr) (a_modCount : Int32) (y : Addr) (d : Addr) (x0 : Addr) (x1 : Addr) (h0 : Heap) (n0 : Nat) (Z0 : n0 ≤ h0.size) (E_a : Exa Z h0 a "java/util/ArrayList") (F_a_modCount : Fld Z h0 a "java/util/AbstractList" "modCount" "I" (.int a_modCount)) (F_a_elementData : Fld Z h0 a "java/util/ArrayList" "elementData" "[Ljava/lang/Object;" (.ref d)) (F_a_size : Fld Z h0 a "java/util/ArrayList" "size" "I" (.int (2 : Int32))) (E_y : Exa Z h0 y "com/example/rallypoint/rallypoint/protocol/MultiRequest$Op") (A_d : OArrR Z h0 d 10 (own_L Value.null ([(.ref x0), (.ref x1), .null, .null, .null, .null, .null, .null, .null, .null] : List Value))) (g_a : n0 ≤ a) (g_d : n0 ≤ d) (ne_a_y : a ≠ y) (ne_a_d : a ≠ d) (ne_y_d : y ≠ d) :
    MetFree l (⟨"java/util/ArrayList", "add", "(Ljava/lang/Object;[Ljava/lang/Object;I)V"⟩ : MethodName) (head1 (Jvm.Cond.code (⟨"java/util/ArrayList", "add", "(Ljava/lang/Object;[Ljava/lang/Object;I)V"⟩ : MethodName) jdk_38_method_24_code 4 none :: ws) R_rmPa2) (fun vs_ U => vs_ = #[(.ref a), (.ref y), (.ref d), (.int (2 : Int32))] ∧ Z.Warmed39 U.vm ∧ U.heap = h0) (fun _ _ _ _ _ => True) (fun _ U o U' => ∃ v L, o = .returned v ∧ Q_rmPa2 Z a a_modCount y d x0 x1 h0 n0 v U'.heap L ∧ FrameEnd U o U' L R_rmPa2.cells R_rmPa2.slots) := by
  refine MetFree.of_bodySF (plainFor_of_name own_pn8) hisR ?_
  intro p e s m args below meth c s₁ Bd hml0 hP hK
  obtain ⟨rfl, hZ, hh⟩ := hP
  have hx := Bd.exec
  have hby := Bd.bytes
  have hml : c.maxLocals = 4 := hml0
  have hown : s.vm.findClass "java/util/ArrayList" = some m.cls := findClass_of_methodNamed Bd.named
  have hnm := (name_of_methodNamed Bd.named Bd.method).1
  have hlk : meth.locks = false := BodyLoose.notSynchronized Bd
  have X0 : Stand p l e R_rmPa2 s m #[(.ref a), (.ref y), (.ref d), (.int (2 : Int32))] below meth c s₁ [] 0 0 := Stand.of_body Bd
  have e0 : s₁.heap = h0 := by rw [← hh, Bd.state]; rfl
  have N0 := Fr.nil n0
  have K0 : Keep h0 h0 [a, d] := Keep.refl _ _
  refine OGo.en (Q := Q_rmPa2 Z a a_modCount y d x0 x1 h0 n0) (C := R_rmPa2.cells) (S := R_rmPa2.slots) (own_ef_rmPa2 m a y d (2 : Int32)) ?_
  refine OGo.st (T' := s₁) (g' := (mkF m 2 #[.val (.ref a), .val (.ref y), .val (.ref d), .val (.int (2 : Int32))] [(.ref d), (.int (2 : Int32))])) (fun _ k => (XS.iloadN X0.here hx rfl (hb hby own_d_jdk_38_method_24_0) rfl (XS.aloadN X0.here hx rfl (hb hby own_d_jdk_38_method_24_1) rfl rfl k))) ?_
  refine OGo.st (T' := s₁) (g' := (mkF m 14 #[.val (.ref a), .val (.ref y), .val (.ref d), .val (.int (2 : Int32))] [(.ref y), (.int (2 : Int32)), (.ref d)])) (fun _ k => (own_len X0 hx hZ e0 A_d.arr (g := (mkF m 2 #[.val (.ref a), .val (.ref y), .val (.ref d), .val (.int (2 : Int32))] [(.ref d), (.int (2 : Int32))])) rfl rfl (hb hby own_d_jdk_38_method_24_2) _ (XS.icmpYes X0.here hx rfl (pc0 := 3) (pc' := 11) rfl (hb hby own_d_jdk_38_method_24_3) rfl (feq (by decide : ¬ ((2 : Int32) = (10 : Int32)))).2 (by decide) (by decide) (XS.aloadN X0.here hx rfl (hb hby own_d_jdk_38_method_24_11) rfl rfl (XS.iloadN X0.here hx rfl (hb hby own_d_jdk_38_method_24_12) rfl (XS.aloadN X0.here hx rfl (hb hby own_d_jdk_38_method_24_13) rfl rfl k)))))) ?_
  obtain ⟨T1, h1, X1, e1, W1, V1, st1⟩ := own_stR X0 hx hZ e0 A_d (Ins.of_exa E_y (hw _ (List.mem_of_getElem? (i := 76) rfl))) (j := (2 : Int32)) (i := 2) ⟨by decide, by decide⟩ (by decide) (g := (mkF m 14 #[.val (.ref a), .val (.ref y), .val (.ref d), .val (.int (2 : Int32))] [(.ref y), (.int (2 : Int32)), (.ref d)])) rfl rfl (hb hby own_d_jdk_38_method_24_14)
  have Ad_1 : OArrR Z h1 d 10 (own_L Value.null ([(.ref x0), (.ref x1), (.ref y), .null, .null, .null, .null, .null, .null, .null] : List Value)) := V1.cast (fun j _ => own_L_set Value.null ([(.ref x0), (.ref x1), .null, .null, .null, .null, .null, .null, .null, .null] : List Value) 2 (.ref y) (Nat.le_of_ble_eq_true rfl) j)
  have N1 := Fr.snoc X1 N0 g_d
  have E_a_1 : Exa Z h1 a "java/util/ArrayList" := E_a.wr W1
  have F_a_modCount_1 : Fld Z h1 a "java/util/AbstractList" "modCount" "I" (.int a_modCount) := F_a_modCount.other W1 (Or.inl ne_a_d)
  have F_a_elementData_1 : Fld Z h1 a "java/util/ArrayList" "elementData" "[Ljava/lang/Object;" (.ref d) := F_a_elementData.other W1 (Or.inl ne_a_d)
  have F_a_size_1 : Fld Z h1 a "java/util/ArrayList" "size" "I" (.int (2 : Int32)) := F_a_size.other W1 (Or.inl ne_a_d)
  have E_y_1 : Exa Z h1 y "com/example/rallypoint/rallypoint/protocol/MultiRequest$Op" := E_y.wr W1
  have Zn1 : n0 ≤ h1.size := Nat.le_trans Z0 (Nat.le_of_eq W1.size.symm)
  have K1 : Keep h0 h1 [a, d] := K0.wr W1 (Or.inl (List.mem_of_getElem? (i := 1) rfl))
  refine OGo.st (T' := T1) (g' := (mkF m 15 #[.val (.ref a), .val (.ref y), .val (.ref d), .val (.int (2 : Int32))] [])) (fun _ k => st1 _ k) ?_
  refine OGo.st (T' := T1) (g' := (mkF m 19 #[.val (.ref a), .val (.ref y), .val (.ref d), .val (.int (2 : Int32))] [(.int (3 : Int32)), (.ref a)])) (fun _ k => (XS.aloadN X1.here hx rfl (hb hby own_d_jdk_38_method_24_15) rfl rfl (XS.iloadN X1.here hx rfl (hb hby own_d_jdk_38_method_24_16) rfl (XS.iconst X1.here hx rfl (hb hby own_d_jdk_38_method_24_17) (XS.iadd X1.here hx rfl (hb hby own_d_jdk_38_method_24_18) rfl k))))) ?_
  obtain ⟨T2, h2, X2, e2, W2, st2⟩ := putF X1 hx hZ hown (host := "") (Or.inl (hw _ (List.mem_of_getElem? (i := 53) rfl))) Via.refl e1 F_a_size_1 E_a_1 (Or.inl (hw _ (List.mem_of_getElem? (i := 54) rfl))) (hw _ (List.mem_of_getElem? (i := 19) rfl)) (ty := .int) (by decide) rfl rfl (g := (mkF m 19 #[.val (.ref a), .val (.ref y), .val (.ref d), .val (.int (2 : Int32))] [(.int (3 : Int32)), (.ref a)])) rfl rfl (hb hby own_d_jdk_38_method_24_19)
  have F_a_size_2 : Fld Z h2 a "java/util/ArrayList" "size" "I" (.int (3 : Int32)) := F_a_size_1.same W2
  have N2 := Fr.snoc X2 N1 g_a
  have E_a_2 : Exa Z h2 a "java/util/ArrayList" := E_a_1.wr W2
  have F_a_modCount_2 : Fld Z h2 a "java/util/AbstractList" "modCount" "I" (.int a_modCount) := F_a_modCount_1.other W2 (Or.inr (slot_ne (Or.inl (hw _ (List.mem_of_getElem? (i := 38) rfl))) (Or.inl (hw _ (List.mem_of_getElem? (i := 54) rfl))) (by decide) (t := .int) (t' := .int) (by decide) (by decide)))
  have F_a_elementData_2 : Fld Z h2 a "java/util/ArrayList" "elementData" "[Ljava/lang/Object;" (.ref d) := F_a_elementData_1.other W2 (Or.inr (slot_ne (Or.inl (hw _ (List.mem_of_getElem? (i := 41) rfl))) (Or.inl (hw _ (List.mem_of_getElem? (i := 54) rfl))) (by decide) (t := (.array (.object "java/lang/Object"))) (t' := .int) (by decide) (by decide)))
  have E_y_2 : Exa Z h2 y "com/example/rallypoint/rallypoint/protocol/MultiRequest$Op" := E_y_1.wr W2
  have Ad_2 : OArrR Z h2 d 10 (own_L Value.null ([(.ref x0), (.ref x1), (.ref y), .null, .null, .null, .null, .null, .null, .null] : List Value)) := Ad_1.other W2 (Ne.symm ne_a_d)
  have Zn2 : n0 ≤ h2.size := Nat.le_trans Zn1 (Nat.le_of_eq W2.size.symm)
  have K2 : Keep h0 h2 [a, d] := K1.wr W2 (Or.inl (List.mem_of_getElem? (i := 0) rfl))
  refine OGo.st (T' := T2) (g' := (mkF m 22 #[.val (.ref a), .val (.ref y), .val (.ref d), .val (.int (2 : Int32))] [])) (fun _ k => st2 _ k) ?_
  exact OGo.retV X2 hx hlk Bd.returns (hb hby own_d_jdk_38_method_24_22) (by decide) (by decide) e2 (⟨rfl, N2, K2, F_a_modCount_2, F_a_elementData_2, F_a_size_2, Ad_2⟩)
theorem own_ef_rmAd2 (m : MethodId) (x0 : Addr) (x1 : Addr) : entryFrame m #[(.ref x0), (.ref x1)] 2 = mkF m 0 #[.val (.ref x0), .val (.ref x1)] [] := by first | (simp [entryFrame, mkF, argsToLocals, Value.category]; done) | rfl
def R_rmAd2 : Room := { frames := 1, cells := 0, slots := 0, locals := 15 }
def Q_rmAd2 (Z : State) (a : Addr) (a_modCount : Int32) (y : Addr) (d : Addr) (x0 : Addr) (x1 : Addr) (h0 : Heap) (n0 : Nat) (v : Option Value) (h : Heap) (L : List Loc) : Prop := v = some (.int (1 : Int32)) ∧ Fr n0 L ∧ Keep h0 h [a, d] ∧ Fld Z h a "java/util/AbstractList" "modCount" "I" (.int (a_modCount + (1 : Int32))) ∧ Fld Z h a "java/util/ArrayList" "elementData" "[Ljava/lang/Object;" (.ref d) ∧ Fld Z h a "java/util/ArrayList" "size" "I" (.int (3 : Int32)) ∧ OArrR Z h d 10 (own_L Value.null ([(.ref x0), (.ref x1), (.ref y), .null, .null, .null, .null, .null, .null, .null] : List Value))
set_option maxRecDepth 65536 in
set_option maxHeartbeats 40000000 in
theorem rmAd2 (l : Launch) (Z : State) (a0 : Array Value) (hw : ∀ d ∈ tables_1, d.before a0 Z = true) (ws : List Jvm.Cond) (a : Addr) (a_modCount : Int32) (y : Addr) (d : Addr) (x0 : Addr) (x1 : Addr) (h0 : Heap) (n0 : Nat) (Z0 : n0 ≤ h0.size) (E_a : Exa Z h0 a "java/util/ArrayList") (F_a_modCount : Fld Z h0 a "java/util/AbstractList" "modCount" "I" (.int a_modCount)) (F_a_elementData : Fld Z h0 a "java/util/ArrayList" "elementData" "[Ljava/lang/Object;" (.ref d)) (F_a_size : Fld Z h0 a "java/util/ArrayList" "size" "I" (.int (2 : Int32))) (E_y : Exa Z h0 y "com/example/rallypoint/rallypoint/protocol/MultiRequest$Op") (A_d : OArrR Z h0 d 10 (own_L Value.null ([(.ref x0), (.ref x1), .null, .null, .null, .null, .null, .null, .null, .null] : List Value))) (g_a : n0 ≤ a) (g_d : n0 ≤ d) (ne_a_y : a ≠ y) (ne_a_d : a ≠ d) (ne_y_d : y ≠ d) :
    MetFree l (⟨"java/util/ArrayList", "add", "(Ljava/lang/Object;)Z"⟩ : MethodName) (head1 (Jvm.Cond.code (⟨"java/util/ArrayList", "add", "(Ljava/lang/Object;)Z"⟩ : MethodName) jdk_38_method_25_code 2 (some .boolean) :: ws) R_rmAd2) (fun vs_ U => vs_ = #[(.ref a), (.ref y)] ∧ Z.Warmed39 U.vm ∧ U.heap = h0) (fun _ _ _ _ _ => True) (fun _ U o U' => ∃ v L, o = .returned v ∧ Q_rmAd2 Z a a_modCount y d x0 x1 h0 n0 v U'.heap L ∧ FrameEnd U o U' L R_rmAd2.cells R_rmAd2.slots) := by
  refine MetFree.of_bodySF (plainFor_of_name own_pn8) hisR ?_
  intro p e s m args below meth c s₁ Bd hml0 hP hK
  obtain ⟨rfl, hZ, hh⟩ := hP
  have hx := Bd.exec
  have hby := Bd.bytes
  have hml : c.maxLocals = 2 := hml0
  have hown : s.vm.findClass "java/util/ArrayList" = some m.cls := findClass_of_methodNamed Bd.named
  have hnm := (name_of_methodNamed Bd.named Bd.method).1
  have hlk : meth.locks = false := BodyLoose.notSynchronized Bd
  have X0 : Stand p l e R_rmAd2 s m #[(.ref a), (.ref y)] below meth c s₁ [] 0 0 := Stand.of_body Bd
  have e0 : s₁.heap = h0 := by rw [← hh, Bd.state]; rfl
  have N0 := Fr.nil n0
  have K0 : Keep h0 h0 [a, d] := Keep.refl _ _
  refine OGo.en (Q := Q_rmAd2 Z a a_modCount y d x0 x1 h0 n0) (C := R_rmAd2.cells) (S := R_rmAd2.slots) (own_ef_rmAd2 m a y) ?_
  refine OGo.st (T' := s₁) (g' := (mkF m 2 #[.val (.ref a), .val (.ref y)] [(.ref a), (.ref a)])) (fun _ k => (XS.aloadN X0.here hx rfl (hb hby own_d_jdk_38_method_25_0) rfl rfl (XS.dup X0.here hx rfl (hb hby own_d_jdk_38_method_25_1) rfl rfl k))) ?_
  obtain ⟨T1, X1, e1, st1⟩ := getF X0 hx hZ hown (host := "") (Or.inl (hw _ (List.mem_of_getElem? (i := 51) rfl))) (Via.of (hw _ (List.mem_of_getElem? (i := 52) rfl))) e0 F_a_modCount (g := (mkF m 2 #[.val (.ref a), .val (.ref y)] [(.ref a), (.ref a)])) rfl rfl (hb hby own_d_jdk_38_method_25_2)
  refine OGo.st (T' := T1) (g' := (mkF m 5 #[.val (.ref a), .val (.ref y)] [(.int a_modCount), (.ref a)])) (fun _ k => st1 _ k) ?_
  refine OGo.st (T' := T1) (g' := (mkF m 7 #[.val (.ref a), .val (.ref y)] [(.int (a_modCount + (1 : Int32))), (.ref a)])) (fun _ k => (XS.iconst X1.here hx rfl (hb hby own_d_jdk_38_method_25_5) (XS.iadd X1.here hx rfl (hb hby own_d_jdk_38_method_25_6) rfl k))) ?_
  obtain ⟨T2, h2, X2, e2, W2, st2⟩ := putF X1 hx hZ hown (host := "") (Or.inl (hw _ (List.mem_of_getElem? (i := 51) rfl))) (Via.of (hw _ (List.mem_of_getElem? (i := 52) rfl))) e1 F_a_modCount E_a (Or.inl (hw _ (List.mem_of_getElem? (i := 38) rfl))) (hw _ (List.mem_of_getElem? (i := 19) rfl)) (ty := .int) (by decide) rfl rfl (g := (mkF m 7 #[.val (.ref a), .val (.ref y)] [(.int (a_modCount + (1 : Int32))), (.ref a)])) rfl rfl (hb hby own_d_jdk_38_method_25_7)
  have F_a_modCount_2 : Fld Z h2 a "java/util/AbstractList" "modCount" "I" (.int (a_modCount + (1 : Int32))) := F_a_modCount.same W2
  have N2 := Fr.snoc X2 N0 g_a
  have E_a_2 : Exa Z h2 a "java/util/ArrayList" := E_a.wr W2
  have F_a_elementData_2 : Fld Z h2 a "java/util/ArrayList" "elementData" "[Ljava/lang/Object;" (.ref d) := F_a_elementData.other W2 (Or.inr (slot_ne (Or.inl (hw _ (List.mem_of_getElem? (i := 41) rfl))) (Or.inl (hw _ (List.mem_of_getElem? (i := 38) rfl))) (by decide) (t := (.array (.object "java/lang/Object"))) (t' := .int) (by decide) (by decide)))
  have F_a_size_2 : Fld Z h2 a "java/util/ArrayList" "size" "I" (.int (2 : Int32)) := F_a_size.other W2 (Or.inr (slot_ne (Or.inl (hw _ (List.mem_of_getElem? (i := 54) rfl))) (Or.inl (hw _ (List.mem_of_getElem? (i := 38) rfl))) (by decide) (t := .int) (t' := .int) (by decide) (by decide)))
  have E_y_2 : Exa Z h2 y "com/example/rallypoint/rallypoint/protocol/MultiRequest$Op" := E_y.wr W2
  have A_d_2 : OArrR Z h2 d 10 (own_L Value.null ([(.ref x0), (.ref x1), .null, .null, .null, .null, .null, .null, .null, .null] : List Value)) := A_d.other W2 (Ne.symm ne_a_d)
  have Zn2 : n0 ≤ h2.size := Nat.le_trans Z0 (Nat.le_of_eq W2.size.symm)
  have K2 : Keep h0 h2 [a, d] := K0.wr W2 (Or.inl (List.mem_of_getElem? (i := 0) rfl))
  refine OGo.st (T' := T2) (g' := (mkF m 10 #[.val (.ref a), .val (.ref y)] [])) (fun _ k => st2 _ k) ?_
  refine OGo.st (T' := T2) (g' := (mkF m 13 #[.val (.ref a), .val (.ref y)] [(.ref a), (.ref y), (.ref a)])) (fun _ k => (XS.aloadN X2.here hx rfl (hb hby own_d_jdk_38_method_25_10) rfl rfl (XS.aloadN X2.here hx rfl (hb hby own_d_jdk_38_method_25_11) rfl rfl (XS.aloadN X2.here hx rfl (hb hby own_d_jdk_38_method_25_12) rfl rfl k)))) ?_
  obtain ⟨T3, X3, e3, st3⟩ := getF X2 hx hZ hown (host := "") (Or.inl (hw _ (List.mem_of_getElem? (i := 40) rfl))) Via.refl e2 F_a_elementData_2 (g := (mkF m 13 #[.val (.ref a), .val (.ref y)] [(.ref a), (.ref y), (.ref a)])) rfl rfl (hb hby own_d_jdk_38_method_25_13)
  refine OGo.st (T' := T3) (g' := (mkF m 16 #[.val (.ref a), .val (.ref y)] [(.ref d), (.ref y), (.ref a)])) (fun _ k => st3 _ k) ?_
  refine OGo.st (T' := T3) (g' := (mkF m 17 #[.val (.ref a), .val (.ref y)] [(.ref a), (.ref d), (.ref y), (.ref a)])) (fun _ k => (XS.aloadN X3.here hx rfl (hb hby own_d_jdk_38_method_25_16) rfl rfl k)) ?_
  obtain ⟨T4, X4, e4, st4⟩ := getF X3 hx hZ hown (host := "") (Or.inl (hw _ (List.mem_of_getElem? (i := 53) rfl))) Via.refl e3 F_a_size_2 (g := (mkF m 17 #[.val (.ref a), .val (.ref y)] [(.ref a), (.ref d), (.ref y), (.ref a)])) rfl rfl (hb hby own_d_jdk_38_method_25_17)
  refine OGo.st (T' := T4) (g' := (mkF m 20 #[.val (.ref a), .val (.ref y)] [(.int (2 : Int32)), (.ref d), (.ref y), (.ref a)])) (fun _ k => st4 _ k) ?_
  obtain ⟨cq5, q5, q5'⟩ := E_a_2.cell
  obtain ⟨_, _, ⟨T5, L5, k5, n5⟩, -, X5, ⟨Lc5, hQ5, l5, y5, z5⟩, st5⟩ := X4.privateBack hx (y := (⟨"java/util/ArrayList", "add", "(Ljava/lang/Object;[Ljava/lang/Object;I)V"⟩ : MethodName)) hown (mvT hZ (hw _ (List.mem_of_getElem? (i := 55) rfl))) (mvT hZ (hw _ (List.mem_of_getElem? (i := 56) rfl))) (mvT hZ (hw _ (List.mem_of_getElem? (i := 58) rfl))) (Cond.privateMethod_at (mvP hZ (hw _ (List.mem_of_getElem? (i := 57) rfl)) (args := #[]))) (mvT hZ (hw _ (List.mem_of_getElem? (i := 59) rfl))) (by decide) (backOf (W := 0) (rmPa2 l Z a0 hw [] (a) ((a_modCount + (1 : Int32))) (y) (d) (x0) (x1) h2 n0 Zn2 (E_a_2) (F_a_modCount_2) (F_a_elementData_2) (F_a_size_2) (E_y_2) (A_d_2) (g_a) (g_d) (ne_a_y) (ne_a_d) (ne_y_d)) hZ (hw _ (List.mem_of_getElem? (i := 59) rfl)) (hw _ (List.mem_of_getElem? (i := 20) rfl)) (by decide) (by decide)) (g := (mkF m 20 #[.val (.ref a), .val (.ref y)] [(.int (2 : Int32)), (.ref d), (.ref y), (.ref a)])) rfl (by rw [hml]; rfl) (Steps.refl _) (a := a) (by rw [e4]; exact q5) q5' (argsL := [(.ref y), (.ref d), (.int (2 : Int32))]) (rest := []) (lenOf own_pd14 rfl) rfl (by show 2 * 0 + _ ≤ _; exact Nat.le_of_eq rfl) (hb hby own_d_jdk_38_method_25_20) (fun _ _ => ⟨rfl, e4, (by decide : 0 + 0 ≤ _), (by decide : 0 + 0 ≤ _)⟩)
  dsimp only [Pt.U, Pt.locs, Pt.cells, Pt.slots] at X5 l5 y5 z5 st5 hQ5
  subst l5 y5 z5
  have X5 : Stand p l e R_rmAd2 s m _ below meth c T5 _ 0 0 := X5
  obtain ⟨h5, e5⟩ : ∃ z, T5.heap = z := ⟨_, rfl⟩
  rw [e5] at hQ5
  obtain ⟨rfl, Nq5, Kc5, G5x0, G5x1, G5x2, G5x3⟩ := hQ5
  have N5 := Fr.app N2 Nq5
  have E_a_5 : Exa Z h5 a "java/util/ArrayList" := E_a_2.keep Kc5
  have E_y_5 : Exa Z h5 y "com/example/rallypoint/rallypoint/protocol/MultiRequest$Op" := E_y_2.keep Kc5
  have Zn5 : n0 ≤ h5.size := Nat.le_trans Zn2 Kc5.1
  have K5 : Keep h0 h5 [a, d] := K2.trans Kc5 (allS (Or.inl (List.mem_of_getElem? (i := 0) rfl)) (allS (Or.inl (List.mem_of_getElem? (i := 1) rfl)) all0))
  refine OGo.st (T' := T5) (g' := (mkF m 23 #[.val (.ref a), .val (.ref y)] [])) (fun _ k => st5.trans k) ?_
  refine OGo.st (T' := T5) (g' := (mkF m 24 #[.val (.ref a), .val (.ref y)] [(.int (1 : Int32))])) (fun _ k => (XS.iconst X5.here hx rfl (hb hby own_d_jdk_38_method_25_23) k)) ?_
  exact OGo.ret X5 hx hlk Bd.returns rfl (own_rI (Or.inr (Or.inl rfl))) (hb hby own_d_jdk_38_method_25_24) (by decide) (by decide) e5 (⟨rfl, N5, K5, G5x0, G5x1, G5x2, G5x3⟩)
theorem own_ef_rmSz (m : MethodId) (x0 : Addr) : entryFrame m #[(.ref x0)] 1 = mkF m 0 #[.val (.ref x0)] [] := by first | (simp [entryFrame, mkF, argsToLocals, Value.category]; done) | rfl
def R_rmSz : Room := { frames := 0, cells := 0, slots := 0, locals := 0 }
def Q_rmSz (Z : State) (a : Addr) (a_size : Int32) (h0 : Heap) (n0 : Nat) (v : Option Value) (h : Heap) (L : List Loc) : Prop := v = some (.int a_size) ∧ Fr n0 L ∧ h = h0
set_option maxRecDepth 65536 in
set_option maxHeartbeats 40000000 in
theorem rmSz (l : Launch) (Z : State) (a0 : Array Value) (hw : ∀ d ∈ tables_1, d.before a0 Z = true) (ws : List Jvm.Cond) (a : Addr) (a_size : Int32) (h0 : Heap) (n0 : Nat) (Z0 : n0 ≤ h0.size) (F_a_size : Fld Z h0 a "java/util/ArrayList" "size" "I" (.int a_size)) :
    MetFree l (⟨"java/util/ArrayList", "size", "()I"⟩ : MethodName) (head1 (Jvm.Cond.code (⟨"java/util/ArrayList", "size", "()I"⟩ : MethodName) jdk_38_method_8_code 1 (some .int) :: ws) R_rmSz) (fun vs_ U => vs_ = #[(.ref a)] ∧ Z.Warmed39 U.vm ∧ U.heap = h0) (fun _ _ _ _ _ => True) (fun _ U o U' => ∃ v L, o = .returned v ∧ Q_rmSz Z a a_size h0 n0 v U'.heap L ∧ FrameEnd U o U' L R_rmSz.cells R_rmSz.slots) := by
  refine MetFree.of_bodySF (plainFor_of_name own_pn8) hisR ?_
  intro p e s m args below meth c s₁ Bd hml0 hP hK
  obtain ⟨rfl, hZ, hh⟩ := hP
  have hx := Bd.exec
  have hby := Bd.bytes
  have hml : c.maxLocals = 1 := hml0
  have hown : s.vm.findClass "java/util/ArrayList" = some m.cls := findClass_of_methodNamed Bd.named
  have hnm := (name_of_methodNamed Bd.named Bd.method).1
  have hlk : meth.locks = false := BodyLoose.notSynchronized Bd
  have X0 : Stand p l e R_rmSz s m #[(.ref a)] below meth c s₁ [] 0 0 := Stand.of_body Bd
  have e0 : s₁.heap = h0 := by rw [← hh, Bd.state]; rfl
  have N0 := Fr.nil n0
  refine OGo.en (Q := Q_rmSz Z a a_size h0 n0) (C := R_rmSz.cells) (S := R_rmSz.slots) (own_ef_rmSz m a) ?_
  refine OGo.st (T' := s₁) (g' := (mkF m 1 #[.val (.ref a)] [(.ref a)])) (fun _ k => (XS.aloadN X0.here hx rfl (hb hby own_d_jdk_38_method_8_0) rfl rfl k)) ?_
  obtain ⟨T1, X1, e1, st1⟩ := getF X0 hx hZ hown (host := "") (Or.inl (hw _ (List.mem_of_getElem? (i := 53) rfl))) Via.refl e0 F_a_size (g := (mkF m 1 #[.val (.ref a)] [(.ref a)])) rfl rfl (hb hby own_d_jdk_38_method_8_1)
  refine OGo.st (T' := T1) (g' := (mkF m 4 #[.val (.ref a)] [(.int a_size)])) (fun _ k => st1 _ k) ?_
  exact OGo.ret X1 hx hlk Bd.returns rfl (own_rI (Or.inl rfl)) (hb hby own_d_jdk_38_method_8_4) (by decide) (by decide) e1 (⟨rfl, N0, rfl⟩)
theorem own_ef_rmCi (m : MethodId) (x0 : Int32) (x1 : Int32) : entryFrame m #[(.int x0), (.int x1), .null] 3 = mkF m 0 #[.val (.int x0), .val (.int x1), .val .null] [] := by first | (simp [entryFrame, mkF, argsToLocals, Value.category]; done) | rfl
def R_rmCi : Room := { frames := 0, cells := 0, slots := 0, locals := 0 }
def Q_rmCi (Z : State) (q0 : Int32) (q1 : Int32) (h0 : Heap) (n0 : Nat) (v : Option Value) (h : Heap) (L : List Loc) : Prop := v = some (.int q0) ∧ Fr n0 L ∧ h = h0
set_option maxRecDepth 65536 in
set_option maxHeartbeats 40000000 in
theorem rmCi (l : Launch) (Z : State) (a0 : Array Value) (hw : ∀ d ∈ tables_1, d.before a0 Z = true) (ws : List Jvm.Cond) (q0 : Int32) (q1 : Int32) (h0 : Heap) (n0 : Nat) (Z0 : n0 ≤ h0.size) (hnn : ¬ (q0 < (0 : Int32))) (hlt : q0 < q1) :
    MetFree l (⟨"jdk/internal/util/Preconditions", "checkIndex", "(IILjava/util/function/BiFunction;)I"⟩ : MethodName) (head1 (Jvm.Cond.code (⟨"jdk/internal/util/Preconditions", "checkIndex", "(IILjava/util/function/BiFunction;)I"⟩ : MethodName) jdk_41_method_11_code 3 (some .int) :: ws) R_rmCi) (fun vs_ U => vs_ = #[(.int q0), (.int q1), .null] ∧ Z.Warmed39 U.vm ∧ U.heap = h0) (fun _ _ _ _ _ => True) (fun _ U o U' => ∃ v L, o = .returned v ∧ Q_rmCi Z q0 q1 h0 n0 v U'.heap L ∧ FrameEnd U o U' L R_rmCi.cells R_rmCi.slots) := by
  refine MetFree.of_bodySF (plainFor_of_name own_pn10) hisR ?_
  intro p e s m args below meth c s₁ Bd hml0 hP hK
  obtain ⟨rfl, hZ, hh⟩ := hP
  have hx := Bd.exec
  have hby := Bd.bytes
  have hml : c.maxLocals = 3 := hml0
  have hown : s.vm.findClass "jdk/internal/util/Preconditions" = some m.cls := findClass_of_methodNamed Bd.named
  have hnm := (name_of_methodNamed Bd.named Bd.method).1
  have hlk : meth.locks = false := BodyLoose.notSynchronized Bd
  have X0 : Stand p l e R_rmCi s m #[(.int q0), (.int q1), .null] below meth c s₁ [] 0 0 := Stand.of_body Bd
  have e0 : s₁.heap = h0 := by rw [← hh, Bd.state]; rfl
  have N0 := Fr.nil n0
  refine OGo.en (Q := Q_rmCi Z q0 q1 h0 n0) (C := R_rmCi.cells) (S := R_rmCi.slots) (own_ef_rmCi m q0 q1) ?_
  refine OGo.st (T' := s₁) (g' := (mkF m 17 #[.val (.int q0), .val (.int q1), .val .null] [(.int q0)])) (fun _ k => (XS.iloadN X0.here hx rfl (hb hby own_d_jdk_41_method_11_0) rfl (XS.ifNo X0.here hx rfl (hb hby own_d_jdk_41_method_11_1) rfl ((if0 _ _).trans (flt hnn).1) (XS.iloadN X0.here hx rfl (hb hby own_d_jdk_41_method_11_4) rfl (XS.iloadN X0.here hx rfl (hb hby own_d_jdk_41_method_11_5) rfl (XS.icmpYes X0.here hx rfl (pc0 := 6) (pc' := 16) rfl (hb hby own_d_jdk_41_method_11_6) rfl (tlt hlt).1 (by decide) (by decide) (XS.iloadN X0.here hx rfl (hb hby own_d_jdk_41_method_11_16) rfl k))))))) ?_
  exact OGo.ret X0 hx hlk Bd.returns rfl (own_rI (Or.inl rfl)) (hb hby own_d_jdk_41_method_11_17) (by decide) (by decide) e0 (⟨rfl, N0, rfl⟩)
theorem own_ef_rmOc (m : MethodId) (x0 : Int32) (x1 : Int32) : entryFrame m #[(.int x0), (.int x1)] 2 = mkF m 0 #[.val (.int x0), .val (.int x1)] [] := by first | (simp [entryFrame, mkF, argsToLocals, Value.category]; done) | rfl
def R_rmOc : Room := { frames := 1, cells := 0, slots := 0, locals := 14 }
def Q_rmOc (Z : State) (q0 : Int32) (q1 : Int32) (h0 : Heap) (n0 : Nat) (v : Option Value) (h : Heap) (L : List Loc) : Prop := v = some (.int q0) ∧ Fr n0 L ∧ h = h0
set_option maxRecDepth 65536 in
set_option maxHeartbeats 40000000 in
theorem rmOc (l : Launch) (Z : State) (a0 : Array Value) (hw : ∀ d ∈ tables_1, d.before a0 Z = true) (ws : List Jvm.Cond) (q0 : Int32) (q1 : Int32) (h0 : Heap) (n0 : Nat) (Z0 : n0 ≤ h0.size) (hnn : ¬ (q0 < (0 : Int32))) (hlt : q0 < q1) :
    MetFree l (⟨"java/util/Objects", "checkIndex", "(II)I"⟩ : MethodName) (head1 (Jvm.Cond.code (⟨"java/util/Objects", "checkIndex", "(II)I"⟩ : MethodName) jdk_31_method_17_code 2 (some .int) :: ws) R_rmOc) (fun vs_ U => vs_ = #[(.int q0), (.int q1)] ∧ Z.Warmed39 U.vm ∧ U.heap = h0) (fun _ _ _ _ _ => True) (fun _ U o U' => ∃ v L, o = .returned v ∧ Q_rmOc Z q0 q1 h0 n0 v U'.heap L ∧ FrameEnd U o U' L R_rmOc.cells R_rmOc.slots) := by
  refine MetFree.of_bodySF (plainFor_of_name own_pn9) hisR ?_
  intro p e s m args below meth c s₁ Bd hml0 hP hK
  obtain ⟨rfl, hZ, hh⟩ := hP
  have hx := Bd.exec
  have hby := Bd.bytes
  have hml : c.maxLocals = 2 := hml0
  have hown : s.vm.findClass "java/util/Objects" = some m.cls := findClass_of_methodNamed Bd.named
  have hnm := (name_of_methodNamed Bd.named Bd.method).1
  have hlk : meth.locks = false := BodyLoose.notSynchronized Bd
  have X0 : Stand p l e R_rmOc s m #[(.int q0), (.int q1)] below meth c s₁ [] 0 0 := Stand.of_body Bd
  have e0 : s₁.heap = h0 := by rw [← hh, Bd.state]; rfl
  have N0 := Fr.nil n0
  refine OGo.en (Q := Q_rmOc Z q0 q1 h0 n0) (C := R_rmOc.cells) (S := R_rmOc.slots) (own_ef_rmOc m q0 q1) ?_
  refine OGo.st (T' := s₁) (g' := (mkF m 3 #[.val (.int q0), .val (.int q1)] [.null, (.int q1), (.int q0)])) (fun _ k => (XS.iloadN X0.here hx rfl (hb hby own_d_jdk_31_method_17_0) rfl (XS.iloadN X0.here hx rfl (hb hby own_d_jdk_31_method_17_1) rfl (XS.aconstNull X0.here hx rfl (hb hby own_d_jdk_31_method_17_2) k)))) ?_
  obtain ⟨_, _, ⟨T1, L1, k1, n1⟩, -, X1, ⟨Lc1, hQ1, l1, y1, z1⟩, st1⟩ := Jvm.LawKit.callS X0 hx (y := (⟨"jdk/internal/util/Preconditions", "checkIndex", "(IILjava/util/function/BiFunction;)I"⟩ : MethodName)) hown (mvT hZ (hw _ (List.mem_of_getElem? (i := 139) rfl))) (mvT hZ (hw _ (List.mem_of_getElem? (i := 140) rfl))) (mvT hZ (hw _ (List.mem_of_getElem? (i := 141) rfl))) (mvT hZ (hw _ (List.mem_of_getElem? (i := 142) rfl))) (by decide) (backOf (W := 0) (rmCi l Z a0 hw [] (q0) (q1) h0 n0 Z0 (hnn) (hlt)) hZ (hw _ (List.mem_of_getElem? (i := 142) rfl)) (hw _ (List.mem_of_getElem? (i := 141) rfl)) (by decide) (by decide)) (g := (mkF m 3 #[.val (.int q0), .val (.int q1)] [.null, (.int q1), (.int q0)])) rfl (by rw [hml]; rfl) (argsL := [(.int q0), (.int q1), .null]) (rest := []) (lenOf own_pd8 rfl) rfl (by show 2 * 0 + _ ≤ _; exact Nat.le_of_eq rfl) (hb hby own_d_jdk_31_method_17_3) (fun _ _ => ⟨rfl, e0, (by decide : 0 + 0 ≤ _), (by decide : 0 + 0 ≤ _)⟩)
  dsimp only [Pt.U, Pt.locs, Pt.cells, Pt.slots] at X1 l1 y1 z1 st1 hQ1
  subst l1 y1 z1
  have X1 : Stand p l e R_rmOc s m _ below meth c T1 _ 0 0 := X1
  obtain ⟨rfl, Nq1, e1⟩ := hQ1
  have N1 := Fr.app N0 Nq1
  refine OGo.st (T' := T1) (g' := (mkF m 6 #[.val (.int q0), .val (.int q1)] [(.int q0)])) (fun _ k => st1 _ k) ?_
  exact OGo.ret X1 hx hlk Bd.returns rfl (own_rI (Or.inl rfl)) (hb hby own_d_jdk_31_method_17_6) (by decide) (by decide) e1 (⟨rfl, N1, rfl⟩)
theorem own_ef_rmEd (m : MethodId) (x0 : Addr) (x1 : Int32) : entryFrame m #[(.ref x0), (.int x1)] 2 = mkF m 0 #[.val (.ref x0), .val (.int x1)] [] := by first | (simp [entryFrame, mkF, argsToLocals, Value.category]; done) | rfl
def R_rmEd : Room := { frames := 0, cells := 0, slots := 0, locals := 0 }
def Q_rmEd (Z : State) (a : Addr) (q1 : Int32) (d : Addr) (n_d : Nat) (f_d : Nat → Value) (kk : Nat) (x0 : Addr) (h0 : Heap) (n0 : Nat) (v : Option Value) (h : Heap) (L : List Loc) : Prop := v = some (.ref x0) ∧ Fr n0 L ∧ h = h0
set_option maxRecDepth 65536 in
set_option maxHeartbeats 40000000 in
theorem rmEd (l : Launch) (Z : State) (a0 : Array Value) (hw : ∀ d ∈ tables_1, d.before a0 Z = true) (ws : List Jvm.Cond) (a : Addr) (q1 : Int32) (d : Addr) (n_d : Nat) (f_d : Nat → Value) (kk : Nat) (x0 : Addr) (h0 : Heap) (n0 : Nat) (Z0 : n0 ≤ h0.size) (F_a_elementData : Fld Z h0 a "java/util/ArrayList" "elementData" "[Ljava/lang/Object;" (.ref d)) (A_d : OArrR Z h0 d n_d f_d) (hix : own_ix q1 kk) (hk : kk < n_d) (hv : (f_d kk) = Value.ref x0) :
    MetFree l (⟨"java/util/ArrayList", "elementData", "(I)Ljava/lang/Object;"⟩ : MethodName) (head1 (Jvm.Cond.code (⟨"java/util/ArrayList", "elementData", "(I)Ljava/lang/Object;"⟩ : MethodName) jdk_38_method_18_code 2 (some (.object "java/lang/Object")) :: ws) R_rmEd) (fun vs_ U => vs_ = #[(.ref a), (.int q1)] ∧ Z.Warmed39 U.vm ∧ U.heap = h0) (fun _ _ _ _ _ => True) (fun _ U o U' => ∃ v L, o = .returned v ∧ Q_rmEd Z a q1 d n_d f_d kk x0 h0 n0 v U'.heap L ∧ FrameEnd U o U' L R_rmEd.cells R_rmEd.slots) := by
  refine MetFree.of_bodySF (plainFor_of_name own_pn8) hisR ?_
  intro p e s m args below meth c s₁ Bd hml0 hP hK
  obtain ⟨rfl, hZ, hh⟩ := hP
  have hx := Bd.exec
  have hby := Bd.bytes
  have hml : c.maxLocals = 2 := hml0
  have hown : s.vm.findClass "java/util/ArrayList" = some m.cls := findClass_of_methodNamed Bd.named
  have hnm := (name_of_methodNamed Bd.named Bd.method).1
  have hlk : meth.locks = false := BodyLoose.notSynchronized Bd
  have X0 : Stand p l e R_rmEd s m #[(.ref a), (.int q1)] below meth c s₁ [] 0 0 := Stand.of_body Bd
  have e0 : s₁.heap = h0 := by rw [← hh, Bd.state]; rfl
  have N0 := Fr.nil n0
  refine OGo.en (Q := Q_rmEd Z a q1 d n_d f_d kk x0 h0 n0) (C := R_rmEd.cells) (S := R_rmEd.slots) (own_ef_rmEd m a q1) ?_
  refine OGo.st (T' := s₁) (g' := (mkF m 1 #[.val (.ref a), .val (.int q1)] [(.ref a)])) (fun _ k => (XS.aloadN X0.here hx rfl (hb hby own_d_jdk_38_method_18_0) rfl rfl k)) ?_
  obtain ⟨T1, X1, e1, st1⟩ := getF X0 hx hZ hown (host := "") (Or.inl (hw _ (List.mem_of_getElem? (i := 40) rfl))) Via.refl e0 F_a_elementData (g := (mkF m 1 #[.val (.ref a), .val (.int q1)] [(.ref a)])) rfl rfl (hb hby own_d_jdk_38_method_18_1)
  refine OGo.st (T' := T1) (g' := (mkF m 4 #[.val (.ref a), .val (.int q1)] [(.ref d)])) (fun _ k => st1 _ k) ?_
  refine OGo.st (T' := T1) (g' := (mkF m 5 #[.val (.ref a), .val (.int q1)] [(.int q1), (.ref d)])) (fun _ k => (XS.iloadN X1.here hx rfl (hb hby own_d_jdk_38_method_18_4) rfl k)) ?_
  refine OGo.st (T' := T1) (g' := (mkF m 6 #[.val (.ref a), .val (.int q1)] [(f_d kk)])) (fun _ k => (own_ldR X1 hx hZ e1 A_d (j := q1) (i := kk) hix hk (g := (mkF m 5 #[.val (.ref a), .val (.int q1)] [(.int q1), (.ref d)])) rfl rfl (hb hby own_d_jdk_38_method_18_5) _ k)) ?_
  rw [show (f_d kk) = Value.ref x0 from hv]
  exact OGo.ret X1 hx hlk Bd.returns rfl (own_rR rfl rfl) (hb hby own_d_jdk_38_method_18_6) (by decide) (by decide) e1 (⟨rfl, N0, rfl⟩)
theorem own_ef_rmGt (m : MethodId) (x0 : Addr) (x1 : Int32) : entryFrame m #[(.ref x0), (.int x1)] 2 = mkF m 0 #[.val (.ref x0), .val (.int x1)] [] := by first | (simp [entryFrame, mkF, argsToLocals, Value.category]; done) | rfl
def R_rmGt : Room := { frames := 2, cells := 0, slots := 0, locals := 27 }
def Q_rmGt (Z : State) (a : Addr) (a_size : Int32) (q1 : Int32) (d : Addr) (n_d : Nat) (f_d : Nat → Value) (kk : Nat) (x0 : Addr) (h0 : Heap) (n0 : Nat) (v : Option Value) (h : Heap) (L : List Loc) : Prop := v = some (.ref x0) ∧ Fr n0 L ∧ h = h0
set_option maxRecDepth 65536 in
set_option maxHeartbeats 40000000 in
theorem rmGt (l : Launch) (Z : State) (a0 : Array Value) (hw : ∀ d ∈ tables_1, d.before a0 Z = true) (ws : List Jvm.Cond) (a : Addr) (a_size : Int32) (q1 : Int32) (d : Addr) (n_d : Nat) (f_d : Nat → Value) (kk : Nat) (x0 : Addr) (h0 : Heap) (n0 : Nat) (Z0 : n0 ≤ h0.size) (E_a : Exa Z h0 a "java/util/ArrayList") (F_a_elementData : Fld Z h0 a "java/util/ArrayList" "elementData" "[Ljava/lang/Object;" (.ref d)) (F_a_size : Fld Z h0 a "java/util/ArrayList" "size" "I" (.int a_size)) (A_d : OArrR Z h0 d n_d f_d) (hix : own_ix q1 kk) (hk : kk < n_d) (hv : (f_d kk) = Value.ref x0) (hnn : ¬ (q1 < (0 : Int32))) (hlt : q1 < a_size) :
    MetFree l (⟨"java/util/ArrayList", "get", "(I)Ljava/lang/Object;"⟩ : MethodName) (head1 (Jvm.Cond.code (⟨"java/util/ArrayList", "get", "(I)Ljava/lang/Object;"⟩ : MethodName) jdk_38_method_20_code 2 (some (.object "java/lang/Object")) :: ws) R_rmGt) (fun vs_ U => vs_ = #[(.ref a), (.int q1)] ∧ Z.Warmed39 U.vm ∧ U.heap = h0) (fun _ _ _ _ _ => True) (fun _ U o U' => ∃ v L, o = .returned v ∧ Q_rmGt Z a a_size q1 d n_d f_d kk x0 h0 n0 v U'.heap L ∧ FrameEnd U o U' L R_rmGt.cells R_rmGt.slots) := by
  refine MetFree.of_bodySF (plainFor_of_name own_pn8) hisR ?_
  intro p e s m args below meth c s₁ Bd hml0 hP hK
  obtain ⟨rfl, hZ, hh⟩ := hP
  have hx := Bd.exec
  have hby := Bd.bytes
  have hml : c.maxLocals = 2 := hml0
  have hown : s.vm.findClass "java/util/ArrayList" = some m.cls := findClass_of_methodNamed Bd.named
  have hnm := (name_of_methodNamed Bd.named Bd.method).1
  have hlk : meth.locks = false := BodyLoose.notSynchronized Bd
  have X0 : Stand p l e R_rmGt s m #[(.ref a), (.int q1)] below meth c s₁ [] 0 0 := Stand.of_body Bd
  have e0 : s₁.heap = h0 := by rw [← hh, Bd.state]; rfl
  have N0 := Fr.nil n0
  refine OGo.en (Q := Q_rmGt Z a a_size q1 d n_d f_d kk x0 h0 n0) (C := R_rmGt.cells) (S := R_rmGt.slots) (own_ef_rmGt m a q1) ?_
  refine OGo.st (T' := s₁) (g' := (mkF m 2 #[.val (.ref a), .val (.int q1)] [(.ref a), (.int q1)])) (fun _ k => (XS.iloadN X0.here hx rfl (hb hby own_d_jdk_38_method_20_0) rfl (XS.aloadN X0.here hx rfl (hb hby own_d_jdk_38_method_20_1) rfl rfl k))) ?_
  obtain ⟨T1, X1, e1, st1⟩ := getF X0 hx hZ hown (host := "") (Or.inl (hw _ (List.mem_of_getElem? (i := 53) rfl))) Via.refl e0 F_a_size (g := (mkF m 2 #[.val (.ref a), .val (.int q1)] [(.ref a), (.int q1)])) rfl rfl (hb hby own_d_jdk_38_method_20_2)
  refine OGo.st (T' := T1) (g' := (mkF m 5 #[.val (.ref a), .val (.int q1)] [(.int a_size), (.int q1)])) (fun _ k => st1 _ k) ?_
  obtain ⟨_, _, ⟨T2, L2, k2, n2⟩, -, X2, ⟨Lc2, hQ2, l2, y2, z2⟩, st2⟩ := Jvm.LawKit.callS X1 hx (y := (⟨"java/util/Objects", "checkIndex", "(II)I"⟩ : MethodName)) hown (mvT hZ (hw _ (List.mem_of_getElem? (i := 135) rfl))) (mvT hZ (hw _ (List.mem_of_getElem? (i := 136) rfl))) (mvT hZ (hw _ (List.mem_of_getElem? (i := 137) rfl))) (mvT hZ (hw _ (List.mem_of_getElem? (i := 138) rfl))) (by decide) (backOf (W := 0) (rmOc l Z a0 hw [] (q1) (a_size) h0 n0 Z0 (hnn) (hlt)) hZ (hw _ (List.mem_of_getElem? (i := 138) rfl)) (hw _ (List.mem_of_getElem? (i := 137) rfl)) (by decide) (by decide)) (g := (mkF m 5 #[.val (.ref a), .val (.int q1)] [(.int a_size), (.int q1)])) rfl (by rw [hml]; rfl) (argsL := [(.int q1), (.int a_size)]) (rest := []) (lenOf own_pd7 rfl) rfl (by show 2 * 0 + _ ≤ _; exact Nat.le_of_eq rfl) (hb hby own_d_jdk_38_method_20_5) (fun _ _ => ⟨rfl, e1, (by decide : 0 + 0 ≤ _), (by decide : 0 + 0 ≤ _)⟩)
  dsimp only [Pt.U, Pt.locs, Pt.cells, Pt.slots] at X2 l2 y2 z2 st2 hQ2
  subst l2 y2 z2
  have X2 : Stand p l e R_rmGt s m _ below meth c T2 _ 0 0 := X2
  obtain ⟨rfl, Nq2, e2⟩ := hQ2
  have N2 := Fr.app N0 Nq2
  refine OGo.st (T' := T2) (g' := (mkF m 8 #[.val (.ref a), .val (.int q1)] [(.int q1)])) (fun _ k => st2 _ k) ?_
  refine OGo.st (T' := T2) (g' := (mkF m 11 #[.val (.ref a), .val (.int q1)] [(.int q1), (.ref a)])) (fun _ k => (XS.pop X2.here hx rfl (hb hby own_d_jdk_38_method_20_8) rfl rfl (XS.aloadN X2.here hx rfl (hb hby own_d_jdk_38_method_20_9) rfl rfl (XS.iloadN X2.here hx rfl (hb hby own_d_jdk_38_method_20_10) rfl k)))) ?_
  obtain ⟨cq3, kq3, q3a, q3b, q3c⟩ := isOf hZ e2 E_a
  obtain ⟨_, _, ⟨T3, L3, k3, n3⟩, -, X3, ⟨Lc3, hQ3, l3, y3, z3⟩, st3⟩ := X2.virtualBack hx (y := (⟨"java/util/ArrayList", "elementData", "(I)Ljava/lang/Object;"⟩ : MethodName)) (z := (⟨"java/util/ArrayList", "elementData", "(I)Ljava/lang/Object;"⟩ : MethodName)) hown (mvT hZ (hw _ (List.mem_of_getElem? (i := 143) rfl))) (mvT hZ (hw _ (List.mem_of_getElem? (i := 144) rfl))) (notFace_of_selects (args := #[]) (mvT hZ (hw _ (List.mem_of_getElem? (i := 146) rfl)))) (mvT hZ (hw _ (List.mem_of_getElem? (i := 146) rfl))) (mvT hZ (hw _ (List.mem_of_getElem? (i := 145) rfl))) (by decide) (backOf (W := 0) (rmEd l Z a0 hw [] (a) (q1) (d) (n_d) (f_d) (kk) (x0) h0 n0 Z0 (F_a_elementData) (A_d) (hix) (hk) (hv)) hZ (hw _ (List.mem_of_getElem? (i := 147) rfl)) (hw _ (List.mem_of_getElem? (i := 20) rfl)) (by decide) (by decide)) q3a q3c (g := (mkF m 11 #[.val (.ref a), .val (.int q1)] [(.int q1), (.ref a)])) rfl (by rw [hml]; rfl) (Steps.refl _) (argsL := [(.int q1)]) (rest := []) (lenOf own_pd5 rfl) rfl (by show 2 * 0 + _ ≤ _; exact Nat.le_of_eq rfl) (hb hby own_d_jdk_38_method_20_11) (fun _ _ => ⟨rfl, e2, (by decide : 0 + 0 ≤ _), (by decide : 0 + 0 ≤ _)⟩)
  dsimp only [Pt.U, Pt.locs, Pt.cells, Pt.slots] at X3 l3 y3 z3 st3 hQ3
  subst l3 y3 z3
  have X3 : Stand p l e R_rmGt s m _ below meth c T3 _ 0 0 := X3
  obtain ⟨rfl, Nq3, e3⟩ := hQ3
  have N3 := Fr.app N2 Nq3
  refine OGo.st (T' := T3) (g' := (mkF m 14 #[.val (.ref a), .val (.int q1)] [(.ref x0)])) (fun _ k => st3.trans k) ?_
  exact OGo.ret X3 hx hlk Bd.returns rfl (own_rR rfl rfl) (hb hby own_d_jdk_38_method_20_14) (by decide) (by decide) e3 (⟨rfl, N3, rfl⟩)
theorem own_ef_rmTi (m : MethodId) (x0 : Addr) (x1 : Int64) (x2 : Int64) (x3 : Int64) (x4 : Addr) : entryFrame m #[(.ref x0), (.long x1), (.long x2), (.long x3), (.ref x4)] 8 = mkF m 0 #[.val (.ref x0), .val (.long x1), .second, .val (.long x2), .second, .val (.long x3), .second, .val (.ref x4)] [] := by first | (simp [entryFrame, mkF, argsToLocals, Value.category]; done) | rfl
def R_rmTi : Room := { frames := 2, cells := 0, slots := 0, locals := 24 }
def Q_rmTi (Z : State) (a : Addr) (a_zxid : Int64) (a_time : Int64) (a_session : Int64) (a_ops : Value) (q1 : Int64) (q2 : Int64) (q3 : Int64) (oo : Addr) (h0 : Heap) (n0 : Nat) (v : Option Value) (h : Heap) (L : List Loc) : Prop := v = none ∧ Fr n0 L ∧ Keep h0 h [a] ∧ Fld Z h a "com/example/rallypoint/rallypoint/server/LogEntry$TreeChanged" "zxid" "J" (.long q1) ∧ Fld Z h a "com/example/rallypoint/rallypoint/server/LogEntry$TreeChanged" "time" "J" (.long q2) ∧ Fld Z h a "com/example/rallypoint/rallypoint/server/LogEntry$TreeChanged" "session" "J" (.long q3) ∧ Fld Z h a "com/example/rallypoint/rallypoint/server/LogEntry$TreeChanged" "ops" "Ljava/util/List;" (.ref oo)
set_option maxRecDepth 65536 in
set_option maxHeartbeats 40000000 in
theorem rmTi (l : Launch) (Z : State) (a0 : Array Value) (hw : ∀ d ∈ tables_1, d.before a0 Z = true) (ws : List Jvm.Cond) (a : Addr) (a_zxid : Int64) (a_time : Int64) (a_session : Int64) (a_ops : Value) (q1 : Int64) (q2 : Int64) (q3 : Int64) (oo : Addr) (h0 : Heap) (n0 : Nat) (Z0 : n0 ≤ h0.size) (E_a : Exa Z h0 a "com/example/rallypoint/rallypoint/server/LogEntry$TreeChanged") (F_a_zxid : Fld Z h0 a "com/example/rallypoint/rallypoint/server/LogEntry$TreeChanged" "zxid" "J" (.long a_zxid)) (F_a_time : Fld Z h0 a "com/example/rallypoint/rallypoint/server/LogEntry$TreeChanged" "time" "J" (.long a_time)) (F_a_session : Fld Z h0 a "com/example/rallypoint/rallypoint/server/LogEntry$TreeChanged" "session" "J" (.long a_session)) (F_a_ops : Fld Z h0 a "com/example/rallypoint/rallypoint/server/LogEntry$TreeChanged" "ops" "Ljava/util/List;" a_ops) (g_a : n0 ≤ a) :
    MetFree l (⟨"com/example/rallypoint/rallypoint/server/LogEntry$TreeChanged", "<init>", "(JJJLjava/util/List;)V"⟩ : MethodName) (head1 (Jvm.Cond.code (⟨"com/example/rallypoint/rallypoint/server/LogEntry$TreeChanged", "<init>", "(JJJLjava/util/List;)V"⟩ : MethodName) prog_59_method_1_code 8 none :: ws) R_rmTi) (fun vs_ U => vs_ = #[(.ref a), (.long q1), (.long q2), (.long q3), (.ref oo)] ∧ Z.Warmed39 U.vm ∧ U.heap = h0) (fun _ _ _ _ _ => True) (fun _ U o U' => ∃ v L, o = .returned v ∧ Q_rmTi Z a a_zxid a_time a_session a_ops q1 q2 q3 oo h0 n0 v U'.heap L ∧ FrameEnd U o U' L R_rmTi.cells R_rmTi.slots) := by
  refine MetFree.of_bodySF (plainFor_of_name own_pn1) hisR ?_
  intro p e s m args below meth c s₁ Bd hml0 hP hK
  obtain ⟨rfl, hZ, hh⟩ := hP
  have hx := Bd.exec
  have hby := Bd.bytes
  have hml : c.maxLocals = 8 := hml0
  have hown : s.vm.findClass "com/example/rallypoint/rallypoint/server/LogEntry$TreeChanged" = some m.cls := findClass_of_methodNamed Bd.named
  have hnm := (name_of_methodNamed Bd.named Bd.method).1
  have hlk : meth.locks = false := BodyLoose.notSynchronized Bd
  have X0 : Stand p l e R_rmTi s m #[(.ref a), (.long q1), (.long q2), (.long q3), (.ref oo)] below meth c s₁ [] 0 0 := Stand.of_body Bd
  have e0 : s₁.heap = h0 := by rw [← hh, Bd.state]; rfl
  have N0 := Fr.nil n0
  have K0 : Keep h0 h0 [a] := Keep.refl _ _
  refine OGo.en (Q := Q_rmTi Z a a_zxid a_time a_session a_ops q1 q2 q3 oo h0 n0) (C := R_rmTi.cells) (S := R_rmTi.slots) (own_ef_rmTi m a q1 q2 q3 oo) ?_
  refine OGo.st (T' := s₁) (g' := (mkF m 1 #[.val (.ref a), .val (.long q1), .second, .val (.long q2), .second, .val (.long q3), .second, .val (.ref oo)] [(.ref a)])) (fun _ k => (XS.aloadN X0.here hx rfl (hb hby own_d_prog_59_method_1_0) rfl rfl k)) ?_
  obtain ⟨_, _, ⟨T1, L1, k1, n1⟩, -, X1, ⟨Lc1, hQ1, l1, y1, z1⟩, st1⟩ := X0.specialBack hx (y := (⟨"java/lang/Record", "<init>", "()V"⟩ : MethodName)) rfl hown (mvT hZ (hw _ (List.mem_of_getElem? (i := 83) rfl))) (mvT hZ (hw _ (List.mem_of_getElem? (i := 7) rfl))) (mvT hZ (hw _ (List.mem_of_getElem? (i := 10) rfl))) (by decide) (backOf (W := 0) (rmRec l Z a0 hw [] (a) h0 n0 Z0 ) hZ (hw _ (List.mem_of_getElem? (i := 10) rfl)) (hw _ (List.mem_of_getElem? (i := 9) rfl)) (by decide) (by decide)) (g := (mkF m 1 #[.val (.ref a), .val (.long q1), .second, .val (.long q2), .second, .val (.long q3), .second, .val (.ref oo)] [(.ref a)])) rfl (by rw [hml]; rfl) (Steps.refl _) (a := a) (argsL := []) (rest := []) (lenOf own_pd3 rfl) rfl (by show 2 * 0 + _ ≤ _; exact Nat.le_of_eq rfl) (hb hby own_d_prog_59_method_1_1) (fun _ _ => ⟨rfl, e0, (by decide : 0 + 0 ≤ _), (by decide : 0 + 0 ≤ _)⟩)
  dsimp only [Pt.U, Pt.locs, Pt.cells, Pt.slots] at X1 l1 y1 z1 st1 hQ1
  subst l1 y1 z1
  have X1 : Stand p l e R_rmTi s m _ below meth c T1 _ 0 0 := X1
  obtain ⟨rfl, Nq1, e1⟩ := hQ1
  have N1 := Fr.app N0 Nq1
  refine OGo.st (T' := T1) (g' := (mkF m 4 #[.val (.ref a), .val (.long q1), .second, .val (.long q2), .second, .val (.long q3), .second, .val (.ref oo)] [])) (fun _ k => st1.trans k) ?_
  refine OGo.st (T' := T1) (g' := (mkF m 6 #[.val (.ref a), .val (.long q1), .second, .val (.long q2), .second, .val (.long q3), .second, .val (.ref oo)] [(.long q1), (.ref a)])) (fun _ k => (XS.aloadN X1.here hx rfl (hb hby own_d_prog_59_method_1_4) rfl rfl (XS.lloadN X1.here hx rfl (hb hby own_d_prog_59_method_1_5) rfl k))) ?_
  obtain ⟨T2, h2, X2, e2, W2, st2⟩ := putF X1 hx hZ hown (host := "") (Or.inl (hw _ (List.mem_of_getElem? (i := 84) rfl))) Via.refl e1 F_a_zxid E_a (Or.inr ⟨(hw _ (List.mem_of_getElem? (i := 85) rfl)), rfl, hnm⟩) (hw _ (List.mem_of_getElem? (i := 78) rfl)) (ty := .long) (by decide) rfl rfl (g := (mkF m 6 #[.val (.ref a), .val (.long q1), .second, .val (.long q2), .second, .val (.long q3), .second, .val (.ref oo)] [(.long q1), (.ref a)])) rfl rfl (hb hby own_d_prog_59_method_1_6)
  have F_a_zxid_2 : Fld Z h2 a "com/example/rallypoint/rallypoint/server/LogEntry$TreeChanged" "zxid" "J" (.long q1) := F_a_zxid.same W2
  have N2 := Fr.snoc X2 N1 g_a
  have E_a_2 : Exa Z h2 a "com/example/rallypoint/rallypoint/server/LogEntry$TreeChanged" := E_a.wr W2
  have F_a_time_2 : Fld Z h2 a "com/example/rallypoint/rallypoint/server/LogEntry$TreeChanged" "time" "J" (.long a_time) := F_a_time.other W2 (Or.inr (slot_ne (Or.inr (hw _ (List.mem_of_getElem? (i := 87) rfl))) (Or.inr (hw _ (List.mem_of_getElem? (i := 85) rfl))) (by decide) (t := .long) (t' := .long) (by decide) (by decide)))
  have F_a_session_2 : Fld Z h2 a "com/example/rallypoint/rallypoint/server/LogEntry$TreeChanged" "session" "J" (.long a_session) := F_a_session.other W2 (Or.inr (slot_ne (Or.inr (hw _ (List.mem_of_getElem? (i := 89) rfl))) (Or.inr (hw _ (List.mem_of_getElem? (i := 85) rfl))) (by decide) (t := .long) (t' := .long) (by decide) (by decide)))
  have F_a_ops_2 : Fld Z h2 a "com/example/rallypoint/rallypoint/server/LogEntry$TreeChanged" "ops" "Ljava/util/List;" a_ops := F_a_ops.other W2 (Or.inr (slot_ne (Or.inr (hw _ (List.mem_of_getElem? (i := 91) rfl))) (Or.inr (hw _ (List.mem_of_getElem? (i := 85) rfl))) (by decide) (t := (.object "java/util/List")) (t' := .long) (by decide) (by decide)))
  have Zn2 : n0 ≤ h2.size := Nat.le_trans Z0 (Nat.le_of_eq W2.size.symm)
  have K2 : Keep h0 h2 [a] := K0.wr W2 (Or.inl (List.mem_of_getElem? (i := 0) rfl))
  refine OGo.st (T' := T2) (g' := (mkF m 9 #[.val (.ref a), .val (.long q1), .second, .val (.long q2), .second, .val (.long q3), .second, .val (.ref oo)] [])) (fun _ k => st2 _ k) ?_
  refine OGo.st (T' := T2) (g' := (mkF m 11 #[.val (.ref a), .val (.long q1), .second, .val (.long q2), .second, .val (.long q3), .second, .val (.ref oo)] [(.long q2), (.ref a)])) (fun _ k => (XS.aloadN X2.here hx rfl (hb hby own_d_prog_59_method_1_9) rfl rfl (XS.lloadN X2.here hx rfl (hb hby own_d_prog_59_method_1_10) rfl k))) ?_
  obtain ⟨T3, h3, X3, e3, W3, st3⟩ := putF X2 hx hZ hown (host := "") (Or.inl (hw _ (List.mem_of_getElem? (i := 86) rfl))) Via.refl e2 F_a_time_2 E_a_2 (Or.inr ⟨(hw _ (List.mem_of_getElem? (i := 87) rfl)), rfl, hnm⟩) (hw _ (List.mem_of_getElem? (i := 78) rfl)) (ty := .long) (by decide) rfl rfl (g := (mkF m 11 #[.val (.ref a), .val (.long q1), .second, .val (.long q2), .second, .val (.long q3), .second, .val (.ref oo)] [(.long q2), (.ref a)])) rfl rfl (hb hby own_d_prog_59_method_1_11)
  have F_a_time_3 : Fld Z h3 a "com/example/rallypoint/rallypoint/server/LogEntry$TreeChanged" "time" "J" (.long q2) := F_a_time_2.same W3
  have N3 := Fr.snoc X3 N2 g_a
  have E_a_3 : Exa Z h3 a "com/example/rallypoint/rallypoint/server/LogEntry$TreeChanged" := E_a_2.wr W3
  have F_a_zxid_3 : Fld Z h3 a "com/example/rallypoint/rallypoint/server/LogEntry$TreeChanged" "zxid" "J" (.long q1) := F_a_zxid_2.other W3 (Or.inr (slot_ne (Or.inr (hw _ (List.mem_of_getElem? (i := 85) rfl))) (Or.inr (hw _ (List.mem_of_getElem? (i := 87) rfl))) (by decide) (t := .long) (t' := .long) (by decide) (by decide)))
  have F_a_session_3 : Fld Z h3 a "com/example/rallypoint/rallypoint/server/LogEntry$TreeChanged" "session" "J" (.long a_session) := F_a_session_2.other W3 (Or.inr (slot_ne (Or.inr (hw _ (List.mem_of_getElem? (i := 89) rfl))) (Or.inr (hw _ (List.mem_of_getElem? (i := 87) rfl))) (by decide) (t := .long) (t' := .long) (by decide) (by decide)))
  have F_a_ops_3 : Fld Z h3 a "com/example/rallypoint/rallypoint/server/LogEntry$TreeChanged" "ops" "Ljava/util/List;" a_ops := F_a_ops_2.other W3 (Or.inr (slot_ne (Or.inr (hw _ (List.mem_of_getElem? (i := 91) rfl))) (Or.inr (hw _ (List.mem_of_getElem? (i := 87) rfl))) (by decide) (t := (.object "java/util/List")) (t' := .long) (by decide) (by decide)))
  have Zn3 : n0 ≤ h3.size := Nat.le_trans Zn2 (Nat.le_of_eq W3.size.symm)
  have K3 : Keep h0 h3 [a] := K2.wr W3 (Or.inl (List.mem_of_getElem? (i := 0) rfl))
  refine OGo.st (T' := T3) (g' := (mkF m 14 #[.val (.ref a), .val (.long q1), .second, .val (.long q2), .second, .val (.long q3), .second, .val (.ref oo)] [])) (fun _ k => st3 _ k) ?_
  refine OGo.st (T' := T3) (g' := (mkF m 17 #[.val (.ref a), .val (.long q1), .second, .val (.long q2), .second, .val (.long q3), .second, .val (.ref oo)] [(.long q3), (.ref a)])) (fun _ k => (XS.aloadN X3.here hx rfl (hb hby own_d_prog_59_method_1_14) rfl rfl (XS.lload X3.here hx rfl (hb hby own_d_prog_59_method_1_15) rfl k))) ?_
  obtain ⟨T4, h4, X4, e4, W4, st4⟩ := putF X3 hx hZ hown (host := "") (Or.inl (hw _ (List.mem_of_getElem? (i := 88) rfl))) Via.refl e3 F_a_session_3 E_a_3 (Or.inr ⟨(hw _ (List.mem_of_getElem? (i := 89) rfl)), rfl, hnm⟩) (hw _ (List.mem_of_getElem? (i := 78) rfl)) (ty := .long) (by decide) rfl rfl (g := (mkF m 17 #[.val (.ref a), .val (.long q1), .second, .val (.long q2), .second, .val (.long q3), .second, .val (.ref oo)] [(.long q3), (.ref a)])) rfl rfl (hb hby own_d_prog_59_method_1_17)
  have F_a_session_4 : Fld Z h4 a "com/example/rallypoint/rallypoint/server/LogEntry$TreeChanged" "session" "J" (.long q3) := F_a_session_3.same W4
  have N4 := Fr.snoc X4 N3 g_a
  have E_a_4 : Exa Z h4 a "com/example/rallypoint/rallypoint/server/LogEntry$TreeChanged" := E_a_3.wr W4
  have F_a_zxid_4 : Fld Z h4 a "com/example/rallypoint/rallypoint/server/LogEntry$TreeChanged" "zxid" "J" (.long q1) := F_a_zxid_3.other W4 (Or.inr (slot_ne (Or.inr (hw _ (List.mem_of_getElem? (i := 85) rfl))) (Or.inr (hw _ (List.mem_of_getElem? (i := 89) rfl))) (by decide) (t := .long) (t' := .long) (by decide) (by decide)))
  have F_a_time_4 : Fld Z h4 a "com/example/rallypoint/rallypoint/server/LogEntry$TreeChanged" "time" "J" (.long q2) := F_a_time_3.other W4 (Or.inr (slot_ne (Or.inr (hw _ (List.mem_of_getElem? (i := 87) rfl))) (Or.inr (hw _ (List.mem_of_getElem? (i := 89) rfl))) (by decide) (t := .long) (t' := .long) (by decide) (by decide)))
  have F_a_ops_4 : Fld Z h4 a "com/example/rallypoint/rallypoint/server/LogEntry$TreeChanged" "ops" "Ljava/util/List;" a_ops := F_a_ops_3.other W4 (Or.inr (slot_ne (Or.inr (hw _ (List.mem_of_getElem? (i := 91) rfl))) (Or.inr (hw _ (List.mem_of_getElem? (i := 89) rfl))) (by decide) (t := (.object "java/util/List")) (t' := .long) (by decide) (by decide)))
  have Zn4 : n0 ≤ h4.size := Nat.le_trans Zn3 (Nat.le_of_eq W4.size.symm)
  have K4 : Keep h0 h4 [a] := K3.wr W4 (Or.inl (List.mem_of_getElem? (i := 0) rfl))
  refine OGo.st (T' := T4) (g' := (mkF m 20 #[.val (.ref a), .val (.long q1), .second, .val (.long q2), .second, .val (.long q3), .second, .val (.ref oo)] [])) (fun _ k => st4 _ k) ?_
  refine OGo.st (T' := T4) (g' := (mkF m 23 #[.val (.ref a), .val (.long q1), .second, .val (.long q2), .second, .val (.long q3), .second, .val (.ref oo)] [(.ref oo), (.ref a)])) (fun _ k => (XS.aloadN X4.here hx rfl (hb hby own_d_prog_59_method_1_20) rfl rfl (XS.aload X4.here hx rfl (hb hby own_d_prog_59_method_1_21) rfl rfl k))) ?_
  obtain ⟨T5, h5, X5, e5, W5, st5⟩ := putF X4 hx hZ hown (host := "") (Or.inl (hw _ (List.mem_of_getElem? (i := 90) rfl))) Via.refl e4 F_a_ops_4 E_a_4 (Or.inr ⟨(hw _ (List.mem_of_getElem? (i := 91) rfl)), rfl, hnm⟩) (hw _ (List.mem_of_getElem? (i := 78) rfl)) (ty := (.object "java/util/List")) (by decide) rfl rfl (g := (mkF m 23 #[.val (.ref a), .val (.long q1), .second, .val (.long q2), .second, .val (.long q3), .second, .val (.ref oo)] [(.ref oo), (.ref a)])) rfl rfl (hb hby own_d_prog_59_method_1_23)
  have F_a_ops_5 : Fld Z h5 a "com/example/rallypoint/rallypoint/server/LogEntry$TreeChanged" "ops" "Ljava/util/List;" (.ref oo) := F_a_ops_4.same W5
  have N5 := Fr.snoc X5 N4 g_a
  have E_a_5 : Exa Z h5 a "com/example/rallypoint/rallypoint/server/LogEntry$TreeChanged" := E_a_4.wr W5
  have F_a_zxid_5 : Fld Z h5 a "com/example/rallypoint/rallypoint/server/LogEntry$TreeChanged" "zxid" "J" (.long q1) := F_a_zxid_4.other W5 (Or.inr (slot_ne (Or.inr (hw _ (List.mem_of_getElem? (i := 85) rfl))) (Or.inr (hw _ (List.mem_of_getElem? (i := 91) rfl))) (by decide) (t := .long) (t' := (.object "java/util/List")) (by decide) (by decide)))
  have F_a_time_5 : Fld Z h5 a "com/example/rallypoint/rallypoint/server/LogEntry$TreeChanged" "time" "J" (.long q2) := F_a_time_4.other W5 (Or.inr (slot_ne (Or.inr (hw _ (List.mem_of_getElem? (i := 87) rfl))) (Or.inr (hw _ (List.mem_of_getElem? (i := 91) rfl))) (by decide) (t := .long) (t' := (.object "java/util/List")) (by decide) (by decide)))
  have F_a_session_5 : Fld Z h5 a "com/example/rallypoint/rallypoint/server/LogEntry$TreeChanged" "session" "J" (.long q3) := F_a_session_4.other W5 (Or.inr (slot_ne (Or.inr (hw _ (List.mem_of_getElem? (i := 89) rfl))) (Or.inr (hw _ (List.mem_of_getElem? (i := 91) rfl))) (by decide) (t := .long) (t' := (.object "java/util/List")) (by decide) (by decide)))
  have Zn5 : n0 ≤ h5.size := Nat.le_trans Zn4 (Nat.le_of_eq W5.size.symm)
  have K5 : Keep h0 h5 [a] := K4.wr W5 (Or.inl (List.mem_of_getElem? (i := 0) rfl))
  refine OGo.st (T' := T5) (g' := (mkF m 26 #[.val (.ref a), .val (.long q1), .second, .val (.long q2), .second, .val (.long q3), .second, .val (.ref oo)] [])) (fun _ k => st5 _ k) ?_
  exact OGo.retV X5 hx hlk Bd.returns (hb hby own_d_prog_59_method_1_26) (by decide) (by decide) e5 (⟨rfl, N5, K5, F_a_zxid_5, F_a_time_5, F_a_session_5, F_a_ops_5⟩)
theorem own_ef_rmTs (m : MethodId) (x0 : Addr) (x1 : Int64) (x2 : Int64) : entryFrame m #[(.ref x0), (.long x1), (.long x2)] 5 = mkF m 0 #[.val (.ref x0), .val (.long x1), .second, .val (.long x2), .second] [] := by first | (simp [entryFrame, mkF, argsToLocals, Value.category]; done) | rfl
def R_rmTs : Room := { frames := 3, cells := 1, slots := 4, locals := 44 }
def Q_rmTs (Z : State) (a : Addr) (a_session : Int64) (q1 : Int64) (q2 : Int64) (oo : Addr) (h0 : Heap) (n0 : Nat) (v : Option Value) (h : Heap) (L : List Loc) : Prop := ∃ b1 : Addr, v = some (.ref b1) ∧ Fr n0 L ∧ Keep h0 h [] ∧ h0.size ≤ b1 ∧ Exa Z h b1 "com/example/rallypoint/rallypoint/server/LogEntry$TreeChanged" ∧ Fld Z h b1 "com/example/rallypoint/rallypoint/server/LogEntry$TreeChanged" "zxid" "J" (.long q1) ∧ Fld Z h b1 "com/example/rallypoint/rallypoint/server/LogEntry$TreeChanged" "time" "J" (.long q2) ∧ Fld Z h b1 "com/example/rallypoint/rallypoint/server/LogEntry$TreeChanged" "session" "J" (.long a_session) ∧ Fld Z h b1 "com/example/rallypoint/rallypoint/server/LogEntry$TreeChanged" "ops" "Ljava/util/List;" (.ref oo)
set_option maxRecDepth 65536 in
set_option maxHeartbeats 40000000 in
theorem rmTs (l : Launch) (Z : State) (a0 : Array Value) (hw : ∀ d ∈ tables_1, d.before a0 Z = true) (ws : List Jvm.Cond) (a : Addr) (a_session : Int64) (q1 : Int64) (q2 : Int64) (oo : Addr) (h0 : Heap) (n0 : Nat) (Z0 : n0 ≤ h0.size) (E_a : Exa Z h0 a "com/example/rallypoint/rallypoint/server/LogEntry$TreeChanged") (F_a_session : Fld Z h0 a "com/example/rallypoint/rallypoint/server/LogEntry$TreeChanged" "session" "J" (.long a_session)) (F_a_ops : Fld Z h0 a "com/example/rallypoint/rallypoint/server/LogEntry$TreeChanged" "ops" "Ljava/util/List;" (.ref oo)) :
    MetFree l (⟨"com/example/rallypoint/rallypoint/server/LogEntry$TreeChanged", "stamped", "(JJ)Lcom/example/rallypoint/rallypoint/server/LogEntry$TreeChanged;"⟩ : MethodName) (head1 (Jvm.Cond.code (⟨"com/example/rallypoint/rallypoint/server/LogEntry$TreeChanged", "stamped", "(JJ)Lcom/example/rallypoint/rallypoint/server/LogEntry$TreeChanged;"⟩ : MethodName) prog_59_method_2_code 5 (some (.object "com/example/rallypoint/rallypoint/server/LogEntry$TreeChanged")) :: ws) R_rmTs) (fun vs_ U => vs_ = #[(.ref a), (.long q1), (.long q2)] ∧ Z.Warmed39 U.vm ∧ U.heap = h0) (fun _ _ _ _ _ => True) (fun _ U o U' => ∃ v L, o = .returned v ∧ Q_rmTs Z a a_session q1 q2 oo h0 n0 v U'.heap L ∧ FrameEnd U o U' L R_rmTs.cells R_rmTs.slots) := by
  refine MetFree.of_bodySF (plainFor_of_name own_pn1) hisR ?_
  intro p e s m args below meth c s₁ Bd hml0 hP hK
  obtain ⟨rfl, hZ, hh⟩ := hP
  have hx := Bd.exec
  have hby := Bd.bytes
  have hml : c.maxLocals = 5 := hml0
  have hown : s.vm.findClass "com/example/rallypoint/rallypoint/server/LogEntry$TreeChanged" = some m.cls := findClass_of_methodNamed Bd.named
  have hnm := (name_of_methodNamed Bd.named Bd.method).1
  have hlk : meth.locks = false := BodyLoose.notSynchronized Bd
  have X0 : Stand p l e R_rmTs s m #[(.ref a), (.long q1), (.long q2)] below meth c s₁ [] 0 0 := Stand.of_body Bd
  have e0 : s₁.heap = h0 := by rw [← hh, Bd.state]; rfl
  have N0 := Fr.nil n0
  have K0 : Keep h0 h0 [] := Keep.refl _ _
  refine OGo.en (Q := Q_rmTs Z a a_session q1 q2 oo h0 n0) (C := R_rmTs.cells) (S := R_rmTs.slots) (own_ef_rmTs m a q1 q2) ?_
  obtain ⟨T1, h1, X1, e1, E1, A1, D1, -, st1⟩ := newO X0 hx hZ hown (hw _ (List.mem_of_getElem? (i := 97) rfl)) (hw _ (List.mem_of_getElem? (i := 78) rfl)) (hw _ (List.mem_of_getElem? (i := 79) rfl)) e0 (g := (mkF m 0 #[.val (.ref a), .val (.long q1), .second, .val (.long q2), .second] [])) rfl (hb hby own_d_prog_59_method_2_0) (by decide) (by decide)
  obtain ⟨b1, g1⟩ : ∃ z, z = h0.size := ⟨_, rfl⟩
  rw [← g1] at A1 D1 st1
  have ne_a_b1 : a ≠ b1 := Nat.ne_of_lt (Nat.lt_of_lt_of_le E_a.lt (Nat.le_of_eq g1.symm))
  have g_b1 : n0 ≤ b1 := Nat.le_trans Z0 (Nat.le_of_eq g1.symm)
  have sz_b1 : h0.size ≤ b1 := Nat.le_trans K0.1 (Nat.le_of_eq g1.symm)
  have F_zxid_b1_1 : Fld Z h1 b1 "com/example/rallypoint/rallypoint/server/LogEntry$TreeChanged" "zxid" "J" (.long (0 : Int64)) := D1 (Or.inr (hw _ (List.mem_of_getElem? (i := 85) rfl))) (ty := .long) (by decide)
  have F_time_b1_1 : Fld Z h1 b1 "com/example/rallypoint/rallypoint/server/LogEntry$TreeChanged" "time" "J" (.long (0 : Int64)) := D1 (Or.inr (hw _ (List.mem_of_getElem? (i := 87) rfl))) (ty := .long) (by decide)
  have F_session_b1_1 : Fld Z h1 b1 "com/example/rallypoint/rallypoint/server/LogEntry$TreeChanged" "session" "J" (.long (0 : Int64)) := D1 (Or.inr (hw _ (List.mem_of_getElem? (i := 89) rfl))) (ty := .long) (by decide)
  have F_ops_b1_1 : Fld Z h1 b1 "com/example/rallypoint/rallypoint/server/LogEntry$TreeChanged" "ops" "Ljava/util/List;" .null := D1 (Or.inr (hw _ (List.mem_of_getElem? (i := 91) rfl))) (ty := (.object "java/util/List")) (by decide)
  have E_a_1 : Exa Z h1 a "com/example/rallypoint/rallypoint/server/LogEntry$TreeChanged" := E_a.ext E1
  have F_a_session_1 : Fld Z h1 a "com/example/rallypoint/rallypoint/server/LogEntry$TreeChanged" "session" "J" (.long a_session) := F_a_session.ext E1
  have F_a_ops_1 : Fld Z h1 a "com/example/rallypoint/rallypoint/server/LogEntry$TreeChanged" "ops" "Ljava/util/List;" (.ref oo) := F_a_ops.ext E1
  have Zn1 : n0 ≤ h1.size := Nat.le_trans Z0 E1.1
  have K1 : Keep h0 h1 [] := K0.ext E1
  have X1 : Stand p l e R_rmTs s m _ below meth c T1 _ 1 4 := X1
  refine OGo.st (T' := T1) (g' := (mkF m 3 #[.val (.ref a), .val (.long q1), .second, .val (.long q2), .second] [(.ref b1)])) (fun _ k => st1 _ k) ?_
  refine OGo.st (T' := T1) (g' := (mkF m 7 #[.val (.ref a), .val (.long q1), .second, .val (.long q2), .second] [(.ref a), (.long q2), (.long q1), (.ref b1), (.ref b1)])) (fun _ k => (XS.dup X1.here hx rfl (hb hby own_d_prog_59_method_2_3) rfl rfl (XS.lloadN X1.here hx rfl (hb hby own_d_prog_59_method_2_4) rfl (XS.lloadN X1.here hx rfl (hb hby own_d_prog_59_method_2_5) rfl (XS.aloadN X1.here hx rfl (hb hby own_d_prog_59_method_2_6) rfl rfl k))))) ?_
  obtain ⟨T2, X2, e2, st2⟩ := getF X1 hx hZ hown (host := "") (Or.inl (hw _ (List.mem_of_getElem? (i := 88) rfl))) Via.refl e1 F_a_session_1 (g := (mkF m 7 #[.val (.ref a), .val (.long q1), .second, .val (.long q2), .second] [(.ref a), (.long q2), (.long q1), (.ref b1), (.ref b1)])) rfl rfl (hb hby own_d_prog_59_method_2_7)
  refine OGo.st (T' := T2) (g' := (mkF m 10 #[.val (.ref a), .val (.long q1), .second, .val (.long q2), .second] [(.long a_session), (.long q2), (.long q1), (.ref b1), (.ref b1)])) (fun _ k => st2 _ k) ?_
  refine OGo.st (T' := T2) (g' := (mkF m 11 #[.val (.ref a), .val (.long q1), .second, .val (.long q2), .second] [(.ref a), (.long a_session), (.long q2), (.long q1), (.ref b1), (.ref b1)])) (fun _ k => (XS.aloadN X2.here hx rfl (hb hby own_d_prog_59_method_2_10) rfl rfl k)) ?_
  obtain ⟨T3, X3, e3, st3⟩ := getF X2 hx hZ hown (host := "") (Or.inl (hw _ (List.mem_of_getElem? (i := 90) rfl))) Via.refl e2 F_a_ops_1 (g := (mkF m 11 #[.val (.ref a), .val (.long q1), .second, .val (.long q2), .second] [(.ref a), (.long a_session), (.long q2), (.long q1), (.ref b1), (.ref b1)])) rfl rfl (hb hby own_d_prog_59_method_2_11)
  refine OGo.st (T' := T3) (g' := (mkF m 14 #[.val (.ref a), .val (.long q1), .second, .val (.long q2), .second] [(.ref oo), (.long a_session), (.long q2), (.long q1), (.ref b1), (.ref b1)])) (fun _ k => st3 _ k) ?_
  obtain ⟨_, _, ⟨T4, L4, k4, n4⟩, -, X4, ⟨Lc4, hQ4, l4, y4, z4⟩, st4⟩ := X3.specialBack hx (y := (⟨"com/example/rallypoint/rallypoint/server/LogEntry$TreeChanged", "<init>", "(JJJLjava/util/List;)V"⟩ : MethodName)) rfl hown (mvT hZ (hw _ (List.mem_of_getElem? (i := 98) rfl))) (mvT hZ (hw _ (List.mem_of_getElem? (i := 81) rfl))) (mvT hZ (hw _ (List.mem_of_getElem? (i := 82) rfl))) (by decide) (backOf (W := 1) (rmTi l Z a0 hw [] (b1) ((0 : Int64)) ((0 : Int64)) ((0 : Int64)) (.null) (q1) (q2) (a_session) (oo) h1 n0 Zn1 (A1) (F_zxid_b1_1) (F_time_b1_1) (F_session_b1_1) (F_ops_b1_1) (g_b1)) hZ (hw _ (List.mem_of_getElem? (i := 82) rfl)) (hw _ (List.mem_of_getElem? (i := 79) rfl)) (by decide) (by decide)) (g := (mkF m 14 #[.val (.ref a), .val (.long q1), .second, .val (.long q2), .second] [(.ref oo), (.long a_session), (.long q2), (.long q1), (.ref b1), (.ref b1)])) rfl (by rw [hml]; rfl) (Steps.refl _) (a := b1) (argsL := [(.long q1), (.long q2), (.long a_session), (.ref oo)]) (rest := [(.ref b1)]) (lenOf own_pd11 rfl) rfl (by show 2 * 0 + _ ≤ _; exact Nat.le_of_eq rfl) (hb hby own_d_prog_59_method_2_14) (fun _ _ => ⟨rfl, e3, (by decide : 1 + 0 ≤ _), (by decide : 4 + 0 ≤ _)⟩)
  dsimp only [Pt.U, Pt.locs, Pt.cells, Pt.slots] at X4 l4 y4 z4 st4 hQ4
  subst l4 y4 z4
  have X4 : Stand p l e R_rmTs s m _ below meth c T4 _ 1 4 := X4
  obtain ⟨h4, e4⟩ : ∃ z, T4.heap = z := ⟨_, rfl⟩
  rw [e4] at hQ4
  obtain ⟨rfl, Nq4, Kc4, G4x0, G4x1, G4x2, G4x3⟩ := hQ4
  have N4 := Fr.app N0 Nq4
  have E_a_4 : Exa Z h4 a "com/example/rallypoint/rallypoint/server/LogEntry$TreeChanged" := E_a_1.keep Kc4
  have F_a_session_4 : Fld Z h4 a "com/example/rallypoint/rallypoint/server/LogEntry$TreeChanged" "session" "J" (.long a_session) := F_a_session_1.keep Kc4 (ninS ne_a_b1 nin0)
  have F_a_ops_4 : Fld Z h4 a "com/example/rallypoint/rallypoint/server/LogEntry$TreeChanged" "ops" "Ljava/util/List;" (.ref oo) := F_a_ops_1.keep Kc4 (ninS ne_a_b1 nin0)
  have A1_4 : Exa Z h4 b1 "com/example/rallypoint/rallypoint/server/LogEntry$TreeChanged" := A1.keep Kc4
  have Zn4 : n0 ≤ h4.size := Nat.le_trans Zn1 Kc4.1
  have K4 : Keep h0 h4 [] := K1.trans Kc4 (allS (Or.inr sz_b1) all0)
  refine OGo.st (T' := T4) (g' := (mkF m 17 #[.val (.ref a), .val (.long q1), .second, .val (.long q2), .second] [(.ref b1)])) (fun _ k => st4.trans k) ?_
  exact OGo.ret X4 hx hlk Bd.returns rfl (own_rR rfl rfl) (hb hby own_d_prog_59_method_2_17) (by decide) (by decide) e4 (⟨b1, rfl, N4, K4, sz_b1, A1_4, G4x0, G4x1, G4x2, G4x3⟩)
theorem own_ef_rmT_zxid (m : MethodId) (x0 : Addr) : entryFrame m #[(.ref x0)] 1 = mkF m 0 #[.val (.ref x0)] [] := by first | (simp [entryFrame, mkF, argsToLocals, Value.category]; done) | rfl
def R_rmT_zxid : Room := { frames := 0, cells := 0, slots := 0, locals := 0 }
def Q_rmT_zxid (Z : State) (a : Addr) (a_zxid : Int64) (h0 : Heap) (n0 : Nat) (v : Option Value) (h : Heap) (L : List Loc) : Prop := v = some (.long a_zxid) ∧ Fr n0 L ∧ h = h0
set_option maxRecDepth 65536 in
set_option maxHeartbeats 40000000 in
theorem rmT_zxid (l : Launch) (Z : State) (a0 : Array Value) (hw : ∀ d ∈ tables_1, d.before a0 Z = true) (ws : List Jvm.Cond) (a : Addr) (a_zxid : Int64) (h0 : Heap) (n0 : Nat) (Z0 : n0 ≤ h0.size) (F_a_zxid : Fld Z h0 a "com/example/rallypoint/rallypoint/server/LogEntry$TreeChanged" "zxid" "J" (.long a_zxid)) :
    MetFree l (⟨"com/example/rallypoint/rallypoint/server/LogEntry$TreeChanged", "zxid", "()J"⟩ : MethodName) (head1 (Jvm.Cond.code (⟨"com/example/rallypoint/rallypoint/server/LogEntry$TreeChanged", "zxid", "()J"⟩ : MethodName) prog_59_method_7_code 1 (some .long) :: ws) R_rmT_zxid) (fun vs_ U => vs_ = #[(.ref a)] ∧ Z.Warmed39 U.vm ∧ U.heap = h0) (fun _ _ _ _ _ => True) (fun _ U o U' => ∃ v L, o = .returned v ∧ Q_rmT_zxid Z a a_zxid h0 n0 v U'.heap L ∧ FrameEnd U o U' L R_rmT_zxid.cells R_rmT_zxid.slots) := by
  refine MetFree.of_bodySF (plainFor_of_name own_pn1) hisR ?_
  intro p e s m args below meth c s₁ Bd hml0 hP hK
  obtain ⟨rfl, hZ, hh⟩ := hP
  have hx := Bd.exec
  have hby := Bd.bytes
  have hml : c.maxLocals = 1 := hml0
  have hown : s.vm.findClass "com/example/rallypoint/rallypoint/server/LogEntry$TreeChanged" = some m.cls := findClass_of_methodNamed Bd.named
  have hnm := (name_of_methodNamed Bd.named Bd.method).1
  have hlk : meth.locks = false := BodyLoose.notSynchronized Bd
  have X0 : Stand p l e R_rmT_zxid s m #[(.ref a)] below meth c s₁ [] 0 0 := Stand.of_body Bd
  have e0 : s₁.heap = h0 := by rw [← hh, Bd.state]; rfl
  have N0 := Fr.nil n0
  refine OGo.en (Q := Q_rmT_zxid Z a a_zxid h0 n0) (C := R_rmT_zxid.cells) (S := R_rmT_zxid.slots) (own_ef_rmT_zxid m a) ?_
  refine OGo.st (T' := s₁) (g' := (mkF m 1 #[.val (.ref a)] [(.ref a)])) (fun _ k => (XS.aloadN X0.here hx rfl (hb hby own_d_prog_59_method_7_0) rfl rfl k)) ?_
  obtain ⟨T1, X1, e1, st1⟩ := getF X0 hx hZ hown (host := "") (Or.inl (hw _ (List.mem_of_getElem? (i := 84) rfl))) Via.refl e0 F_a_zxid (g := (mkF m 1 #[.val (.ref a)] [(.ref a)])) rfl rfl (hb hby own_d_prog_59_method_7_1)
  refine OGo.st (T' := T1) (g' := (mkF m 4 #[.val (.ref a)] [(.long a_zxid)])) (fun _ k => st1 _ k) ?_
  exact OGo.ret X1 hx hlk Bd.returns rfl own_rJ (hb hby own_d_prog_59_method_7_4) (by decide) (by decide) e1 (⟨rfl, N0, rfl⟩)
theorem own_ef_rmT_time (m : MethodId) (x0 : Addr) : entryFrame m #[(.ref x0)] 1 = mkF m 0 #[.val (.ref x0)] [] := by first | (simp [entryFrame, mkF, argsToLocals, Value.category]; done) | rfl
def R_rmT_time : Room := { frames := 0, cells := 0, slots := 0, locals := 0 }
def Q_rmT_time (Z : State) (a : Addr) (a_time : Int64) (h0 : Heap) (n0 : Nat) (v : Option Value) (h : Heap) (L : List Loc) : Prop := v = some (.long a_time) ∧ Fr n0 L ∧ h = h0
set_option maxRecDepth 65536 in
set_option maxHeartbeats 40000000 in
theorem rmT_time (l : Launch) (Z : State) (a0 : Array Value) (hw : ∀ d ∈ tables_1, d.before a0 Z = true) (ws : List Jvm.Cond) (a : Addr) (a_time : Int64) (h0 : Heap) (n0 : Nat) (Z0 : n0 ≤ h0.size) (F_a_time : Fld Z h0 a "com/example/rallypoint/rallypoint/server/LogEntry$TreeChanged" "time" "J" (.long a_time)) :
    MetFree l (⟨"com/example/rallypoint/rallypoint/server/LogEntry$TreeChanged", "time", "()J"⟩ : MethodName) (head1 (Jvm.Cond.code (⟨"com/example/rallypoint/rallypoint/server/LogEntry$TreeChanged", "time", "()J"⟩ : MethodName) prog_59_method_8_code 1 (some .long) :: ws) R_rmT_time) (fun vs_ U => vs_ = #[(.ref a)] ∧ Z.Warmed39 U.vm ∧ U.heap = h0) (fun _ _ _ _ _ => True) (fun _ U o U' => ∃ v L, o = .returned v ∧ Q_rmT_time Z a a_time h0 n0 v U'.heap L ∧ FrameEnd U o U' L R_rmT_time.cells R_rmT_time.slots) := by
  refine MetFree.of_bodySF (plainFor_of_name own_pn1) hisR ?_
  intro p e s m args below meth c s₁ Bd hml0 hP hK
  obtain ⟨rfl, hZ, hh⟩ := hP
  have hx := Bd.exec
  have hby := Bd.bytes
  have hml : c.maxLocals = 1 := hml0
  have hown : s.vm.findClass "com/example/rallypoint/rallypoint/server/LogEntry$TreeChanged" = some m.cls := findClass_of_methodNamed Bd.named
  have hnm := (name_of_methodNamed Bd.named Bd.method).1
  have hlk : meth.locks = false := BodyLoose.notSynchronized Bd
  have X0 : Stand p l e R_rmT_time s m #[(.ref a)] below meth c s₁ [] 0 0 := Stand.of_body Bd
  have e0 : s₁.heap = h0 := by rw [← hh, Bd.state]; rfl
  have N0 := Fr.nil n0
  refine OGo.en (Q := Q_rmT_time Z a a_time h0 n0) (C := R_rmT_time.cells) (S := R_rmT_time.slots) (own_ef_rmT_time m a) ?_
  refine OGo.st (T' := s₁) (g' := (mkF m 1 #[.val (.ref a)] [(.ref a)])) (fun _ k => (XS.aloadN X0.here hx rfl (hb hby own_d_prog_59_method_8_0) rfl rfl k)) ?_
  obtain ⟨T1, X1, e1, st1⟩ := getF X0 hx hZ hown (host := "") (Or.inl (hw _ (List.mem_of_getElem? (i := 86) rfl))) Via.refl e0 F_a_time (g := (mkF m 1 #[.val (.ref a)] [(.ref a)])) rfl rfl (hb hby own_d_prog_59_method_8_1)
  refine OGo.st (T' := T1) (g' := (mkF m 4 #[.val (.ref a)] [(.long a_time)])) (fun _ k => st1 _ k) ?_
  exact OGo.ret X1 hx hlk Bd.returns rfl own_rJ (hb hby own_d_prog_59_method_8_4) (by decide) (by decide) e1 (⟨rfl, N0, rfl⟩)
theorem own_ef_rmT_session (m : MethodId) (x0 : Addr) : entryFrame m #[(.ref x0)] 1 = mkF m 0 #[.val (.ref x0)] [] := by first | (simp [entryFrame, mkF, argsToLocals, Value.category]; done) | rfl
def R_rmT_session : Room := { frames := 0, cells := 0, slots := 0, locals := 0 }
def Q_rmT_session (Z : State) (a : Addr) (a_session : Int64) (h0 : Heap) (n0 : Nat) (v : Option Value) (h : Heap) (L : List Loc) : Prop := v = some (.long a_session) ∧ Fr n0 L ∧ h = h0
set_option maxRecDepth 65536 in
set_option maxHeartbeats 40000000 in
theorem rmT_session (l : Launch) (Z : State) (a0 : Array Value) (hw : ∀ d ∈ tables_1, d.before a0 Z = true) (ws : List Jvm.Cond) (a : Addr) (a_session : Int64) (h0 : Heap) (n0 : Nat) (Z0 : n0 ≤ h0.size) (F_a_session : Fld Z h0 a "com/example/rallypoint/rallypoint/server/LogEntry$TreeChanged" "session" "J" (.long a_session)) :
    MetFree l (⟨"com/example/rallypoint/rallypoint/server/LogEntry$TreeChanged", "session", "()J"⟩ : MethodName) (head1 (Jvm.Cond.code (⟨"com/example/rallypoint/rallypoint/server/LogEntry$TreeChanged", "session", "()J"⟩ : MethodName) prog_59_method_9_code 1 (some .long) :: ws) R_rmT_session) (fun vs_ U => vs_ = #[(.ref a)] ∧ Z.Warmed39 U.vm ∧ U.heap = h0) (fun _ _ _ _ _ => True) (fun _ U o U' => ∃ v L, o = .returned v ∧ Q_rmT_session Z a a_session h0 n0 v U'.heap L ∧ FrameEnd U o U' L R_rmT_session.cells R_rmT_session.slots) := by
  refine MetFree.of_bodySF (plainFor_of_name own_pn1) hisR ?_
  intro p e s m args below meth c s₁ Bd hml0 hP hK
  obtain ⟨rfl, hZ, hh⟩ := hP
  have hx := Bd.exec
  have hby := Bd.bytes
  have hml : c.maxLocals = 1 := hml0
  have hown : s.vm.findClass "com/example/rallypoint/rallypoint/server/LogEntry$TreeChanged" = some m.cls := findClass_of_methodNamed Bd.named
  have hnm := (name_of_methodNamed Bd.named Bd.method).1
  have hlk : meth.locks = false := BodyLoose.notSynchronized Bd
  have X0 : Stand p l e R_rmT_session s m #[(.ref a)] below meth c s₁ [] 0 0 := Stand.of_body Bd
  have e0 : s₁.heap = h0 := by rw [← hh, Bd.state]; rfl
  have N0 := Fr.nil n0
  refine OGo.en (Q := Q_rmT_session Z a a_session h0 n0) (C := R_rmT_session.cells) (S := R_rmT_session.slots) (own_ef_rmT_session m a) ?_
  refine OGo.st (T' := s₁) (g' := (mkF m 1 #[.val (.ref a)] [(.ref a)])) (fun _ k => (XS.aloadN X0.here hx rfl (hb hby own_d_prog_59_method_9_0) rfl rfl k)) ?_
  obtain ⟨T1, X1, e1, st1⟩ := getF X0 hx hZ hown (host := "") (Or.inl (hw _ (List.mem_of_getElem? (i := 88) rfl))) Via.refl e0 F_a_session (g := (mkF m 1 #[.val (.ref a)] [(.ref a)])) rfl rfl (hb hby own_d_prog_59_method_9_1)
  refine OGo.st (T' := T1) (g' := (mkF m 4 #[.val (.ref a)] [(.long a_session)])) (fun _ k => st1 _ k) ?_
  exact OGo.ret X1 hx hlk Bd.returns rfl own_rJ (hb hby own_d_prog_59_method_9_4) (by decide) (by decide) e1 (⟨rfl, N0, rfl⟩)
theorem own_ef_rmT_ops (m : MethodId) (x0 : Addr) : entryFrame m #[(.ref x0)] 1 = mkF m 0 #[.val (.ref x0)] [] := by first | (simp [entryFrame, mkF, argsToLocals, Value.category]; done) | rfl
def R_rmT_ops : Room := { frames := 0, cells := 0, slots := 0, locals := 0 }
def Q_rmT_ops (Z : State) (a : Addr) (oo : Addr) (h0 : Heap) (n0 : Nat) (v : Option Value) (h : Heap) (L : List Loc) : Prop := v = some (.ref oo) ∧ Fr n0 L ∧ h = h0
set_option maxRecDepth 65536 in
set_option maxHeartbeats 40000000 in
theorem rmT_ops (l : Launch) (Z : State) (a0 : Array Value) (hw : ∀ d ∈ tables_1, d.before a0 Z = true) (ws : List Jvm.Cond) (a : Addr) (oo : Addr) (h0 : Heap) (n0 : Nat) (Z0 : n0 ≤ h0.size) (F_a_ops : Fld Z h0 a "com/example/rallypoint/rallypoint/server/LogEntry$TreeChanged" "ops" "Ljava/util/List;" (.ref oo)) :
    MetFree l (⟨"com/example/rallypoint/rallypoint/server/LogEntry$TreeChanged", "ops", "()Ljava/util/List;"⟩ : MethodName) (head1 (Jvm.Cond.code (⟨"com/example/rallypoint/rallypoint/server/LogEntry$TreeChanged", "ops", "()Ljava/util/List;"⟩ : MethodName) prog_59_method_10_code 1 (some (.object "java/util/List")) :: ws) R_rmT_ops) (fun vs_ U => vs_ = #[(.ref a)] ∧ Z.Warmed39 U.vm ∧ U.heap = h0) (fun _ _ _ _ _ => True) (fun _ U o U' => ∃ v L, o = .returned v ∧ Q_rmT_ops Z a oo h0 n0 v U'.heap L ∧ FrameEnd U o U' L R_rmT_ops.cells R_rmT_ops.slots) := by
  refine MetFree.of_bodySF (plainFor_of_name own_pn1) hisR ?_
  intro p e s m args below meth c s₁ Bd hml0 hP hK
  obtain ⟨rfl, hZ, hh⟩ := hP
  have hx := Bd.exec
  have hby := Bd.bytes
  have hml : c.maxLocals = 1 := hml0
  have hown : s.vm.findClass "com/example/rallypoint/rallypoint/server/LogEntry$TreeChanged" = some m.cls := findClass_of_methodNamed Bd.named
  have hnm := (name_of_methodNamed Bd.named Bd.method).1
  have hlk : meth.locks = false := BodyLoose.notSynchronized Bd
  have X0 : Stand p l e R_rmT_ops s m #[(.ref a)] below meth c s₁ [] 0 0 := Stand.of_body Bd
  have e0 : s₁.heap = h0 := by rw [← hh, Bd.state]; rfl
  have N0 := Fr.nil n0
  refine OGo.en (Q := Q_rmT_ops Z a oo h0 n0) (C := R_rmT_ops.cells) (S := R_rmT_ops.slots) (own_ef_rmT_ops m a) ?_
  refine OGo.st (T' := s₁) (g' := (mkF m 1 #[.val (.ref a)] [(.ref a)])) (fun _ k => (XS.aloadN X0.here hx rfl (hb hby own_d_prog_59_method_10_0) rfl rfl k)) ?_
  obtain ⟨T1, X1, e1, st1⟩ := getF X0 hx hZ hown (host := "") (Or.inl (hw _ (List.mem_of_getElem? (i := 90) rfl))) Via.refl e0 F_a_ops (g := (mkF m 1 #[.val (.ref a)] [(.ref a)])) rfl rfl (hb hby own_d_prog_59_method_10_1)
  refine OGo.st (T' := T1) (g' := (mkF m 4 #[.val (.ref a)] [(.ref oo)])) (fun _ k => st1 _ k) ?_
  exact OGo.ret X1 hx hlk Bd.returns rfl (own_rR rfl rfl) (hb hby own_d_prog_59_method_10_4) (by decide) (by decide) e1 (⟨rfl, N0, rfl⟩)
theorem own_ef_rm0 (m : MethodId) (x0 : Int64) (x1 : Int64) (x2 : Int64) (x3 : Int64) (x4 : Int64) (x5 : Int32) : entryFrame m #[(.long x0), (.long x1), (.long x2), (.long x3), (.long x4), (.int x5)] maxLocals = mkF m 0 #[.val (.long x0), .second, .val (.long x1), .second, .val (.long x2), .second, .val (.long x3), .second, .val (.long x4), .second, .val (.int x5), .unset, .unset, .unset, .unset, .unset, .unset, .unset, .unset, .unset, .unset] [] := by first | (simp [entryFrame, mkF, argsToLocals, Value.category, maxLocals]; done) | rfl
def Q_rm0 (Z : State) (p0 : Int64) (p1 : Int64) (p2 : Int64) (p3 : Int64) (p4 : Int64) (p5 : Int32) (ed : Addr) (h0 : Heap) (n0 : Nat) (v : Option Value) (h : Heap) (L : List Loc) : Prop := v = some (.int 1) ∧ Fr n0 L
set_option maxRecDepth 65536 in
set_option maxHeartbeats 40000000 in
theorem rm0 (l : Launch) (Z : State) (a0 : Array Value) (hw : ∀ d ∈ tables_1, d.before a0 Z = true) (ws : List Jvm.Cond) (p0 : Int64) (p1 : Int64) (p2 : Int64) (p3 : Int64) (p4 : Int64) (p5 : Int32) (ed : Addr) (h0 : Heap) (n0 : Nat) (Z0 : n0 ≤ h0.size) (OLD : Old Z n0 h0) (S_ed : Sta Z Z.heap "java/util/ArrayList" "DEFAULTCAPACITY_EMPTY_ELEMENTDATA" "[Ljava/lang/Object;" (.ref ed)) (A_ed : OArr Z Z.heap ed (.object "java/lang/Object") 0 (fun _ => .null)) :
    MetFree l x (head1 (Jvm.Cond.code x code maxLocals ret :: ws) room_1) (fun vs_ U => vs_ = #[(.long p0), (.long p1), (.long p2), (.long p3), (.long p4), (.int p5)] ∧ Z.Warmed39 U.vm ∧ U.heap = h0) (fun _ _ _ _ _ => True) (fun _ U o U' => ∃ v L, o = .returned v ∧ Q_rm0 Z p0 p1 p2 p3 p4 p5 ed h0 n0 v U'.heap L ∧ FrameEnd U o U' L 24 128) := by
  refine MetFree.of_bodySF (plainFor_of_name own_pn2) hisR ?_
  intro p e s m args below meth c s₁ Bd hml0 hP hK
  obtain ⟨rfl, hZ, hh⟩ := hP
  have hx := Bd.exec
  have hby := Bd.bytes
  have hml : c.maxLocals = 21 := hml0
  have hown : s.vm.findClass "com/example/rallypoint/rallypoint/server/TreeChangedStampedPinLaw" = some m.cls := findClass_of_methodNamed Bd.named
  have hnm := (name_of_methodNamed Bd.named Bd.method).1
  have hlk : meth.locks = false := BodyLoose.notSynchronized Bd
  have X0 : Stand p l e room_1 s m #[(.long p0), (.long p1), (.long p2), (.long p3), (.long p4), (.int p5)] below meth c s₁ [] 0 0 := Stand.of_body Bd
  have e0 : s₁.heap = h0 := by rw [← hh, Bd.state]; rfl
  have N0 := Fr.nil n0
  refine OGo.en (Q := Q_rm0 Z p0 p1 p2 p3 p4 p5 ed h0 n0) (C := 24) (S := 128) (own_ef_rm0 m p0 p1 p2 p3 p4 p5) ?_
  refine OGo.st (T' := s₁) (g' := (mkF m 6 #[.val (.long p0), .second, .val (.long p1), .second, .val (.long p2), .second, .val (.long p3), .second, .val (.long p4), .second, .val (.int p5), .val (.int (p5 &&& (3 : Int32))), .unset, .unset, .unset, .unset, .unset, .unset, .unset, .unset, .unset] [])) (fun _ k => (XS.iload X0.here hx rfl (hb hby at_0) rfl (XS.iconst X0.here hx rfl (hb hby at_2) (XS.iand X0.here hx rfl (hb hby at_3) rfl (XS.istore X0.here hx rfl (hb hby at_4) rfl (l' := #[.val (.long p0), .second, .val (.long p1), .second, .val (.long p2), .second, .val (.long p3), .second, .val (.long p4), .second, .val (.int p5), .val (.int (p5 &&& (3 : Int32))), .unset, .unset, .unset, .unset, .unset, .unset, .unset, .unset, .unset]) rfl k))))) ?_
  obtain ⟨T1, h1, X1, e1, E1, A1, D1, -, st1⟩ := newO X0 hx hZ hown (hw _ (List.mem_of_getElem? (i := 0) rfl)) (hw _ (List.mem_of_getElem? (i := 1) rfl)) (hw _ (List.mem_of_getElem? (i := 2) rfl)) e0 (g := (mkF m 6 #[.val (.long p0), .second, .val (.long p1), .second, .val (.long p2), .second, .val (.long p3), .second, .val (.long p4), .second, .val (.int p5), .val (.int (p5 &&& (3 : Int32))), .unset, .unset, .unset, .unset, .unset, .unset, .unset, .unset, .unset] [])) rfl (hb hby at_6) (by decide) (by decide)
  obtain ⟨b1, g1⟩ : ∃ z, z = h0.size := ⟨_, rfl⟩
  rw [← g1] at A1 D1 st1
  have ne_ed_b1 : ed ≠ b1 := Nat.ne_of_lt (Nat.lt_of_lt_of_le (A_ed.ext OLD.2).lt (Nat.le_of_eq g1.symm))
  have g_b1 : n0 ≤ b1 := Nat.le_trans Z0 (Nat.le_of_eq g1.symm)
  have F_op_b1_1 : Fld Z h1 b1 "com/example/rallypoint/rallypoint/protocol/MultiRequest$Op" "op" "Lcom/example/rallypoint/rallypoint/protocol/OpCode;" .null := D1 (Or.inr (hw _ (List.mem_of_getElem? (i := 15) rfl))) (ty := (.object "com/example/rallypoint/rallypoint/protocol/OpCode")) (by decide)
  have F_body_b1_1 : Fld Z h1 b1 "com/example/rallypoint/rallypoint/protocol/MultiRequest$Op" "body" "Lcom/example/rallypoint/rallypoint/protocol/RequestBody;" .null := D1 (Or.inr (hw _ (List.mem_of_getElem? (i := 17) rfl))) (ty := (.object "com/example/rallypoint/rallypoint/protocol/RequestBody")) (by decide)
  have OLD_1 : Old Z n0 h1 := OLD.ext E1
  have Zn1 : n0 ≤ h1.size := Nat.le_trans Z0 E1.1
  have X1 : Stand p l e room_1 s m _ below meth c T1 _ 1 2 := X1
  refine OGo.st (T' := T1) (g' := (mkF m 9 #[.val (.long p0), .second, .val (.long p1), .second, .val (.long p2), .second, .val (.long p3), .second, .val (.long p4), .second, .val (.int p5), .val (.int (p5 &&& (3 : Int32))), .unset, .unset, .unset, .unset, .unset, .unset, .unset, .unset, .unset] [(.ref b1)])) (fun _ k => st1 _ k) ?_
  refine OGo.st (T' := T1) (g' := (mkF m 12 #[.val (.long p0), .second, .val (.long p1), .second, .val (.long p2), .second, .val (.long p3), .second, .val (.long p4), .second, .val (.int p5), .val (.int (p5 &&& (3 : Int32))), .unset, .unset, .unset, .unset, .unset, .unset, .unset, .unset, .unset] [.null, .null, (.ref b1), (.ref b1)])) (fun _ k => (XS.dup X1.here hx rfl (hb hby at_9) rfl rfl (XS.aconstNull X1.here hx rfl (hb hby at_10) (XS.aconstNull X1.here hx rfl (hb hby at_11) k)))) ?_
  obtain ⟨_, _, ⟨T2, L2, k2, n2⟩, -, X2, ⟨Lc2, hQ2, l2, y2, z2⟩, st2⟩ := X1.specialBack hx (y := (⟨"com/example/rallypoint/rallypoint/protocol/MultiRequest$Op", "<init>", "(Lcom/example/rallypoint/rallypoint/protocol/OpCode;Lcom/example/rallypoint/rallypoint/protocol/RequestBody;)V"⟩ : MethodName)) rfl hown (mvT hZ (hw _ (List.mem_of_getElem? (i := 3) rfl))) (mvT hZ (hw _ (List.mem_of_getElem? (i := 4) rfl))) (mvT hZ (hw _ (List.mem_of_getElem? (i := 5) rfl))) (by decide) (backOf (W := 1) (rmOp l Z a0 hw [] (b1) (.null) (.null) h1 n0 Zn1 (A1) (F_op_b1_1) (F_body_b1_1) (g_b1)) hZ (hw _ (List.mem_of_getElem? (i := 5) rfl)) (hw _ (List.mem_of_getElem? (i := 2) rfl)) (by decide) (by decide)) (g := (mkF m 12 #[.val (.long p0), .second, .val (.long p1), .second, .val (.long p2), .second, .val (.long p3), .second, .val (.long p4), .second, .val (.int p5), .val (.int (p5 &&& (3 : Int32))), .unset, .unset, .unset, .unset, .unset, .unset, .unset, .unset, .unset] [.null, .null, (.ref b1), (.ref b1)])) rfl (by rw [hml]; rfl) (Steps.refl _) (a := b1) (argsL := [.null, .null]) (rest := [(.ref b1)]) (lenOf own_pd12 rfl) rfl (by show 2 * 0 + _ ≤ _; exact Nat.le_of_eq rfl) (hb hby at_12) (fun _ _ => ⟨rfl, e1, (by decide : 1 + 0 ≤ _), (by decide : 2 + 0 ≤ _)⟩)
  dsimp only [Pt.U, Pt.locs, Pt.cells, Pt.slots] at X2 l2 y2 z2 st2 hQ2
  subst l2 y2 z2
  have X2 : Stand p l e room_1 s m _ below meth c T2 _ 1 2 := X2
  obtain ⟨h2, e2⟩ : ∃ z, T2.heap = z := ⟨_, rfl⟩
  rw [e2] at hQ2
  obtain ⟨rfl, Nq2, Kc2, G2x0, G2x1⟩ := hQ2
  have N2 := Fr.app N0 Nq2
  have OLD_2 : Old Z n0 h2 := OLD_1.keep Kc2 (allS g_b1 all0)
  have A1_2 : Exa Z h2 b1 "com/example/rallypoint/rallypoint/protocol/MultiRequest$Op" := A1.keep Kc2
  have Zn2 : n0 ≤ h2.size := Nat.le_trans Zn1 Kc2.1
  refine OGo.st (T' := T2) (g' := (mkF m 15 #[.val (.long p0), .second, .val (.long p1), .second, .val (.long p2), .second, .val (.long p3), .second, .val (.long p4), .second, .val (.int p5), .val (.int (p5 &&& (3 : Int32))), .unset, .unset, .unset, .unset, .unset, .unset, .unset, .unset, .unset] [(.ref b1)])) (fun _ k => st2.trans k) ?_
  refine OGo.st (T' := T2) (g' := (mkF m 17 #[.val (.long p0), .second, .val (.long p1), .second, .val (.long p2), .second, .val (.long p3), .second, .val (.long p4), .second, .val (.int p5), .val (.int (p5 &&& (3 : Int32))), .val (.ref b1), .unset, .unset, .unset, .unset, .unset, .unset, .unset, .unset] [])) (fun _ k => (XS.astore X2.here hx rfl (hb hby at_15) rfl rfl (l' := #[.val (.long p0), .second, .val (.long p1), .second, .val (.long p2), .second, .val (.long p3), .second, .val (.long p4), .second, .val (.int p5), .val (.int (p5 &&& (3 : Int32))), .val (.ref b1), .unset, .unset, .unset, .unset, .unset, .unset, .unset, .unset]) rfl k)) ?_
  obtain ⟨T3, h3, X3, e3, E3, A3, D3, -, st3⟩ := newO X2 hx hZ hown (hw _ (List.mem_of_getElem? (i := 0) rfl)) (hw _ (List.mem_of_getElem? (i := 1) rfl)) (hw _ (List.mem_of_getElem? (i := 2) rfl)) e2 (g := (mkF m 17 #[.val (.long p0), .second, .val (.long p1), .second, .val (.long p2), .second, .val (.long p3), .second, .val (.long p4), .second, .val (.int p5), .val (.int (p5 &&& (3 : Int32))), .val (.ref b1), .unset, .unset, .unset, .unset, .unset, .unset, .unset, .unset] [])) rfl (hb hby at_17) (by decide) (by decide)
  obtain ⟨b3, g3⟩ : ∃ z, z = h2.size := ⟨_, rfl⟩
  rw [← g3] at A3 D3 st3
  have ne_ed_b3 : ed ≠ b3 := Nat.ne_of_lt (Nat.lt_of_lt_of_le (A_ed.ext OLD_2.2).lt (Nat.le_of_eq g3.symm))
  have ne_b1_b3 : b1 ≠ b3 := Nat.ne_of_lt (Nat.lt_of_lt_of_le A1_2.lt (Nat.le_of_eq g3.symm))
  have g_b3 : n0 ≤ b3 := Nat.le_trans Zn2 (Nat.le_of_eq g3.symm)
  have F_op_b3_3 : Fld Z h3 b3 "com/example/rallypoint/rallypoint/protocol/MultiRequest$Op" "op" "Lcom/example/rallypoint/rallypoint/protocol/OpCode;" .null := D3 (Or.inr (hw _ (List.mem_of_getElem? (i := 15) rfl))) (ty := (.object "com/example/rallypoint/rallypoint/protocol/OpCode")) (by decide)
  have F_body_b3_3 : Fld Z h3 b3 "com/example/rallypoint/rallypoint/protocol/MultiRequest$Op" "body" "Lcom/example/rallypoint/rallypoint/protocol/RequestBody;" .null := D3 (Or.inr (hw _ (List.mem_of_getElem? (i := 17) rfl))) (ty := (.object "com/example/rallypoint/rallypoint/protocol/RequestBody")) (by decide)
  have OLD_3 : Old Z n0 h3 := OLD_2.ext E3
  have A1_3 : Exa Z h3 b1 "com/example/rallypoint/rallypoint/protocol/MultiRequest$Op" := A1_2.ext E3
  have G2x0_3 : Fld Z h3 b1 "com/example/rallypoint/rallypoint/protocol/MultiRequest$Op" "op" "Lcom/example/rallypoint/rallypoint/protocol/OpCode;" .null := G2x0.ext E3
  have G2x1_3 : Fld Z h3 b1 "com/example/rallypoint/rallypoint/protocol/MultiRequest$Op" "body" "Lcom/example/rallypoint/rallypoint/protocol/RequestBody;" .null := G2x1.ext E3
  have Zn3 : n0 ≤ h3.size := Nat.le_trans Zn2 E3.1
  have X3 : Stand p l e room_1 s m _ below meth c T3 _ 2 4 := X3
  refine OGo.st (T' := T3) (g' := (mkF m 20 #[.val (.long p0), .second, .val (.long p1), .second, .val (.long p2), .second, .val (.long p3), .second, .val (.long p4), .second, .val (.int p5), .val (.int (p5 &&& (3 : Int32))), .val (.ref b1), .unset, .unset, .unset, .unset, .unset, .unset, .unset, .unset] [(.ref b3)])) (fun _ k => st3 _ k) ?_
  refine OGo.st (T' := T3) (g' := (mkF m 23 #[.val (.long p0), .second, .val (.long p1), .second, .val (.long p2), .second, .val (.long p3), .second, .val (.long p4), .second, .val (.int p5), .val (.int (p5 &&& (3 : Int32))), .val (.ref b1), .unset, .unset, .unset, .unset, .unset, .unset, .unset, .unset] [.null, .null, (.ref b3), (.ref b3)])) (fun _ k => (XS.dup X3.here hx rfl (hb hby at_20) rfl rfl (XS.aconstNull X3.here hx rfl (hb hby at_21) (XS.aconstNull X3.here hx rfl (hb hby at_22) k)))) ?_
  obtain ⟨_, _, ⟨T4, L4, k4, n4⟩, -, X4, ⟨Lc4, hQ4, l4, y4, z4⟩, st4⟩ := X3.specialBack hx (y := (⟨"com/example/rallypoint/rallypoint/protocol/MultiRequest$Op", "<init>", "(Lcom/example/rallypoint/rallypoint/protocol/OpCode;Lcom/example/rallypoint/rallypoint/protocol/RequestBody;)V"⟩ : MethodName)) rfl hown (mvT hZ (hw _ (List.mem_of_getElem? (i := 3) rfl))) (mvT hZ (hw _ (List.mem_of_getElem? (i := 4) rfl))) (mvT hZ (hw _ (List.mem_of_getElem? (i := 5) rfl))) (by decide) (backOf (W := 1) (rmOp l Z a0 hw [] (b3) (.null) (.null) h3 n0 Zn3 (A3) (F_op_b3_3) (F_body_b3_3) (g_b3)) hZ (hw _ (List.mem_of_getElem? (i := 5) rfl)) (hw _ (List.mem_of_getElem? (i := 2) rfl)) (by decide) (by decide)) (g := (mkF m 23 #[.val (.long p0), .second, .val (.long p1), .second, .val (.long p2), .second, .val (.long p3), .second, .val (.long p4), .second, .val (.int p5), .val (.int (p5 &&& (3 : Int32))), .val (.ref b1), .unset, .unset, .unset, .unset, .unset, .unset, .unset, .unset] [.null, .null, (.ref b3), (.ref b3)])) rfl (by rw [hml]; rfl) (Steps.refl _) (a := b3) (argsL := [.null, .null]) (rest := [(.ref b3)]) (lenOf own_pd12 rfl) rfl (by show 2 * 0 + _ ≤ _; exact Nat.le_of_eq rfl) (hb hby at_23) (fun _ _ => ⟨rfl, e3, (by decide : 2 + 0 ≤ _), (by decide : 4 + 0 ≤ _)⟩)
  dsimp only [Pt.U, Pt.locs, Pt.cells, Pt.slots] at X4 l4 y4 z4 st4 hQ4
  subst l4 y4 z4
  have X4 : Stand p l e room_1 s m _ below meth c T4 _ 2 4 := X4
  obtain ⟨h4, e4⟩ : ∃ z, T4.heap = z := ⟨_, rfl⟩
  rw [e4] at hQ4
  obtain ⟨rfl, Nq4, Kc4, G4x0, G4x1⟩ := hQ4
  have N4 := Fr.app N2 Nq4
  have OLD_4 : Old Z n0 h4 := OLD_3.keep Kc4 (allS g_b3 all0)
  have A1_4 : Exa Z h4 b1 "com/example/rallypoint/rallypoint/protocol/MultiRequest$Op" := A1_3.keep Kc4
  have G2x0_4 : Fld Z h4 b1 "com/example/rallypoint/rallypoint/protocol/MultiRequest$Op" "op" "Lcom/example/rallypoint/rallypoint/protocol/OpCode;" .null := G2x0_3.keep Kc4 (ninS ne_b1_b3 nin0)
  have G2x1_4 : Fld Z h4 b1 "com/example/rallypoint/rallypoint/protocol/MultiRequest$Op" "body" "Lcom/example/rallypoint/rallypoint/protocol/RequestBody;" .null := G2x1_3.keep Kc4 (ninS ne_b1_b3 nin0)
  have A3_4 : Exa Z h4 b3 "com/example/rallypoint/rallypoint/protocol/MultiRequest$Op" := A3.keep Kc4
  have Zn4 : n0 ≤ h4.size := Nat.le_trans Zn3 Kc4.1
  refine OGo.st (T' := T4) (g' := (mkF m 26 #[.val (.long p0), .second, .val (.long p1), .second, .val (.long p2), .second, .val (.long p3), .second, .val (.long p4), .second, .val (.int p5), .val (.int (p5 &&& (3 : Int32))), .val (.ref b1), .unset, .unset, .unset, .unset, .unset, .unset, .unset, .unset] [(.ref b3)])) (fun _ k => st4.trans k) ?_
  refine OGo.st (T' := T4) (g' := (mkF m 28 #[.val (.long p0), .second, .val (.long p1), .second, .val (.long p2), .second, .val (.long p3), .second, .val (.long p4), .second, .val (.int p5), .val (.int (p5 &&& (3 : Int32))), .val (.ref b1), .val (.ref b3), .unset, .unset, .unset, .unset, .unset, .unset, .unset] [])) (fun _ k => (XS.astore X4.here hx rfl (hb hby at_26) rfl rfl (l' := #[.val (.long p0), .second, .val (.long p1), .second, .val (.long p2), .second, .val (.long p3), .second, .val (.long p4), .second, .val (.int p5), .val (.int (p5 &&& (3 : Int32))), .val (.ref b1), .val (.ref b3), .unset, .unset, .unset, .unset, .unset, .unset, .unset]) rfl k)) ?_
  obtain ⟨T5, h5, X5, e5, E5, A5, D5, -, st5⟩ := newO X4 hx hZ hown (hw _ (List.mem_of_getElem? (i := 18) rfl)) (hw _ (List.mem_of_getElem? (i := 19) rfl)) (hw _ (List.mem_of_getElem? (i := 20) rfl)) e4 (g := (mkF m 28 #[.val (.long p0), .second, .val (.long p1), .second, .val (.long p2), .second, .val (.long p3), .second, .val (.long p4), .second, .val (.int p5), .val (.int (p5 &&& (3 : Int32))), .val (.ref b1), .val (.ref b3), .unset, .unset, .unset, .unset, .unset, .unset, .unset] [])) rfl (hb hby at_28) (by decide) (by decide)
  obtain ⟨b5, g5⟩ : ∃ z, z = h4.size := ⟨_, rfl⟩
  rw [← g5] at A5 D5 st5
  have ne_ed_b5 : ed ≠ b5 := Nat.ne_of_lt (Nat.lt_of_lt_of_le (A_ed.ext OLD_4.2).lt (Nat.le_of_eq g5.symm))
  have ne_b1_b5 : b1 ≠ b5 := Nat.ne_of_lt (Nat.lt_of_lt_of_le A1_4.lt (Nat.le_of_eq g5.symm))
  have ne_b3_b5 : b3 ≠ b5 := Nat.ne_of_lt (Nat.lt_of_lt_of_le A3_4.lt (Nat.le_of_eq g5.symm))
  have g_b5 : n0 ≤ b5 := Nat.le_trans Zn4 (Nat.le_of_eq g5.symm)
  have F_modCount_b5_5 : Fld Z h5 b5 "java/util/AbstractList" "modCount" "I" (.int (0 : Int32)) := D5 (Or.inl (hw _ (List.mem_of_getElem? (i := 38) rfl))) (ty := .int) (by decide)
  have F_elementData_b5_5 : Fld Z h5 b5 "java/util/ArrayList" "elementData" "[Ljava/lang/Object;" .null := D5 (Or.inl (hw _ (List.mem_of_getElem? (i := 41) rfl))) (ty := (.array (.object "java/lang/Object"))) (by decide)
  have F_size_b5_5 : Fld Z h5 b5 "java/util/ArrayList" "size" "I" (.int (0 : Int32)) := D5 (Or.inl (hw _ (List.mem_of_getElem? (i := 54) rfl))) (ty := .int) (by decide)
  have OLD_5 : Old Z n0 h5 := OLD_4.ext E5
  have A1_5 : Exa Z h5 b1 "com/example/rallypoint/rallypoint/protocol/MultiRequest$Op" := A1_4.ext E5
  have G2x0_5 : Fld Z h5 b1 "com/example/rallypoint/rallypoint/protocol/MultiRequest$Op" "op" "Lcom/example/rallypoint/rallypoint/protocol/OpCode;" .null := G2x0_4.ext E5
  have G2x1_5 : Fld Z h5 b1 "com/example/rallypoint/rallypoint/protocol/MultiRequest$Op" "body" "Lcom/example/rallypoint/rallypoint/protocol/RequestBody;" .null := G2x1_4.ext E5
  have A3_5 : Exa Z h5 b3 "com/example/rallypoint/rallypoint/protocol/MultiRequest$Op" := A3_4.ext E5
  have G4x0_5 : Fld Z h5 b3 "com/example/rallypoint/rallypoint/protocol/MultiRequest$Op" "op" "Lcom/example/rallypoint/rallypoint/protocol/OpCode;" .null := G4x0.ext E5
  have G4x1_5 : Fld Z h5 b3 "com/example/rallypoint/rallypoint/protocol/MultiRequest$Op" "body" "Lcom/example/rallypoint/rallypoint/protocol/RequestBody;" .null := G4x1.ext E5
  have Zn5 : n0 ≤ h5.size := Nat.le_trans Zn4 E5.1
  have X5 : Stand p l e room_1 s m _ below meth c T5 _ 3 7 := X5
  refine OGo.st (T' := T5) (g' := (mkF m 31 #[.val (.long p0), .second, .val (.long p1), .second, .val (.long p2), .second, .val (.long p3), .second, .val (.long p4), .second, .val (.int p5), .val (.int (p5 &&& (3 : Int32))), .val (.ref b1), .val (.ref b3), .unset, .unset, .unset, .unset, .unset, .unset, .unset] [(.ref b5)])) (fun _ k => st5 _ k) ?_
  refine OGo.st (T' := T5) (g' := (mkF m 32 #[.val (.long p0), .second, .val (.long p1), .second, .val (.long p2), .second, .val (.long p3), .second, .val (.long p4), .second, .val (.int p5), .val (.int (p5 &&& (3 : Int32))), .val (.ref b1), .val (.ref b3), .unset, .unset, .unset, .unset, .unset, .unset, .unset] [(.ref b5), (.ref b5)])) (fun _ k => (XS.dup X5.here hx rfl (hb hby at_31) rfl rfl k)) ?_
  obtain ⟨_, _, ⟨T6, L6, k6, n6⟩, -, X6, ⟨Lc6, hQ6, l6, y6, z6⟩, st6⟩ := X5.specialBack hx (y := (⟨"java/util/ArrayList", "<init>", "()V"⟩ : MethodName)) rfl hown (mvT hZ (hw _ (List.mem_of_getElem? (i := 21) rfl))) (mvT hZ (hw _ (List.mem_of_getElem? (i := 22) rfl))) (mvT hZ (hw _ (List.mem_of_getElem? (i := 23) rfl))) (by decide) (backOf (W := 1) (rmAI l Z a0 hw [] (b5) ((0 : Int32)) (.null) ((0 : Int32)) (ed) h5 n0 Zn5 (A5) (F_modCount_b5_5) (F_elementData_b5_5) (F_size_b5_5) (g_b5) (OLD_5) (S_ed) (A_ed)) hZ (hw _ (List.mem_of_getElem? (i := 23) rfl)) (hw _ (List.mem_of_getElem? (i := 20) rfl)) (by decide) (by decide)) (g := (mkF m 32 #[.val (.long p0), .second, .val (.long p1), .second, .val (.long p2), .second, .val (.long p3), .second, .val (.long p4), .second, .val (.int p5), .val (.int (p5 &&& (3 : Int32))), .val (.ref b1), .val (.ref b3), .unset, .unset, .unset, .unset, .unset, .unset, .unset] [(.ref b5), (.ref b5)])) rfl (by rw [hml]; rfl) (Steps.refl _) (a := b5) (argsL := []) (rest := [(.ref b5)]) (lenOf own_pd3 rfl) rfl (by show 2 * 0 + _ ≤ _; exact Nat.le_of_eq rfl) (hb hby at_32) (fun _ _ => ⟨rfl, e5, (by decide : 3 + 0 ≤ _), (by decide : 7 + 0 ≤ _)⟩)
  dsimp only [Pt.U, Pt.locs, Pt.cells, Pt.slots] at X6 l6 y6 z6 st6 hQ6
  subst l6 y6 z6
  have X6 : Stand p l e room_1 s m _ below meth c T6 _ 3 7 := X6
  obtain ⟨h6, e6⟩ : ∃ z, T6.heap = z := ⟨_, rfl⟩
  rw [e6] at hQ6
  obtain ⟨rfl, Nq6, Kc6, G6x0, G6x1, G6x2⟩ := hQ6
  have N6 := Fr.app N4 Nq6
  have OLD_6 : Old Z n0 h6 := OLD_5.keep Kc6 (allS g_b5 all0)
  have A1_6 : Exa Z h6 b1 "com/example/rallypoint/rallypoint/protocol/MultiRequest$Op" := A1_5.keep Kc6
  have G2x0_6 : Fld Z h6 b1 "com/example/rallypoint/rallypoint/protocol/MultiRequest$Op" "op" "Lcom/example/rallypoint/rallypoint/protocol/OpCode;" .null := G2x0_5.keep Kc6 (ninS ne_b1_b5 nin0)
  have G2x1_6 : Fld Z h6 b1 "com/example/rallypoint/rallypoint/protocol/MultiRequest$Op" "body" "Lcom/example/rallypoint/rallypoint/protocol/RequestBody;" .null := G2x1_5.keep Kc6 (ninS ne_b1_b5 nin0)
  have A3_6 : Exa Z h6 b3 "com/example/rallypoint/rallypoint/protocol/MultiRequest$Op" := A3_5.keep Kc6
  have G4x0_6 : Fld Z h6 b3 "com/example/rallypoint/rallypoint/protocol/MultiRequest$Op" "op" "Lcom/example/rallypoint/rallypoint/protocol/OpCode;" .null := G4x0_5.keep Kc6 (ninS ne_b3_b5 nin0)
  have G4x1_6 : Fld Z h6 b3 "com/example/rallypoint/rallypoint/protocol/MultiRequest$Op" "body" "Lcom/example/rallypoint/rallypoint/protocol/RequestBody;" .null := G4x1_5.keep Kc6 (ninS ne_b3_b5 nin0)
  have A5_6 : Exa Z h6 b5 "java/util/ArrayList" := A5.keep Kc6
  have Zn6 : n0 ≤ h6.size := Nat.le_trans Zn5 Kc6.1
  refine OGo.st (T' := T6) (g' := (mkF m 35 #[.val (.long p0), .second, .val (.long p1), .second, .val (.long p2), .second, .val (.long p3), .second, .val (.long p4), .second, .val (.int p5), .val (.int (p5 &&& (3 : Int32))), .val (.ref b1), .val (.ref b3), .unset, .unset, .unset, .unset, .unset, .unset, .unset] [(.ref b5)])) (fun _ k => st6.trans k) ?_
  refine OGo.st (T' := T6) (g' := (mkF m 37 #[.val (.long p0), .second, .val (.long p1), .second, .val (.long p2), .second, .val (.long p3), .second, .val (.long p4), .second, .val (.int p5), .val (.int (p5 &&& (3 : Int32))), .val (.ref b1), .val (.ref b3), .val (.ref b5), .unset, .unset, .unset, .unset, .unset, .unset] [])) (fun _ k => (XS.astore X6.here hx rfl (hb hby at_35) rfl rfl (l' := #[.val (.long p0), .second, .val (.long p1), .second, .val (.long p2), .second, .val (.long p3), .second, .val (.long p4), .second, .val (.int p5), .val (.int (p5 &&& (3 : Int32))), .val (.ref b1), .val (.ref b3), .val (.ref b5), .unset, .unset, .unset, .unset, .unset, .unset]) rfl k)) ?_
  rcases own_mask3 p5 with hl7 | hl7 | hl7 | hl7
  · rw [hl7]
    refine OGo.st (T' := T6) (g' := (mkF m 69 #[.val (.long p0), .second, .val (.long p1), .second, .val (.long p2), .second, .val (.long p3), .second, .val (.long p4), .second, .val (.int p5), .val (.int (0 : Int32)), .val (.ref b1), .val (.ref b3), .val (.ref b5), .unset, .unset, .unset, .unset, .unset, .unset] [])) (fun _ k => (XS.iload X6.here hx rfl (hb hby at_37) rfl (XS.iconst X6.here hx rfl (hb hby at_39) (XS.icmpYes X6.here hx rfl (pc0 := 40) (pc' := 53) rfl (hb hby at_40) rfl (tlt (by decide : (0 : Int32) < (1 : Int32))).1 (by decide) (by decide) (XS.iload X6.here hx rfl (hb hby at_53) rfl (XS.iconst X6.here hx rfl (hb hby at_55) (XS.icmpYes X6.here hx rfl (pc0 := 56) (pc' := 69) rfl (hb hby at_56) rfl (tlt (by decide : (0 : Int32) < (2 : Int32))).1 (by decide) (by decide) k))))))) ?_
    refine OGo.st (T' := T6) (g' := (mkF m 85 #[.val (.long p0), .second, .val (.long p1), .second, .val (.long p2), .second, .val (.long p3), .second, .val (.long p4), .second, .val (.int p5), .val (.int (0 : Int32)), .val (.ref b1), .val (.ref b3), .val (.ref b5), .unset, .unset, .unset, .unset, .unset, .unset] [])) (fun _ k => (XS.iload X6.here hx rfl (hb hby at_69) rfl (XS.iconst X6.here hx rfl (hb hby at_71) (XS.icmpYes X6.here hx rfl (pc0 := 72) (pc' := 85) rfl (hb hby at_72) rfl (tlt (by decide : (0 : Int32) < (3 : Int32))).1 (by decide) (by decide) k)))) ?_
    obtain ⟨T8, h8, X8, e8, E8, A8, D8, -, st8⟩ := newO X6 hx hZ hown (hw _ (List.mem_of_getElem? (i := 77) rfl)) (hw _ (List.mem_of_getElem? (i := 78) rfl)) (hw _ (List.mem_of_getElem? (i := 79) rfl)) e6 (g := (mkF m 85 #[.val (.long p0), .second, .val (.long p1), .second, .val (.long p2), .second, .val (.long p3), .second, .val (.long p4), .second, .val (.int p5), .val (.int (0 : Int32)), .val (.ref b1), .val (.ref b3), .val (.ref b5), .unset, .unset, .unset, .unset, .unset, .unset] [])) rfl (hb hby at_85) (by decide) (by decide)
    obtain ⟨b8, g8⟩ : ∃ z, z = h6.size := ⟨_, rfl⟩
    rw [← g8] at A8 D8 st8
    have ne_ed_b8 : ed ≠ b8 := Nat.ne_of_lt (Nat.lt_of_lt_of_le (A_ed.ext OLD_6.2).lt (Nat.le_of_eq g8.symm))
    have ne_b1_b8 : b1 ≠ b8 := Nat.ne_of_lt (Nat.lt_of_lt_of_le A1_6.lt (Nat.le_of_eq g8.symm))
    have ne_b3_b8 : b3 ≠ b8 := Nat.ne_of_lt (Nat.lt_of_lt_of_le A3_6.lt (Nat.le_of_eq g8.symm))
    have ne_b5_b8 : b5 ≠ b8 := Nat.ne_of_lt (Nat.lt_of_lt_of_le A5_6.lt (Nat.le_of_eq g8.symm))
    have g_b8 : n0 ≤ b8 := Nat.le_trans Zn6 (Nat.le_of_eq g8.symm)
    have F_zxid_b8_8 : Fld Z h8 b8 "com/example/rallypoint/rallypoint/server/LogEntry$TreeChanged" "zxid" "J" (.long (0 : Int64)) := D8 (Or.inr (hw _ (List.mem_of_getElem? (i := 85) rfl))) (ty := .long) (by decide)
    have F_time_b8_8 : Fld Z h8 b8 "com/example/rallypoint/rallypoint/server/LogEntry$TreeChanged" "time" "J" (.long (0 : Int64)) := D8 (Or.inr (hw _ (List.mem_of_getElem? (i := 87) rfl))) (ty := .long) (by decide)
    have F_session_b8_8 : Fld Z h8 b8 "com/example/rallypoint/rallypoint/server/LogEntry$TreeChanged" "session" "J" (.long (0 : Int64)) := D8 (Or.inr (hw _ (List.mem_of_getElem? (i := 89) rfl))) (ty := .long) (by decide)
    have F_ops_b8_8 : Fld Z h8 b8 "com/example/rallypoint/rallypoint/server/LogEntry$TreeChanged" "ops" "Ljava/util/List;" .null := D8 (Or.inr (hw _ (List.mem_of_getElem? (i := 91) rfl))) (ty := (.object "java/util/List")) (by decide)
    have OLD_8 : Old Z n0 h8 := OLD_6.ext E8
    have A1_8 : Exa Z h8 b1 "com/example/rallypoint/rallypoint/protocol/MultiRequest$Op" := A1_6.ext E8
    have G2x0_8 : Fld Z h8 b1 "com/example/rallypoint/rallypoint/protocol/MultiRequest$Op" "op" "Lcom/example/rallypoint/rallypoint/protocol/OpCode;" .null := G2x0_6.ext E8
    have G2x1_8 : Fld Z h8 b1 "com/example/rallypoint/rallypoint/protocol/MultiRequest$Op" "body" "Lcom/example/rallypoint/rallypoint/protocol/RequestBody;" .null := G2x1_6.ext E8
    have A3_8 : Exa Z h8 b3 "com/example/rallypoint/rallypoint/protocol/MultiRequest$Op" := A3_6.ext E8
    have G4x0_8 : Fld Z h8 b3 "com/example/rallypoint/rallypoint/protocol/MultiRequest$Op" "op" "Lcom/example/rallypoint/rallypoint/protocol/OpCode;" .null := G4x0_6.ext E8
    have G4x1_8 : Fld Z h8 b3 "com/example/rallypoint/rallypoint/protocol/MultiRequest$Op" "body" "Lcom/example/rallypoint/rallypoint/protocol/RequestBody;" .null := G4x1_6.ext E8
    have A5_8 : Exa Z h8 b5 "java/util/ArrayList" := A5_6.ext E8
    have G6x0_8 : Fld Z h8 b5 "java/util/AbstractList" "modCount" "I" (.int (0 : Int32)) := G6x0.ext E8
    have G6x1_8 : Fld Z h8 b5 "java/util/ArrayList" "elementData" "[Ljava/lang/Object;" (.ref ed) := G6x1.ext E8
    have G6x2_8 : Fld Z h8 b5 "java/util/ArrayList" "size" "I" (.int (0 : Int32)) := G6x2.ext E8
    have Zn8 : n0 ≤ h8.size := Nat.le_trans Zn6 E8.1
    have X8 : Stand p l e room_1 s m _ below meth c T8 _ 4 11 := X8
    refine OGo.st (T' := T8) (g' := (mkF m 88 #[.val (.long p0), .second, .val (.long p1), .second, .val (.long p2), .second, .val (.long p3), .second, .val (.long p4), .second, .val (.int p5), .val (.int (0 : Int32)), .val (.ref b1), .val (.ref b3), .val (.ref b5), .unset, .unset, .unset, .unset, .unset, .unset] [(.ref b8)])) (fun _ k => st8 _ k) ?_
    refine OGo.st (T' := T8) (g' := (mkF m 95 #[.val (.long p0), .second, .val (.long p1), .second, .val (.long p2), .second, .val (.long p3), .second, .val (.long p4), .second, .val (.int p5), .val (.int (0 : Int32)), .val (.ref b1), .val (.ref b3), .val (.ref b5), .unset, .unset, .unset, .unset, .unset, .unset] [(.ref b5), (.long p2), (.long p1), (.long p0), (.ref b8), (.ref b8)])) (fun _ k => (XS.dup X8.here hx rfl (hb hby at_88) rfl rfl (XS.lloadN X8.here hx rfl (hb hby at_89) rfl (XS.lloadN X8.here hx rfl (hb hby at_90) rfl (XS.lload X8.here hx rfl (hb hby at_91) rfl (XS.aload X8.here hx rfl (hb hby at_93) rfl rfl k)))))) ?_
    obtain ⟨_, _, ⟨T9, L9, k9, n9⟩, -, X9, ⟨Lc9, hQ9, l9, y9, z9⟩, st9⟩ := X8.specialBack hx (y := (⟨"com/example/rallypoint/rallypoint/server/LogEntry$TreeChanged", "<init>", "(JJJLjava/util/List;)V"⟩ : MethodName)) rfl hown (mvT hZ (hw _ (List.mem_of_getElem? (i := 80) rfl))) (mvT hZ (hw _ (List.mem_of_getElem? (i := 81) rfl))) (mvT hZ (hw _ (List.mem_of_getElem? (i := 82) rfl))) (by decide) (backOf (W := 1) (rmTi l Z a0 hw [] (b8) ((0 : Int64)) ((0 : Int64)) ((0 : Int64)) (.null) (p0) (p1) (p2) (b5) h8 n0 Zn8 (A8) (F_zxid_b8_8) (F_time_b8_8) (F_session_b8_8) (F_ops_b8_8) (g_b8)) hZ (hw _ (List.mem_of_getElem? (i := 82) rfl)) (hw _ (List.mem_of_getElem? (i := 79) rfl)) (by decide) (by decide)) (g := (mkF m 95 #[.val (.long p0), .second, .val (.long p1), .second, .val (.long p2), .second, .val (.long p3), .second, .val (.long p4), .second, .val (.int p5), .val (.int (0 : Int32)), .val (.ref b1), .val (.ref b3), .val (.ref b5), .unset, .unset, .unset, .unset, .unset, .unset] [(.ref b5), (.long p2), (.long p1), (.long p0), (.ref b8), (.ref b8)])) rfl (by rw [hml]; rfl) (Steps.refl _) (a := b8) (argsL := [(.long p0), (.long p1), (.long p2), (.ref b5)]) (rest := [(.ref b8)]) (lenOf own_pd11 rfl) rfl (by show 2 * 0 + _ ≤ _; exact Nat.le_of_eq rfl) (hb hby at_95) (fun _ _ => ⟨rfl, e8, (by decide : 4 + 0 ≤ _), (by decide : 11 + 0 ≤ _)⟩)
    dsimp only [Pt.U, Pt.locs, Pt.cells, Pt.slots] at X9 l9 y9 z9 st9 hQ9
    subst l9 y9 z9
    have X9 : Stand p l e room_1 s m _ below meth c T9 _ 4 11 := X9
    obtain ⟨h9, e9⟩ : ∃ z, T9.heap = z := ⟨_, rfl⟩
    rw [e9] at hQ9
    obtain ⟨rfl, Nq9, Kc9, G9x0, G9x1, G9x2, G9x3⟩ := hQ9
    have N9 := Fr.app N6 Nq9
    have OLD_9 : Old Z n0 h9 := OLD_8.keep Kc9 (allS g_b8 all0)
    have A1_9 : Exa Z h9 b1 "com/example/rallypoint/rallypoint/protocol/MultiRequest$Op" := A1_8.keep Kc9
    have G2x0_9 : Fld Z h9 b1 "com/example/rallypoint/rallypoint/protocol/MultiRequest$Op" "op" "Lcom/example/rallypoint/rallypoint/protocol/OpCode;" .null := G2x0_8.keep Kc9 (ninS ne_b1_b8 nin0)
    have G2x1_9 : Fld Z h9 b1 "com/example/rallypoint/rallypoint/protocol/MultiRequest$Op" "body" "Lcom/example/rallypoint/rallypoint/protocol/RequestBody;" .null := G2x1_8.keep Kc9 (ninS ne_b1_b8 nin0)
    have A3_9 : Exa Z h9 b3 "com/example/rallypoint/rallypoint/protocol/MultiRequest$Op" := A3_8.keep Kc9
    have G4x0_9 : Fld Z h9 b3 "com/example/rallypoint/rallypoint/protocol/MultiRequest$Op" "op" "Lcom/example/rallypoint/rallypoint/protocol/OpCode;" .null := G4x0_8.keep Kc9 (ninS ne_b3_b8 nin0)
    have G4x1_9 : Fld Z h9 b3 "com/example/rallypoint/rallypoint/protocol/MultiRequest$Op" "body" "Lcom/example/rallypoint/rallypoint/protocol/RequestBody;" .null := G4x1_8.keep Kc9 (ninS ne_b3_b8 nin0)
    have A5_9 : Exa Z h9 b5 "java/util/ArrayList" := A5_8.keep Kc9
    have G6x0_9 : Fld Z h9 b5 "java/util/AbstractList" "modCount" "I" (.int (0 : Int32)) := G6x0_8.keep Kc9 (ninS ne_b5_b8 nin0)
    have G6x1_9 : Fld Z h9 b5 "java/util/ArrayList" "elementData" "[Ljava/lang/Object;" (.ref ed) := G6x1_8.keep Kc9 (ninS ne_b5_b8 nin0)
    have G6x2_9 : Fld Z h9 b5 "java/util/ArrayList" "size" "I" (.int (0 : Int32)) := G6x2_8.keep Kc9 (ninS ne_b5_b8 nin0)
    have A8_9 : Exa Z h9 b8 "com/example/rallypoint/rallypoint/server/LogEntry$TreeChanged" := A8.keep Kc9
    have Zn9 : n0 ≤ h9.size := Nat.le_trans Zn8 Kc9.1
    refine OGo.st (T' := T9) (g' := (mkF m 98 #[.val (.long p0), .second, .val (.long p1), .second, .val (.long p2), .second, .val (.long p3), .second, .val (.long p4), .second, .val (.int p5), .val (.int (0 : Int32)), .val (.ref b1), .val (.ref b3), .val (.ref b5), .unset, .unset, .unset, .unset, .unset, .unset] [(.ref b8)])) (fun _ k => st9.trans k) ?_
    refine OGo.st (T' := T9) (g' := (mkF m 106 #[.val (.long p0), .second, .val (.long p1), .second, .val (.long p2), .second, .val (.long p3), .second, .val (.long p4), .second, .val (.int p5), .val (.int (0 : Int32)), .val (.ref b1), .val (.ref b3), .val (.ref b5), .val (.ref b8), .unset, .unset, .unset, .unset, .unset] [(.long p4), (.long p3), (.ref b8)])) (fun _ k => (XS.astore X9.here hx rfl (hb hby at_98) rfl rfl (l' := #[.val (.long p0), .second, .val (.long p1), .second, .val (.long p2), .second, .val (.long p3), .second, .val (.long p4), .second, .val (.int p5), .val (.int (0 : Int32)), .val (.ref b1), .val (.ref b3), .val (.ref b5), .val (.ref b8), .unset, .unset, .unset, .unset, .unset]) rfl (XS.aload X9.here hx rfl (hb hby at_100) rfl rfl (XS.lload X9.here hx rfl (hb hby at_102) rfl (XS.lload X9.here hx rfl (hb hby at_104) rfl k))))) ?_
    obtain ⟨cq10, kq10, q10a, q10b, q10c⟩ := isOf hZ e9 A8_9
    obtain ⟨_, _, ⟨T10, L10, k10, n10⟩, -, X10, ⟨Lc10, hQ10, l10, y10, z10⟩, st10⟩ := X9.virtualBack hx (y := (⟨"com/example/rallypoint/rallypoint/server/LogEntry$TreeChanged", "stamped", "(JJ)Lcom/example/rallypoint/rallypoint/server/LogEntry$TreeChanged;"⟩ : MethodName)) (z := (⟨"com/example/rallypoint/rallypoint/server/LogEntry$TreeChanged", "stamped", "(JJ)Lcom/example/rallypoint/rallypoint/server/LogEntry$TreeChanged;"⟩ : MethodName)) hown (mvT hZ (hw _ (List.mem_of_getElem? (i := 92) rfl))) (mvT hZ (hw _ (List.mem_of_getElem? (i := 93) rfl))) (notFace_of_selects (args := #[]) (mvT hZ (hw _ (List.mem_of_getElem? (i := 95) rfl)))) (mvT hZ (hw _ (List.mem_of_getElem? (i := 95) rfl))) (mvT hZ (hw _ (List.mem_of_getElem? (i := 94) rfl))) (by decide) (backOf (W := 0) (rmTs l Z a0 hw [] (b8) (p2) (p3) (p4) (b5) h9 n0 Zn9 (A8_9) (G9x2) (G9x3)) hZ (hw _ (List.mem_of_getElem? (i := 96) rfl)) (hw _ (List.mem_of_getElem? (i := 79) rfl)) (by decide) (by decide)) q10a q10c (g := (mkF m 106 #[.val (.long p0), .second, .val (.long p1), .second, .val (.long p2), .second, .val (.long p3), .second, .val (.long p4), .second, .val (.int p5), .val (.int (0 : Int32)), .val (.ref b1), .val (.ref b3), .val (.ref b5), .val (.ref b8), .unset, .unset, .unset, .unset, .unset] [(.long p4), (.long p3), (.ref b8)])) rfl (by rw [hml]; rfl) (Steps.refl _) (argsL := [(.long p3), (.long p4)]) (rest := []) (lenOf own_pd9 rfl) rfl (by show 2 * 0 + _ ≤ _; exact Nat.le_of_eq rfl) (hb hby at_106) (fun _ _ => ⟨rfl, e9, (by decide : 4 + 1 ≤ _), (by decide : 11 + 4 ≤ _)⟩)
    dsimp only [Pt.U, Pt.locs, Pt.cells, Pt.slots] at X10 l10 y10 z10 st10 hQ10
    subst l10 y10 z10
    have X10 : Stand p l e room_1 s m _ below meth c T10 _ 5 15 := X10
    obtain ⟨h10, e10⟩ : ∃ z, T10.heap = z := ⟨_, rfl⟩
    rw [e10] at hQ10
    obtain ⟨b10, rfl, Nq10, Kc10, sz_b10, G10x0, G10x1, G10x2, G10x3, G10x4⟩ := hQ10
    have N10 := Fr.app N9 Nq10
    have ne_ed_b10 : ed ≠ b10 := Nat.ne_of_lt (Nat.lt_of_lt_of_le (A_ed.ext OLD_9.2).lt sz_b10)
    have ne_b1_b10 : b1 ≠ b10 := Nat.ne_of_lt (Nat.lt_of_lt_of_le A1_9.lt sz_b10)
    have ne_b3_b10 : b3 ≠ b10 := Nat.ne_of_lt (Nat.lt_of_lt_of_le A3_9.lt sz_b10)
    have ne_b5_b10 : b5 ≠ b10 := Nat.ne_of_lt (Nat.lt_of_lt_of_le A5_9.lt sz_b10)
    have ne_b8_b10 : b8 ≠ b10 := Nat.ne_of_lt (Nat.lt_of_lt_of_le A8_9.lt sz_b10)
    have g_b10 : n0 ≤ b10 := Nat.le_trans Zn9 sz_b10
    have OLD_10 : Old Z n0 h10 := OLD_9.keep Kc10 all0
    have A1_10 : Exa Z h10 b1 "com/example/rallypoint/rallypoint/protocol/MultiRequest$Op" := A1_9.keep Kc10
    have G2x0_10 : Fld Z h10 b1 "com/example/rallypoint/rallypoint/protocol/MultiRequest$Op" "op" "Lcom/example/rallypoint/rallypoint/protocol/OpCode;" .null := G2x0_9.keep Kc10 nin0
    have G2x1_10 : Fld Z h10 b1 "com/example/rallypoint/rallypoint/protocol/MultiRequest$Op" "body" "Lcom/example/rallypoint/rallypoint/protocol/RequestBody;" .null := G2x1_9.keep Kc10 nin0
    have A3_10 : Exa Z h10 b3 "com/example/rallypoint/rallypoint/protocol/MultiRequest$Op" := A3_9.keep Kc10
    have G4x0_10 : Fld Z h10 b3 "com/example/rallypoint/rallypoint/protocol/MultiRequest$Op" "op" "Lcom/example/rallypoint/rallypoint/protocol/OpCode;" .null := G4x0_9.keep Kc10 nin0
    have G4x1_10 : Fld Z h10 b3 "com/example/rallypoint/rallypoint/protocol/MultiRequest$Op" "body" "Lcom/example/rallypoint/rallypoint/protocol/RequestBody;" .null := G4x1_9.keep Kc10 nin0
    have A5_10 : Exa Z h10 b5 "java/util/ArrayList" := A5_9.keep Kc10
    have G6x0_10 : Fld Z h10 b5 "java/util/AbstractList" "modCount" "I" (.int (0 : Int32)) := G6x0_9.keep Kc10 nin0
    have G6x1_10 : Fld Z h10 b5 "java/util/ArrayList" "elementData" "[Ljava/lang/Object;" (.ref ed) := G6x1_9.keep Kc10 nin0
    have G6x2_10 : Fld Z h10 b5 "java/util/ArrayList" "size" "I" (.int (0 : Int32)) := G6x2_9.keep Kc10 nin0
    have A8_10 : Exa Z h10 b8 "com/example/rallypoint/rallypoint/server/LogEntry$TreeChanged" := A8_9.keep Kc10
    have G9x0_10 : Fld Z h10 b8 "com/example/rallypoint/rallypoint/server/LogEntry$TreeChanged" "zxid" "J" (.long p0) := G9x0.keep Kc10 nin0
    have G9x1_10 : Fld Z h10 b8 "com/example/rallypoint/rallypoint/server/LogEntry$TreeChanged" "time" "J" (.long p1) := G9x1.keep Kc10 nin0
    have G9x2_10 : Fld Z h10 b8 "com/example/rallypoint/rallypoint/server/LogEntry$TreeChanged" "session" "J" (.long p2) := G9x2.keep Kc10 nin0
    have G9x3_10 : Fld Z h10 b8 "com/example/rallypoint/rallypoint/server/LogEntry$TreeChanged" "ops" "Ljava/util/List;" (.ref b5) := G9x3.keep Kc10 nin0
    have Zn10 : n0 ≤ h10.size := Nat.le_trans Zn9 Kc10.1
    refine OGo.st (T' := T10) (g' := (mkF m 109 #[.val (.long p0), .second, .val (.long p1), .second, .val (.long p2), .second, .val (.long p3), .second, .val (.long p4), .second, .val (.int p5), .val (.int (0 : Int32)), .val (.ref b1), .val (.ref b3), .val (.ref b5), .val (.ref b8), .unset, .unset, .unset, .unset, .unset] [(.ref b10)])) (fun _ k => st10.trans k) ?_
    refine OGo.st (T' := T10) (g' := (mkF m 113 #[.val (.long p0), .second, .val (.long p1), .second, .val (.long p2), .second, .val (.long p3), .second, .val (.long p4), .second, .val (.int p5), .val (.int (0 : Int32)), .val (.ref b1), .val (.ref b3), .val (.ref b5), .val (.ref b8), .val (.ref b10), .unset, .unset, .unset, .unset] [(.ref b10)])) (fun _ k => (XS.astore X10.here hx rfl (hb hby at_109) rfl rfl (l' := #[.val (.long p0), .second, .val (.long p1), .second, .val (.long p2), .second, .val (.long p3), .second, .val (.long p4), .second, .val (.int p5), .val (.int (0 : Int32)), .val (.ref b1), .val (.ref b3), .val (.ref b5), .val (.ref b8), .val (.ref b10), .unset, .unset, .unset, .unset]) rfl (XS.aload X10.here hx rfl (hb hby at_111) rfl rfl k))) ?_
    obtain ⟨cq11, kq11, q11a, q11b, q11c⟩ := isOf hZ e10 G10x0
    obtain ⟨_, _, ⟨T11, L11, k11, n11⟩, -, X11, ⟨Lc11, hQ11, l11, y11, z11⟩, st11⟩ := X10.virtualBack hx (y := (⟨"com/example/rallypoint/rallypoint/server/LogEntry$TreeChanged", "ops", "()Ljava/util/List;"⟩ : MethodName)) (z := (⟨"com/example/rallypoint/rallypoint/server/LogEntry$TreeChanged", "ops", "()Ljava/util/List;"⟩ : MethodName)) hown (mvT hZ (hw _ (List.mem_of_getElem? (i := 99) rfl))) (mvT hZ (hw _ (List.mem_of_getElem? (i := 100) rfl))) (notFace_of_selects (args := #[]) (mvT hZ (hw _ (List.mem_of_getElem? (i := 102) rfl)))) (mvT hZ (hw _ (List.mem_of_getElem? (i := 102) rfl))) (mvT hZ (hw _ (List.mem_of_getElem? (i := 101) rfl))) (by decide) (backOf (W := 0) (rmT_ops l Z a0 hw [] (b10) (b5) h10 n0 Zn10 (G10x4)) hZ (hw _ (List.mem_of_getElem? (i := 103) rfl)) (hw _ (List.mem_of_getElem? (i := 79) rfl)) (by decide) (by decide)) q11a q11c (g := (mkF m 113 #[.val (.long p0), .second, .val (.long p1), .second, .val (.long p2), .second, .val (.long p3), .second, .val (.long p4), .second, .val (.int p5), .val (.int (0 : Int32)), .val (.ref b1), .val (.ref b3), .val (.ref b5), .val (.ref b8), .val (.ref b10), .unset, .unset, .unset, .unset] [(.ref b10)])) rfl (by rw [hml]; rfl) (Steps.refl _) (argsL := []) (rest := []) (lenOf own_pd2 rfl) rfl (by show 2 * 0 + _ ≤ _; exact Nat.le_of_eq rfl) (hb hby at_113) (fun _ _ => ⟨rfl, e10, (by decide : 5 + 0 ≤ _), (by decide : 15 + 0 ≤ _)⟩)
    dsimp only [Pt.U, Pt.locs, Pt.cells, Pt.slots] at X11 l11 y11 z11 st11 hQ11
    subst l11 y11 z11
    have X11 : Stand p l e room_1 s m _ below meth c T11 _ 5 15 := X11
    obtain ⟨rfl, Nq11, e11⟩ := hQ11
    have N11 := Fr.app N10 Nq11
    refine OGo.st (T' := T11) (g' := (mkF m 116 #[.val (.long p0), .second, .val (.long p1), .second, .val (.long p2), .second, .val (.long p3), .second, .val (.long p4), .second, .val (.int p5), .val (.int (0 : Int32)), .val (.ref b1), .val (.ref b3), .val (.ref b5), .val (.ref b8), .val (.ref b10), .unset, .unset, .unset, .unset] [(.ref b5)])) (fun _ k => st11.trans k) ?_
    refine OGo.st (T' := T11) (g' := (mkF m 120 #[.val (.long p0), .second, .val (.long p1), .second, .val (.long p2), .second, .val (.long p3), .second, .val (.long p4), .second, .val (.int p5), .val (.int (0 : Int32)), .val (.ref b1), .val (.ref b3), .val (.ref b5), .val (.ref b8), .val (.ref b10), .val (.ref b5), .unset, .unset, .unset] [(.ref b10)])) (fun _ k => (XS.astore X11.here hx rfl (hb hby at_116) rfl rfl (l' := #[.val (.long p0), .second, .val (.long p1), .second, .val (.long p2), .second, .val (.long p3), .second, .val (.long p4), .second, .val (.int p5), .val (.int (0 : Int32)), .val (.ref b1), .val (.ref b3), .val (.ref b5), .val (.ref b8), .val (.ref b10), .val (.ref b5), .unset, .unset, .unset]) rfl (XS.aload X11.here hx rfl (hb hby at_118) rfl rfl k))) ?_
    obtain ⟨cq12, kq12, q12a, q12b, q12c⟩ := isOf hZ e11 G10x0
    obtain ⟨_, _, ⟨T12, L12, k12, n12⟩, -, X12, ⟨Lc12, hQ12, l12, y12, z12⟩, st12⟩ := X11.virtualBack hx (y := (⟨"com/example/rallypoint/rallypoint/server/LogEntry$TreeChanged", "zxid", "()J"⟩ : MethodName)) (z := (⟨"com/example/rallypoint/rallypoint/server/LogEntry$TreeChanged", "zxid", "()J"⟩ : MethodName)) hown (mvT hZ (hw _ (List.mem_of_getElem? (i := 104) rfl))) (mvT hZ (hw _ (List.mem_of_getElem? (i := 105) rfl))) (notFace_of_selects (args := #[]) (mvT hZ (hw _ (List.mem_of_getElem? (i := 107) rfl)))) (mvT hZ (hw _ (List.mem_of_getElem? (i := 107) rfl))) (mvT hZ (hw _ (List.mem_of_getElem? (i := 106) rfl))) (by decide) (backOf (W := 0) (rmT_zxid l Z a0 hw [] (b10) (p3) h10 n0 Zn10 (G10x1)) hZ (hw _ (List.mem_of_getElem? (i := 108) rfl)) (hw _ (List.mem_of_getElem? (i := 79) rfl)) (by decide) (by decide)) q12a q12c (g := (mkF m 120 #[.val (.long p0), .second, .val (.long p1), .second, .val (.long p2), .second, .val (.long p3), .second, .val (.long p4), .second, .val (.int p5), .val (.int (0 : Int32)), .val (.ref b1), .val (.ref b3), .val (.ref b5), .val (.ref b8), .val (.ref b10), .val (.ref b5), .unset, .unset, .unset] [(.ref b10)])) rfl (by rw [hml]; rfl) (Steps.refl _) (argsL := []) (rest := []) (lenOf own_pd1 rfl) rfl (by show 2 * 0 + _ ≤ _; exact Nat.le_of_eq rfl) (hb hby at_120) (fun _ _ => ⟨rfl, e11, (by decide : 5 + 0 ≤ _), (by decide : 15 + 0 ≤ _)⟩)
    dsimp only [Pt.U, Pt.locs, Pt.cells, Pt.slots] at X12 l12 y12 z12 st12 hQ12
    subst l12 y12 z12
    have X12 : Stand p l e room_1 s m _ below meth c T12 _ 5 15 := X12
    obtain ⟨rfl, Nq12, e12⟩ := hQ12
    have N12 := Fr.app N11 Nq12
    refine OGo.st (T' := T12) (g' := (mkF m 123 #[.val (.long p0), .second, .val (.long p1), .second, .val (.long p2), .second, .val (.long p3), .second, .val (.long p4), .second, .val (.int p5), .val (.int (0 : Int32)), .val (.ref b1), .val (.ref b3), .val (.ref b5), .val (.ref b8), .val (.ref b10), .val (.ref b5), .unset, .unset, .unset] [(.long p3)])) (fun _ k => st12.trans k) ?_
    refine OGo.st (T' := T12) (g' := (mkF m 131 #[.val (.long p0), .second, .val (.long p1), .second, .val (.long p2), .second, .val (.long p3), .second, .val (.long p4), .second, .val (.int p5), .val (.int (0 : Int32)), .val (.ref b1), .val (.ref b3), .val (.ref b5), .val (.ref b8), .val (.ref b10), .val (.ref b5), .unset, .unset, .unset] [(.ref b10)])) (fun _ k => (XS.lload X12.here hx rfl (hb hby at_123) rfl (XS.lcmp X12.here hx rfl (hb hby at_125) rfl (XS.ifNo X12.here hx rfl (hb hby at_126) rfl ((if0 _ _).trans (teq ((lw_eq p3 p3).mpr (rfl : p3 = p3))).2) (XS.aload X12.here hx rfl (hb hby at_129) rfl rfl k))))) ?_
    obtain ⟨cq13, kq13, q13a, q13b, q13c⟩ := isOf hZ e12 G10x0
    obtain ⟨_, _, ⟨T13, L13, k13, n13⟩, -, X13, ⟨Lc13, hQ13, l13, y13, z13⟩, st13⟩ := X12.virtualBack hx (y := (⟨"com/example/rallypoint/rallypoint/server/LogEntry$TreeChanged", "time", "()J"⟩ : MethodName)) (z := (⟨"com/example/rallypoint/rallypoint/server/LogEntry$TreeChanged", "time", "()J"⟩ : MethodName)) hown (mvT hZ (hw _ (List.mem_of_getElem? (i := 109) rfl))) (mvT hZ (hw _ (List.mem_of_getElem? (i := 110) rfl))) (notFace_of_selects (args := #[]) (mvT hZ (hw _ (List.mem_of_getElem? (i := 112) rfl)))) (mvT hZ (hw _ (List.mem_of_getElem? (i := 112) rfl))) (mvT hZ (hw _ (List.mem_of_getElem? (i := 111) rfl))) (by decide) (backOf (W := 0) (rmT_time l Z a0 hw [] (b10) (p4) h10 n0 Zn10 (G10x2)) hZ (hw _ (List.mem_of_getElem? (i := 113) rfl)) (hw _ (List.mem_of_getElem? (i := 79) rfl)) (by decide) (by decide)) q13a q13c (g := (mkF m 131 #[.val (.long p0), .second, .val (.long p1), .second, .val (.long p2), .second, .val (.long p3), .second, .val (.long p4), .second, .val (.int p5), .val (.int (0 : Int32)), .val (.ref b1), .val (.ref b3), .val (.ref b5), .val (.ref b8), .val (.ref b10), .val (.ref b5), .unset, .unset, .unset] [(.ref b10)])) rfl (by rw [hml]; rfl) (Steps.refl _) (argsL := []) (rest := []) (lenOf own_pd1 rfl) rfl (by show 2 * 0 + _ ≤ _; exact Nat.le_of_eq rfl) (hb hby at_131) (fun _ _ => ⟨rfl, e12, (by decide : 5 + 0 ≤ _), (by decide : 15 + 0 ≤ _)⟩)
    dsimp only [Pt.U, Pt.locs, Pt.cells, Pt.slots] at X13 l13 y13 z13 st13 hQ13
    subst l13 y13 z13
    have X13 : Stand p l e room_1 s m _ below meth c T13 _ 5 15 := X13
    obtain ⟨rfl, Nq13, e13⟩ := hQ13
    have N13 := Fr.app N12 Nq13
    refine OGo.st (T' := T13) (g' := (mkF m 134 #[.val (.long p0), .second, .val (.long p1), .second, .val (.long p2), .second, .val (.long p3), .second, .val (.long p4), .second, .val (.int p5), .val (.int (0 : Int32)), .val (.ref b1), .val (.ref b3), .val (.ref b5), .val (.ref b8), .val (.ref b10), .val (.ref b5), .unset, .unset, .unset] [(.long p4)])) (fun _ k => st13.trans k) ?_
    refine OGo.st (T' := T13) (g' := (mkF m 142 #[.val (.long p0), .second, .val (.long p1), .second, .val (.long p2), .second, .val (.long p3), .second, .val (.long p4), .second, .val (.int p5), .val (.int (0 : Int32)), .val (.ref b1), .val (.ref b3), .val (.ref b5), .val (.ref b8), .val (.ref b10), .val (.ref b5), .unset, .unset, .unset] [(.ref b10)])) (fun _ k => (XS.lload X13.here hx rfl (hb hby at_134) rfl (XS.lcmp X13.here hx rfl (hb hby at_136) rfl (XS.ifNo X13.here hx rfl (hb hby at_137) rfl ((if0 _ _).trans (teq ((lw_eq p4 p4).mpr (rfl : p4 = p4))).2) (XS.aload X13.here hx rfl (hb hby at_140) rfl rfl k))))) ?_
    obtain ⟨cq14, kq14, q14a, q14b, q14c⟩ := isOf hZ e13 G10x0
    obtain ⟨_, _, ⟨T14, L14, k14, n14⟩, -, X14, ⟨Lc14, hQ14, l14, y14, z14⟩, st14⟩ := X13.virtualBack hx (y := (⟨"com/example/rallypoint/rallypoint/server/LogEntry$TreeChanged", "session", "()J"⟩ : MethodName)) (z := (⟨"com/example/rallypoint/rallypoint/server/LogEntry$TreeChanged", "session", "()J"⟩ : MethodName)) hown (mvT hZ (hw _ (List.mem_of_getElem? (i := 114) rfl))) (mvT hZ (hw _ (List.mem_of_getElem? (i := 115) rfl))) (notFace_of_selects (args := #[]) (mvT hZ (hw _ (List.mem_of_getElem? (i := 117) rfl)))) (mvT hZ (hw _ (List.mem_of_getElem? (i := 117) rfl))) (mvT hZ (hw _ (List.mem_of_getElem? (i := 116) rfl))) (by decide) (backOf (W := 0) (rmT_session l Z a0 hw [] (b10) (p2) h10 n0 Zn10 (G10x3)) hZ (hw _ (List.mem_of_getElem? (i := 118) rfl)) (hw _ (List.mem_of_getElem? (i := 79) rfl)) (by decide) (by decide)) q14a q14c (g := (mkF m 142 #[.val (.long p0), .second, .val (.long p1), .second, .val (.long p2), .second, .val (.long p3), .second, .val (.long p4), .second, .val (.int p5), .val (.int (0 : Int32)), .val (.ref b1), .val (.ref b3), .val (.ref b5), .val (.ref b8), .val (.ref b10), .val (.ref b5), .unset, .unset, .unset] [(.ref b10)])) rfl (by rw [hml]; rfl) (Steps.refl _) (argsL := []) (rest := []) (lenOf own_pd1 rfl) rfl (by show 2 * 0 + _ ≤ _; exact Nat.le_of_eq rfl) (hb hby at_142) (fun _ _ => ⟨rfl, e13, (by decide : 5 + 0 ≤ _), (by decide : 15 + 0 ≤ _)⟩)
    dsimp only [Pt.U, Pt.locs, Pt.cells, Pt.slots] at X14 l14 y14 z14 st14 hQ14
    subst l14 y14 z14
    have X14 : Stand p l e room_1 s m _ below meth c T14 _ 5 15 := X14
    obtain ⟨rfl, Nq14, e14⟩ := hQ14
    have N14 := Fr.app N13 Nq14
    refine OGo.st (T' := T14) (g' := (mkF m 145 #[.val (.long p0), .second, .val (.long p1), .second, .val (.long p2), .second, .val (.long p3), .second, .val (.long p4), .second, .val (.int p5), .val (.int (0 : Int32)), .val (.ref b1), .val (.ref b3), .val (.ref b5), .val (.ref b8), .val (.ref b10), .val (.ref b5), .unset, .unset, .unset] [(.long p2)])) (fun _ k => st14.trans k) ?_
    refine OGo.st (T' := T14) (g' := (mkF m 158 #[.val (.long p0), .second, .val (.long p1), .second, .val (.long p2), .second, .val (.long p3), .second, .val (.long p4), .second, .val (.int p5), .val (.int (0 : Int32)), .val (.ref b1), .val (.ref b3), .val (.ref b5), .val (.ref b8), .val (.ref b10), .val (.ref b5), .val (.int (1 : Int32)), .unset, .unset] [])) (fun _ k => (XS.lload X14.here hx rfl (hb hby at_145) rfl (XS.lcmp X14.here hx rfl (hb hby at_147) rfl (XS.ifNo X14.here hx rfl (hb hby at_148) rfl ((if0 _ _).trans (teq ((lw_eq p2 p2).mpr (rfl : p2 = p2))).2) (XS.iconst X14.here hx rfl (hb hby at_151) (XS.goto X14.here hx rfl (pc0 := 152) (pc' := 156) rfl (hb hby at_152) (by decide) (by decide) (XS.istore X14.here hx rfl (hb hby at_156) rfl (l' := #[.val (.long p0), .second, .val (.long p1), .second, .val (.long p2), .second, .val (.long p3), .second, .val (.long p4), .second, .val (.int p5), .val (.int (0 : Int32)), .val (.ref b1), .val (.ref b3), .val (.ref b5), .val (.ref b8), .val (.ref b10), .val (.ref b5), .val (.int (1 : Int32)), .unset, .unset]) rfl k))))))) ?_
    refine OGo.st (T' := T14) (g' := (mkF m 160 #[.val (.long p0), .second, .val (.long p1), .second, .val (.long p2), .second, .val (.long p3), .second, .val (.long p4), .second, .val (.int p5), .val (.int (0 : Int32)), .val (.ref b1), .val (.ref b3), .val (.ref b5), .val (.ref b8), .val (.ref b10), .val (.ref b5), .val (.int (1 : Int32)), .unset, .unset] [(.ref b5)])) (fun _ k => (XS.aload X14.here hx rfl (hb hby at_158) rfl rfl k)) ?_
    obtain ⟨cq15, kq15, q15a, q15b, q15c⟩ := isOf hZ e14 A5_10
    obtain ⟨_, _, ⟨T15, L15, k15, n15⟩, -, X15, ⟨Lc15, hQ15, l15, y15, z15⟩, st15⟩ := X14.interfaceBack hx (xi := (⟨"java/util/List", "size", "()I"⟩ : MethodName)) (y := (⟨"java/util/ArrayList", "size", "()I"⟩ : MethodName)) hown (mvT hZ (hw _ (List.mem_of_getElem? (i := 119) rfl))) (mvT hZ (hw _ (List.mem_of_getElem? (i := 120) rfl))) (mvT hZ (hw _ (List.mem_of_getElem? (i := 121) rfl))) (mvT hZ (hw _ (List.mem_of_getElem? (i := 122) rfl))) (mvT hZ (hw _ (List.mem_of_getElem? (i := 123) rfl))) (mvT hZ (hw _ (List.mem_of_getElem? (i := 124) rfl))) (mvT hZ (hw _ (List.mem_of_getElem? (i := 125) rfl))) (mvT hZ (hw _ (List.mem_of_getElem? (i := 49) rfl))) (by decide) (backOf (W := 0) (rmSz l Z a0 hw [] (b5) ((0 : Int32)) h10 n0 Zn10 (G6x2_10)) hZ (hw _ (List.mem_of_getElem? (i := 126) rfl)) (hw _ (List.mem_of_getElem? (i := 20) rfl)) (by decide) (by decide)) q15a q15b q15c (g := (mkF m 160 #[.val (.long p0), .second, .val (.long p1), .second, .val (.long p2), .second, .val (.long p3), .second, .val (.long p4), .second, .val (.int p5), .val (.int (0 : Int32)), .val (.ref b1), .val (.ref b3), .val (.ref b5), .val (.ref b8), .val (.ref b10), .val (.ref b5), .val (.int (1 : Int32)), .unset, .unset] [(.ref b5)])) rfl (by rw [hml]; rfl) (Steps.refl _) (argsL := []) (rest := []) (lenOf own_pd0 rfl) rfl (by show 2 * 0 + _ ≤ _; exact Nat.le_of_eq rfl) (hb hby at_160) (fun _ _ => ⟨rfl, e14, (by decide : 5 + 0 ≤ _), (by decide : 15 + 0 ≤ _)⟩)
    dsimp only [Pt.U, Pt.locs, Pt.cells, Pt.slots] at X15 l15 y15 z15 st15 hQ15
    subst l15 y15 z15
    have X15 : Stand p l e room_1 s m _ below meth c T15 _ 5 15 := X15
    obtain ⟨rfl, Nq15, e15⟩ := hQ15
    have N15 := Fr.app N14 Nq15
    refine OGo.st (T' := T15) (g' := (mkF m 165 #[.val (.long p0), .second, .val (.long p1), .second, .val (.long p2), .second, .val (.long p3), .second, .val (.long p4), .second, .val (.int p5), .val (.int (0 : Int32)), .val (.ref b1), .val (.ref b3), .val (.ref b5), .val (.ref b8), .val (.ref b10), .val (.ref b5), .val (.int (1 : Int32)), .unset, .unset] [(.int (0 : Int32))])) (fun _ k => st15.trans k) ?_
    refine OGo.st (T' := T15) (g' := (mkF m 191 #[.val (.long p0), .second, .val (.long p1), .second, .val (.long p2), .second, .val (.long p3), .second, .val (.long p4), .second, .val (.int p5), .val (.int (0 : Int32)), .val (.ref b1), .val (.ref b3), .val (.ref b5), .val (.ref b8), .val (.ref b10), .val (.ref b5), .val (.int (1 : Int32)), .unset, .unset] [(.int (0 : Int32))])) (fun _ k => (XS.iload X15.here hx rfl (hb hby at_165) rfl (XS.icmpNo X15.here hx rfl (hb hby at_167) rfl (teq (by decide : (0 : Int32) = (0 : Int32))).2 (XS.iload X15.here hx rfl (hb hby at_170) rfl (XS.iconst X15.here hx rfl (hb hby at_172) (XS.icmpYes X15.here hx rfl (pc0 := 173) (pc' := 189) rfl (hb hby at_173) rfl (tlt (by decide : (0 : Int32) < (1 : Int32))).1 (by decide) (by decide) (XS.iload X15.here hx rfl (hb hby at_189) rfl k))))))) ?_
    refine OGo.st (T' := T15) (g' := (mkF m 228 #[.val (.long p0), .second, .val (.long p1), .second, .val (.long p2), .second, .val (.long p3), .second, .val (.long p4), .second, .val (.int p5), .val (.int (0 : Int32)), .val (.ref b1), .val (.ref b3), .val (.ref b5), .val (.ref b8), .val (.ref b10), .val (.ref b5), .val (.int (1 : Int32)), .unset, .unset] [(.int (1 : Int32))])) (fun _ k => (XS.iconst X15.here hx rfl (hb hby at_191) (XS.icmpYes X15.here hx rfl (pc0 := 192) (pc' := 208) rfl (hb hby at_192) rfl (tlt (by decide : (0 : Int32) < (2 : Int32))).1 (by decide) (by decide) (XS.iload X15.here hx rfl (hb hby at_208) rfl (XS.iconst X15.here hx rfl (hb hby at_210) (XS.icmpYes X15.here hx rfl (pc0 := 211) (pc' := 227) rfl (hb hby at_211) rfl (tlt (by decide : (0 : Int32) < (3 : Int32))).1 (by decide) (by decide) (XS.iconst X15.here hx rfl (hb hby at_227) k))))))) ?_
    refine OGo.st (T' := T15) (g' := (mkF m 236 #[.val (.long p0), .second, .val (.long p1), .second, .val (.long p2), .second, .val (.long p3), .second, .val (.long p4), .second, .val (.int p5), .val (.int (0 : Int32)), .val (.ref b1), .val (.ref b3), .val (.ref b5), .val (.ref b8), .val (.ref b10), .val (.ref b5), .val (.int (1 : Int32)), .val (.int (1 : Int32)), .unset] [(.ref b8)])) (fun _ k => (XS.goto X15.here hx rfl (pc0 := 228) (pc' := 232) rfl (hb hby at_228) (by decide) (by decide) (XS.istore X15.here hx rfl (hb hby at_232) rfl (l' := #[.val (.long p0), .second, .val (.long p1), .second, .val (.long p2), .second, .val (.long p3), .second, .val (.long p4), .second, .val (.int p5), .val (.int (0 : Int32)), .val (.ref b1), .val (.ref b3), .val (.ref b5), .val (.ref b8), .val (.ref b10), .val (.ref b5), .val (.int (1 : Int32)), .val (.int (1 : Int32)), .unset]) rfl (XS.aload X15.here hx rfl (hb hby at_234) rfl rfl k)))) ?_
    obtain ⟨cq16, kq16, q16a, q16b, q16c⟩ := isOf hZ e15 A8_10
    obtain ⟨_, _, ⟨T16, L16, k16, n16⟩, -, X16, ⟨Lc16, hQ16, l16, y16, z16⟩, st16⟩ := X15.virtualBack hx (y := (⟨"com/example/rallypoint/rallypoint/server/LogEntry$TreeChanged", "zxid", "()J"⟩ : MethodName)) (z := (⟨"com/example/rallypoint/rallypoint/server/LogEntry$TreeChanged", "zxid", "()J"⟩ : MethodName)) hown (mvT hZ (hw _ (List.mem_of_getElem? (i := 104) rfl))) (mvT hZ (hw _ (List.mem_of_getElem? (i := 105) rfl))) (notFace_of_selects (args := #[]) (mvT hZ (hw _ (List.mem_of_getElem? (i := 107) rfl)))) (mvT hZ (hw _ (List.mem_of_getElem? (i := 107) rfl))) (mvT hZ (hw _ (List.mem_of_getElem? (i := 106) rfl))) (by decide) (backOf (W := 0) (rmT_zxid l Z a0 hw [] (b8) (p0) h10 n0 Zn10 (G9x0_10)) hZ (hw _ (List.mem_of_getElem? (i := 108) rfl)) (hw _ (List.mem_of_getElem? (i := 79) rfl)) (by decide) (by decide)) q16a q16c (g := (mkF m 236 #[.val (.long p0), .second, .val (.long p1), .second, .val (.long p2), .second, .val (.long p3), .second, .val (.long p4), .second, .val (.int p5), .val (.int (0 : Int32)), .val (.ref b1), .val (.ref b3), .val (.ref b5), .val (.ref b8), .val (.ref b10), .val (.ref b5), .val (.int (1 : Int32)), .val (.int (1 : Int32)), .unset] [(.ref b8)])) rfl (by rw [hml]; rfl) (Steps.refl _) (argsL := []) (rest := []) (lenOf own_pd1 rfl) rfl (by show 2 * 0 + _ ≤ _; exact Nat.le_of_eq rfl) (hb hby at_236) (fun _ _ => ⟨rfl, e15, (by decide : 5 + 0 ≤ _), (by decide : 15 + 0 ≤ _)⟩)
    dsimp only [Pt.U, Pt.locs, Pt.cells, Pt.slots] at X16 l16 y16 z16 st16 hQ16
    subst l16 y16 z16
    have X16 : Stand p l e room_1 s m _ below meth c T16 _ 5 15 := X16
    obtain ⟨rfl, Nq16, e16⟩ := hQ16
    have N16 := Fr.app N15 Nq16
    refine OGo.st (T' := T16) (g' := (mkF m 239 #[.val (.long p0), .second, .val (.long p1), .second, .val (.long p2), .second, .val (.long p3), .second, .val (.long p4), .second, .val (.int p5), .val (.int (0 : Int32)), .val (.ref b1), .val (.ref b3), .val (.ref b5), .val (.ref b8), .val (.ref b10), .val (.ref b5), .val (.int (1 : Int32)), .val (.int (1 : Int32)), .unset] [(.long p0)])) (fun _ k => st16.trans k) ?_
    refine OGo.st (T' := T16) (g' := (mkF m 246 #[.val (.long p0), .second, .val (.long p1), .second, .val (.long p2), .second, .val (.long p3), .second, .val (.long p4), .second, .val (.int p5), .val (.int (0 : Int32)), .val (.ref b1), .val (.ref b3), .val (.ref b5), .val (.ref b8), .val (.ref b10), .val (.ref b5), .val (.int (1 : Int32)), .val (.int (1 : Int32)), .unset] [(.ref b8)])) (fun _ k => (XS.lloadN X16.here hx rfl (hb hby at_239) rfl (XS.lcmp X16.here hx rfl (hb hby at_240) rfl (XS.ifNo X16.here hx rfl (hb hby at_241) rfl ((if0 _ _).trans (teq ((lw_eq p0 p0).mpr (rfl : p0 = p0))).2) (XS.aload X16.here hx rfl (hb hby at_244) rfl rfl k))))) ?_
    obtain ⟨cq17, kq17, q17a, q17b, q17c⟩ := isOf hZ e16 A8_10
    obtain ⟨_, _, ⟨T17, L17, k17, n17⟩, -, X17, ⟨Lc17, hQ17, l17, y17, z17⟩, st17⟩ := X16.virtualBack hx (y := (⟨"com/example/rallypoint/rallypoint/server/LogEntry$TreeChanged", "time", "()J"⟩ : MethodName)) (z := (⟨"com/example/rallypoint/rallypoint/server/LogEntry$TreeChanged", "time", "()J"⟩ : MethodName)) hown (mvT hZ (hw _ (List.mem_of_getElem? (i := 109) rfl))) (mvT hZ (hw _ (List.mem_of_getElem? (i := 110) rfl))) (notFace_of_selects (args := #[]) (mvT hZ (hw _ (List.mem_of_getElem? (i := 112) rfl)))) (mvT hZ (hw _ (List.mem_of_getElem? (i := 112) rfl))) (mvT hZ (hw _ (List.mem_of_getElem? (i := 111) rfl))) (by decide) (backOf (W := 0) (rmT_time l Z a0 hw [] (b8) (p1) h10 n0 Zn10 (G9x1_10)) hZ (hw _ (List.mem_of_getElem? (i := 113) rfl)) (hw _ (List.mem_of_getElem? (i := 79) rfl)) (by decide) (by decide)) q17a q17c (g := (mkF m 246 #[.val (.long p0), .second, .val (.long p1), .second, .val (.long p2), .second, .val (.long p3), .second, .val (.long p4), .second, .val (.int p5), .val (.int (0 : Int32)), .val (.ref b1), .val (.ref b3), .val (.ref b5), .val (.ref b8), .val (.ref b10), .val (.ref b5), .val (.int (1 : Int32)), .val (.int (1 : Int32)), .unset] [(.ref b8)])) rfl (by rw [hml]; rfl) (Steps.refl _) (argsL := []) (rest := []) (lenOf own_pd1 rfl) rfl (by show 2 * 0 + _ ≤ _; exact Nat.le_of_eq rfl) (hb hby at_246) (fun _ _ => ⟨rfl, e16, (by decide : 5 + 0 ≤ _), (by decide : 15 + 0 ≤ _)⟩)
    dsimp only [Pt.U, Pt.locs, Pt.cells, Pt.slots] at X17 l17 y17 z17 st17 hQ17
    subst l17 y17 z17
    have X17 : Stand p l e room_1 s m _ below meth c T17 _ 5 15 := X17
    obtain ⟨rfl, Nq17, e17⟩ := hQ17
    have N17 := Fr.app N16 Nq17
    refine OGo.st (T' := T17) (g' := (mkF m 249 #[.val (.long p0), .second, .val (.long p1), .second, .val (.long p2), .second, .val (.long p3), .second, .val (.long p4), .second, .val (.int p5), .val (.int (0 : Int32)), .val (.ref b1), .val (.ref b3), .val (.ref b5), .val (.ref b8), .val (.ref b10), .val (.ref b5), .val (.int (1 : Int32)), .val (.int (1 : Int32)), .unset] [(.long p1)])) (fun _ k => st17.trans k) ?_
    refine OGo.st (T' := T17) (g' := (mkF m 256 #[.val (.long p0), .second, .val (.long p1), .second, .val (.long p2), .second, .val (.long p3), .second, .val (.long p4), .second, .val (.int p5), .val (.int (0 : Int32)), .val (.ref b1), .val (.ref b3), .val (.ref b5), .val (.ref b8), .val (.ref b10), .val (.ref b5), .val (.int (1 : Int32)), .val (.int (1 : Int32)), .unset] [(.ref b8)])) (fun _ k => (XS.lloadN X17.here hx rfl (hb hby at_249) rfl (XS.lcmp X17.here hx rfl (hb hby at_250) rfl (XS.ifNo X17.here hx rfl (hb hby at_251) rfl ((if0 _ _).trans (teq ((lw_eq p1 p1).mpr (rfl : p1 = p1))).2) (XS.aload X17.here hx rfl (hb hby at_254) rfl rfl k))))) ?_
    obtain ⟨cq18, kq18, q18a, q18b, q18c⟩ := isOf hZ e17 A8_10
    obtain ⟨_, _, ⟨T18, L18, k18, n18⟩, -, X18, ⟨Lc18, hQ18, l18, y18, z18⟩, st18⟩ := X17.virtualBack hx (y := (⟨"com/example/rallypoint/rallypoint/server/LogEntry$TreeChanged", "session", "()J"⟩ : MethodName)) (z := (⟨"com/example/rallypoint/rallypoint/server/LogEntry$TreeChanged", "session", "()J"⟩ : MethodName)) hown (mvT hZ (hw _ (List.mem_of_getElem? (i := 114) rfl))) (mvT hZ (hw _ (List.mem_of_getElem? (i := 115) rfl))) (notFace_of_selects (args := #[]) (mvT hZ (hw _ (List.mem_of_getElem? (i := 117) rfl)))) (mvT hZ (hw _ (List.mem_of_getElem? (i := 117) rfl))) (mvT hZ (hw _ (List.mem_of_getElem? (i := 116) rfl))) (by decide) (backOf (W := 0) (rmT_session l Z a0 hw [] (b8) (p2) h10 n0 Zn10 (G9x2_10)) hZ (hw _ (List.mem_of_getElem? (i := 118) rfl)) (hw _ (List.mem_of_getElem? (i := 79) rfl)) (by decide) (by decide)) q18a q18c (g := (mkF m 256 #[.val (.long p0), .second, .val (.long p1), .second, .val (.long p2), .second, .val (.long p3), .second, .val (.long p4), .second, .val (.int p5), .val (.int (0 : Int32)), .val (.ref b1), .val (.ref b3), .val (.ref b5), .val (.ref b8), .val (.ref b10), .val (.ref b5), .val (.int (1 : Int32)), .val (.int (1 : Int32)), .unset] [(.ref b8)])) rfl (by rw [hml]; rfl) (Steps.refl _) (argsL := []) (rest := []) (lenOf own_pd1 rfl) rfl (by show 2 * 0 + _ ≤ _; exact Nat.le_of_eq rfl) (hb hby at_256) (fun _ _ => ⟨rfl, e17, (by decide : 5 + 0 ≤ _), (by decide : 15 + 0 ≤ _)⟩)
    dsimp only [Pt.U, Pt.locs, Pt.cells, Pt.slots] at X18 l18 y18 z18 st18 hQ18
    subst l18 y18 z18
    have X18 : Stand p l e room_1 s m _ below meth c T18 _ 5 15 := X18
    obtain ⟨rfl, Nq18, e18⟩ := hQ18
    have N18 := Fr.app N17 Nq18
    refine OGo.st (T' := T18) (g' := (mkF m 259 #[.val (.long p0), .second, .val (.long p1), .second, .val (.long p2), .second, .val (.long p3), .second, .val (.long p4), .second, .val (.int p5), .val (.int (0 : Int32)), .val (.ref b1), .val (.ref b3), .val (.ref b5), .val (.ref b8), .val (.ref b10), .val (.ref b5), .val (.int (1 : Int32)), .val (.int (1 : Int32)), .unset] [(.long p2)])) (fun _ k => st18.trans k) ?_
    refine OGo.st (T' := T18) (g' := (mkF m 267 #[.val (.long p0), .second, .val (.long p1), .second, .val (.long p2), .second, .val (.long p3), .second, .val (.long p4), .second, .val (.int p5), .val (.int (0 : Int32)), .val (.ref b1), .val (.ref b3), .val (.ref b5), .val (.ref b8), .val (.ref b10), .val (.ref b5), .val (.int (1 : Int32)), .val (.int (1 : Int32)), .unset] [(.ref b8)])) (fun _ k => (XS.lload X18.here hx rfl (hb hby at_259) rfl (XS.lcmp X18.here hx rfl (hb hby at_261) rfl (XS.ifNo X18.here hx rfl (hb hby at_262) rfl ((if0 _ _).trans (teq ((lw_eq p2 p2).mpr (rfl : p2 = p2))).2) (XS.aload X18.here hx rfl (hb hby at_265) rfl rfl k))))) ?_
    obtain ⟨cq19, kq19, q19a, q19b, q19c⟩ := isOf hZ e18 A8_10
    obtain ⟨_, _, ⟨T19, L19, k19, n19⟩, -, X19, ⟨Lc19, hQ19, l19, y19, z19⟩, st19⟩ := X18.virtualBack hx (y := (⟨"com/example/rallypoint/rallypoint/server/LogEntry$TreeChanged", "ops", "()Ljava/util/List;"⟩ : MethodName)) (z := (⟨"com/example/rallypoint/rallypoint/server/LogEntry$TreeChanged", "ops", "()Ljava/util/List;"⟩ : MethodName)) hown (mvT hZ (hw _ (List.mem_of_getElem? (i := 99) rfl))) (mvT hZ (hw _ (List.mem_of_getElem? (i := 100) rfl))) (notFace_of_selects (args := #[]) (mvT hZ (hw _ (List.mem_of_getElem? (i := 102) rfl)))) (mvT hZ (hw _ (List.mem_of_getElem? (i := 102) rfl))) (mvT hZ (hw _ (List.mem_of_getElem? (i := 101) rfl))) (by decide) (backOf (W := 0) (rmT_ops l Z a0 hw [] (b8) (b5) h10 n0 Zn10 (G9x3_10)) hZ (hw _ (List.mem_of_getElem? (i := 103) rfl)) (hw _ (List.mem_of_getElem? (i := 79) rfl)) (by decide) (by decide)) q19a q19c (g := (mkF m 267 #[.val (.long p0), .second, .val (.long p1), .second, .val (.long p2), .second, .val (.long p3), .second, .val (.long p4), .second, .val (.int p5), .val (.int (0 : Int32)), .val (.ref b1), .val (.ref b3), .val (.ref b5), .val (.ref b8), .val (.ref b10), .val (.ref b5), .val (.int (1 : Int32)), .val (.int (1 : Int32)), .unset] [(.ref b8)])) rfl (by rw [hml]; rfl) (Steps.refl _) (argsL := []) (rest := []) (lenOf own_pd2 rfl) rfl (by show 2 * 0 + _ ≤ _; exact Nat.le_of_eq rfl) (hb hby at_267) (fun _ _ => ⟨rfl, e18, (by decide : 5 + 0 ≤ _), (by decide : 15 + 0 ≤ _)⟩)
    dsimp only [Pt.U, Pt.locs, Pt.cells, Pt.slots] at X19 l19 y19 z19 st19 hQ19
    subst l19 y19 z19
    have X19 : Stand p l e room_1 s m _ below meth c T19 _ 5 15 := X19
    obtain ⟨rfl, Nq19, e19⟩ := hQ19
    have N19 := Fr.app N18 Nq19
    refine OGo.st (T' := T19) (g' := (mkF m 270 #[.val (.long p0), .second, .val (.long p1), .second, .val (.long p2), .second, .val (.long p3), .second, .val (.long p4), .second, .val (.int p5), .val (.int (0 : Int32)), .val (.ref b1), .val (.ref b3), .val (.ref b5), .val (.ref b8), .val (.ref b10), .val (.ref b5), .val (.int (1 : Int32)), .val (.int (1 : Int32)), .unset] [(.ref b5)])) (fun _ k => st19.trans k) ?_
    refine OGo.st (T' := T19) (g' := (mkF m 272 #[.val (.long p0), .second, .val (.long p1), .second, .val (.long p2), .second, .val (.long p3), .second, .val (.long p4), .second, .val (.int p5), .val (.int (0 : Int32)), .val (.ref b1), .val (.ref b3), .val (.ref b5), .val (.ref b8), .val (.ref b10), .val (.ref b5), .val (.int (1 : Int32)), .val (.int (1 : Int32)), .unset] [(.ref b5), (.ref b5)])) (fun _ k => (XS.aload X19.here hx rfl (hb hby at_270) rfl rfl k)) ?_
    refine OGo.st (T' := T19) (g' := (mkF m 277 #[.val (.long p0), .second, .val (.long p1), .second, .val (.long p2), .second, .val (.long p3), .second, .val (.long p4), .second, .val (.int p5), .val (.int (0 : Int32)), .val (.ref b1), .val (.ref b3), .val (.ref b5), .val (.ref b8), .val (.ref b10), .val (.ref b5), .val (.int (1 : Int32)), .val (.int (1 : Int32)), .unset] [(.ref b5)])) (fun _ k => (Jvm.RoadKit.acmp (g := (mkF m 272 #[.val (.long p0), .second, .val (.long p1), .second, .val (.long p2), .second, .val (.long p3), .second, .val (.long p4), .second, .val (.int p5), .val (.int (0 : Int32)), .val (.ref b1), .val (.ref b3), .val (.ref b5), .val (.ref b8), .val (.ref b10), .val (.ref b5), .val (.int (1 : Int32)), .val (.int (1 : Int32)), .unset] [(.ref b5), (.ref b5)])) X19 hx rfl rfl rfl (pc0 := 272) (pc' := 275) (same := true) rfl (hb hby at_272) rfl (decide_eq_true rfl) (by decide) (by decide) (XS.aload X19.here hx rfl (hb hby at_275) rfl rfl k))) ?_
    obtain ⟨cq20, kq20, q20a, q20b, q20c⟩ := isOf hZ e19 A5_10
    obtain ⟨_, _, ⟨T20, L20, k20, n20⟩, -, X20, ⟨Lc20, hQ20, l20, y20, z20⟩, st20⟩ := X19.interfaceBack hx (xi := (⟨"java/util/List", "size", "()I"⟩ : MethodName)) (y := (⟨"java/util/ArrayList", "size", "()I"⟩ : MethodName)) hown (mvT hZ (hw _ (List.mem_of_getElem? (i := 119) rfl))) (mvT hZ (hw _ (List.mem_of_getElem? (i := 120) rfl))) (mvT hZ (hw _ (List.mem_of_getElem? (i := 121) rfl))) (mvT hZ (hw _ (List.mem_of_getElem? (i := 122) rfl))) (mvT hZ (hw _ (List.mem_of_getElem? (i := 123) rfl))) (mvT hZ (hw _ (List.mem_of_getElem? (i := 124) rfl))) (mvT hZ (hw _ (List.mem_of_getElem? (i := 125) rfl))) (mvT hZ (hw _ (List.mem_of_getElem? (i := 49) rfl))) (by decide) (backOf (W := 0) (rmSz l Z a0 hw [] (b5) ((0 : Int32)) h10 n0 Zn10 (G6x2_10)) hZ (hw _ (List.mem_of_getElem? (i := 126) rfl)) (hw _ (List.mem_of_getElem? (i := 20) rfl)) (by decide) (by decide)) q20a q20b q20c (g := (mkF m 277 #[.val (.long p0), .second, .val (.long p1), .second, .val (.long p2), .second, .val (.long p3), .second, .val (.long p4), .second, .val (.int p5), .val (.int (0 : Int32)), .val (.ref b1), .val (.ref b3), .val (.ref b5), .val (.ref b8), .val (.ref b10), .val (.ref b5), .val (.int (1 : Int32)), .val (.int (1 : Int32)), .unset] [(.ref b5)])) rfl (by rw [hml]; rfl) (Steps.refl _) (argsL := []) (rest := []) (lenOf own_pd0 rfl) rfl (by show 2 * 0 + _ ≤ _; exact Nat.le_of_eq rfl) (hb hby at_277) (fun _ _ => ⟨rfl, e19, (by decide : 5 + 0 ≤ _), (by decide : 15 + 0 ≤ _)⟩)
    dsimp only [Pt.U, Pt.locs, Pt.cells, Pt.slots] at X20 l20 y20 z20 st20 hQ20
    subst l20 y20 z20
    have X20 : Stand p l e room_1 s m _ below meth c T20 _ 5 15 := X20
    obtain ⟨rfl, Nq20, e20⟩ := hQ20
    have N20 := Fr.app N19 Nq20
    refine OGo.st (T' := T20) (g' := (mkF m 282 #[.val (.long p0), .second, .val (.long p1), .second, .val (.long p2), .second, .val (.long p3), .second, .val (.long p4), .second, .val (.int p5), .val (.int (0 : Int32)), .val (.ref b1), .val (.ref b3), .val (.ref b5), .val (.ref b8), .val (.ref b10), .val (.ref b5), .val (.int (1 : Int32)), .val (.int (1 : Int32)), .unset] [(.int (0 : Int32))])) (fun _ k => st20.trans k) ?_
    refine OGo.st (T' := T20) (g' := (mkF m 296 #[.val (.long p0), .second, .val (.long p1), .second, .val (.long p2), .second, .val (.long p3), .second, .val (.long p4), .second, .val (.int p5), .val (.int (0 : Int32)), .val (.ref b1), .val (.ref b3), .val (.ref b5), .val (.ref b8), .val (.ref b10), .val (.ref b5), .val (.int (1 : Int32)), .val (.int (1 : Int32)), .val (.int (1 : Int32))] [(.int (1 : Int32))])) (fun _ k => (XS.iload X20.here hx rfl (hb hby at_282) rfl (XS.icmpNo X20.here hx rfl (hb hby at_284) rfl (teq (by decide : (0 : Int32) = (0 : Int32))).2 (XS.iconst X20.here hx rfl (hb hby at_287) (XS.goto X20.here hx rfl (pc0 := 288) (pc' := 292) rfl (hb hby at_288) (by decide) (by decide) (XS.istore X20.here hx rfl (hb hby at_292) rfl (l' := #[.val (.long p0), .second, .val (.long p1), .second, .val (.long p2), .second, .val (.long p3), .second, .val (.long p4), .second, .val (.int p5), .val (.int (0 : Int32)), .val (.ref b1), .val (.ref b3), .val (.ref b5), .val (.ref b8), .val (.ref b10), .val (.ref b5), .val (.int (1 : Int32)), .val (.int (1 : Int32)), .val (.int (1 : Int32))]) rfl (XS.iload X20.here hx rfl (hb hby at_294) rfl k))))))) ?_
    refine OGo.st (T' := T20) (g' := (mkF m 310 #[.val (.long p0), .second, .val (.long p1), .second, .val (.long p2), .second, .val (.long p3), .second, .val (.long p4), .second, .val (.int p5), .val (.int (0 : Int32)), .val (.ref b1), .val (.ref b3), .val (.ref b5), .val (.ref b8), .val (.ref b10), .val (.ref b5), .val (.int (1 : Int32)), .val (.int (1 : Int32)), .val (.int (1 : Int32))] [(.int (1 : Int32))])) (fun _ k => (XS.ifNo X20.here hx rfl (hb hby at_296) rfl ((if0 _ _).trans (feq (by decide : ¬ ((1 : Int32) = (0 : Int32)))).1) (XS.iload X20.here hx rfl (hb hby at_299) rfl (XS.ifNo X20.here hx rfl (hb hby at_301) rfl ((if0 _ _).trans (feq (by decide : ¬ ((1 : Int32) = (0 : Int32)))).1) (XS.iload X20.here hx rfl (hb hby at_304) rfl (XS.ifNo X20.here hx rfl (hb hby at_306) rfl ((if0 _ _).trans (feq (by decide : ¬ ((1 : Int32) = (0 : Int32)))).1) (XS.iconst X20.here hx rfl (hb hby at_309) k))))))) ?_
    refine OGo.st (T' := T20) (g' := (mkF m 314 #[.val (.long p0), .second, .val (.long p1), .second, .val (.long p2), .second, .val (.long p3), .second, .val (.long p4), .second, .val (.int p5), .val (.int (0 : Int32)), .val (.ref b1), .val (.ref b3), .val (.ref b5), .val (.ref b8), .val (.ref b10), .val (.ref b5), .val (.int (1 : Int32)), .val (.int (1 : Int32)), .val (.int (1 : Int32))] [(.int (1 : Int32))])) (fun _ k => (XS.goto X20.here hx rfl (pc0 := 310) (pc' := 314) rfl (hb hby at_310) (by decide) (by decide) k)) ?_
    exact OGo.ret X20 hx hlk Bd.returns rfl (own_rI (Or.inr (Or.inl rfl))) (hb hby at_314) (by decide) (by decide) e20 (⟨rfl, N20⟩)
  · rw [hl7]
    refine OGo.st (T' := T6) (g' := (mkF m 47 #[.val (.long p0), .second, .val (.long p1), .second, .val (.long p2), .second, .val (.long p3), .second, .val (.long p4), .second, .val (.int p5), .val (.int (1 : Int32)), .val (.ref b1), .val (.ref b3), .val (.ref b5), .unset, .unset, .unset, .unset, .unset, .unset] [(.ref b1), (.ref b5)])) (fun _ k => (XS.iload X6.here hx rfl (hb hby at_37) rfl (XS.iconst X6.here hx rfl (hb hby at_39) (XS.icmpNo X6.here hx rfl (hb hby at_40) rfl (flt (by decide : ¬ ((1 : Int32) < (1 : Int32)))).1 (XS.aload X6.here hx rfl (hb hby at_43) rfl rfl (XS.aload X6.here hx rfl (hb hby at_45) rfl rfl k)))))) ?_
    obtain ⟨cq21, kq21, q21a, q21b, q21c⟩ := isOf hZ e6 A5_6
    obtain ⟨_, _, ⟨T21, L21, k21, n21⟩, -, X21, ⟨Lc21, hQ21, l21, y21, z21⟩, st21⟩ := X6.interfaceBack hx (xi := (⟨"java/util/List", "add", "(Ljava/lang/Object;)Z"⟩ : MethodName)) (y := (⟨"java/util/ArrayList", "add", "(Ljava/lang/Object;)Z"⟩ : MethodName)) hown (mvT hZ (hw _ (List.mem_of_getElem? (i := 42) rfl))) (mvT hZ (hw _ (List.mem_of_getElem? (i := 43) rfl))) (mvT hZ (hw _ (List.mem_of_getElem? (i := 44) rfl))) (mvT hZ (hw _ (List.mem_of_getElem? (i := 45) rfl))) (mvT hZ (hw _ (List.mem_of_getElem? (i := 46) rfl))) (mvT hZ (hw _ (List.mem_of_getElem? (i := 47) rfl))) (mvT hZ (hw _ (List.mem_of_getElem? (i := 48) rfl))) (mvT hZ (hw _ (List.mem_of_getElem? (i := 49) rfl))) (by decide) (backOf (W := 0) (rmAd0 l Z a0 hw [] (b5) ((0 : Int32)) (b1) (ed) h6 n0 Zn6 (A5_6) (G6x0) (G6x1) (G6x2) (A1_6) (g_b5) ((Ne.symm ne_b1_b5)) (OLD_6) (S_ed) (A_ed)) hZ (hw _ (List.mem_of_getElem? (i := 50) rfl)) (hw _ (List.mem_of_getElem? (i := 20) rfl)) (by decide) (by decide)) q21a q21b q21c (g := (mkF m 47 #[.val (.long p0), .second, .val (.long p1), .second, .val (.long p2), .second, .val (.long p3), .second, .val (.long p4), .second, .val (.int p5), .val (.int (1 : Int32)), .val (.ref b1), .val (.ref b3), .val (.ref b5), .unset, .unset, .unset, .unset, .unset, .unset] [(.ref b1), (.ref b5)])) rfl (by rw [hml]; rfl) (Steps.refl _) (argsL := [(.ref b1)]) (rest := []) (lenOf own_pd13 rfl) rfl (by show 2 * 0 + _ ≤ _; exact Nat.le_of_eq rfl) (hb hby at_47) (fun _ _ => ⟨rfl, e6, (by decide : 3 + 1 ≤ _), (by decide : 7 + 10 ≤ _)⟩)
    dsimp only [Pt.U, Pt.locs, Pt.cells, Pt.slots] at X21 l21 y21 z21 st21 hQ21
    subst l21 y21 z21
    have X21 : Stand p l e room_1 s m _ below meth c T21 _ 4 17 := X21
    obtain ⟨h21, e21⟩ : ∃ z, T21.heap = z := ⟨_, rfl⟩
    rw [e21] at hQ21
    obtain ⟨b21, rfl, Nq21, Kc21, sz_b21, G21x0, G21x1, G21x2, G21x3⟩ := hQ21
    have N21 := Fr.app N6 Nq21
    have ne_ed_b21 : ed ≠ b21 := Nat.ne_of_lt (Nat.lt_of_lt_of_le (A_ed.ext OLD_6.2).lt sz_b21)
    have ne_b1_b21 : b1 ≠ b21 := Nat.ne_of_lt (Nat.lt_of_lt_of_le A1_6.lt sz_b21)
    have ne_b3_b21 : b3 ≠ b21 := Nat.ne_of_lt (Nat.lt_of_lt_of_le A3_6.lt sz_b21)
    have ne_b5_b21 : b5 ≠ b21 := Nat.ne_of_lt (Nat.lt_of_lt_of_le A5_6.lt sz_b21)
    have g_b21 : n0 ≤ b21 := Nat.le_trans Zn6 sz_b21
    have OLD_21 : Old Z n0 h21 := OLD_6.keep Kc21 (allS g_b5 all0)
    have A1_21 : Exa Z h21 b1 "com/example/rallypoint/rallypoint/protocol/MultiRequest$Op" := A1_6.keep Kc21
    have G2x0_21 : Fld Z h21 b1 "com/example/rallypoint/rallypoint/protocol/MultiRequest$Op" "op" "Lcom/example/rallypoint/rallypoint/protocol/OpCode;" .null := G2x0_6.keep Kc21 (ninS ne_b1_b5 nin0)
    have G2x1_21 : Fld Z h21 b1 "com/example/rallypoint/rallypoint/protocol/MultiRequest$Op" "body" "Lcom/example/rallypoint/rallypoint/protocol/RequestBody;" .null := G2x1_6.keep Kc21 (ninS ne_b1_b5 nin0)
    have A3_21 : Exa Z h21 b3 "com/example/rallypoint/rallypoint/protocol/MultiRequest$Op" := A3_6.keep Kc21
    have G4x0_21 : Fld Z h21 b3 "com/example/rallypoint/rallypoint/protocol/MultiRequest$Op" "op" "Lcom/example/rallypoint/rallypoint/protocol/OpCode;" .null := G4x0_6.keep Kc21 (ninS ne_b3_b5 nin0)
    have G4x1_21 : Fld Z h21 b3 "com/example/rallypoint/rallypoint/protocol/MultiRequest$Op" "body" "Lcom/example/rallypoint/rallypoint/protocol/RequestBody;" .null := G4x1_6.keep Kc21 (ninS ne_b3_b5 nin0)
    have A5_21 : Exa Z h21 b5 "java/util/ArrayList" := A5_6.keep Kc21
    have Zn21 : n0 ≤ h21.size := Nat.le_trans Zn6 Kc21.1
    refine OGo.st (T' := T21) (g' := (mkF m 52 #[.val (.long p0), .second, .val (.long p1), .second, .val (.long p2), .second, .val (.long p3), .second, .val (.long p4), .second, .val (.int p5), .val (.int (1 : Int32)), .val (.ref b1), .val (.ref b3), .val (.ref b5), .unset, .unset, .unset, .unset, .unset, .unset] [(.int (1 : Int32))])) (fun _ k => st21.trans k) ?_
    refine OGo.st (T' := T21) (g' := (mkF m 72 #[.val (.long p0), .second, .val (.long p1), .second, .val (.long p2), .second, .val (.long p3), .second, .val (.long p4), .second, .val (.int p5), .val (.int (1 : Int32)), .val (.ref b1), .val (.ref b3), .val (.ref b5), .unset, .unset, .unset, .unset, .unset, .unset] [(.int (3 : Int32)), (.int (1 : Int32))])) (fun _ k => (XS.pop X21.here hx rfl (hb hby at_52) rfl rfl (XS.iload X21.here hx rfl (hb hby at_53) rfl (XS.iconst X21.here hx rfl (hb hby at_55) (XS.icmpYes X21.here hx rfl (pc0 := 56) (pc' := 69) rfl (hb hby at_56) rfl (tlt (by decide : (1 : Int32) < (2 : Int32))).1 (by decide) (by decide) (XS.iload X21.here hx rfl (hb hby at_69) rfl (XS.iconst X21.here hx rfl (hb hby at_71) k))))))) ?_
    refine OGo.st (T' := T21) (g' := (mkF m 85 #[.val (.long p0), .second, .val (.long p1), .second, .val (.long p2), .second, .val (.long p3), .second, .val (.long p4), .second, .val (.int p5), .val (.int (1 : Int32)), .val (.ref b1), .val (.ref b3), .val (.ref b5), .unset, .unset, .unset, .unset, .unset, .unset] [])) (fun _ k => (XS.icmpYes X21.here hx rfl (pc0 := 72) (pc' := 85) rfl (hb hby at_72) rfl (tlt (by decide : (1 : Int32) < (3 : Int32))).1 (by decide) (by decide) k)) ?_
    obtain ⟨T22, h22, X22, e22, E22, A22, D22, -, st22⟩ := newO X21 hx hZ hown (hw _ (List.mem_of_getElem? (i := 77) rfl)) (hw _ (List.mem_of_getElem? (i := 78) rfl)) (hw _ (List.mem_of_getElem? (i := 79) rfl)) e21 (g := (mkF m 85 #[.val (.long p0), .second, .val (.long p1), .second, .val (.long p2), .second, .val (.long p3), .second, .val (.long p4), .second, .val (.int p5), .val (.int (1 : Int32)), .val (.ref b1), .val (.ref b3), .val (.ref b5), .unset, .unset, .unset, .unset, .unset, .unset] [])) rfl (hb hby at_85) (by decide) (by decide)
    obtain ⟨b22, g22⟩ : ∃ z, z = h21.size := ⟨_, rfl⟩
    rw [← g22] at A22 D22 st22
    have ne_ed_b22 : ed ≠ b22 := Nat.ne_of_lt (Nat.lt_of_lt_of_le (A_ed.ext OLD_21.2).lt (Nat.le_of_eq g22.symm))
    have ne_b1_b22 : b1 ≠ b22 := Nat.ne_of_lt (Nat.lt_of_lt_of_le A1_21.lt (Nat.le_of_eq g22.symm))
    have ne_b3_b22 : b3 ≠ b22 := Nat.ne_of_lt (Nat.lt_of_lt_of_le A3_21.lt (Nat.le_of_eq g22.symm))
    have ne_b5_b22 : b5 ≠ b22 := Nat.ne_of_lt (Nat.lt_of_lt_of_le A5_21.lt (Nat.le_of_eq g22.symm))
    have ne_b21_b22 : b21 ≠ b22 := Nat.ne_of_lt (Nat.lt_of_lt_of_le G21x3.lt (Nat.le_of_eq g22.symm))
    have g_b22 : n0 ≤ b22 := Nat.le_trans Zn21 (Nat.le_of_eq g22.symm)
    have F_zxid_b22_22 : Fld Z h22 b22 "com/example/rallypoint/rallypoint/server/LogEntry$TreeChanged" "zxid" "J" (.long (0 : Int64)) := D22 (Or.inr (hw _ (List.mem_of_getElem? (i := 85) rfl))) (ty := .long) (by decide)
    have F_time_b22_22 : Fld Z h22 b22 "com/example/rallypoint/rallypoint/server/LogEntry$TreeChanged" "time" "J" (.long (0 : Int64)) := D22 (Or.inr (hw _ (List.mem_of_getElem? (i := 87) rfl))) (ty := .long) (by decide)
    have F_session_b22_22 : Fld Z h22 b22 "com/example/rallypoint/rallypoint/server/LogEntry$TreeChanged" "session" "J" (.long (0 : Int64)) := D22 (Or.inr (hw _ (List.mem_of_getElem? (i := 89) rfl))) (ty := .long) (by decide)
    have F_ops_b22_22 : Fld Z h22 b22 "com/example/rallypoint/rallypoint/server/LogEntry$TreeChanged" "ops" "Ljava/util/List;" .null := D22 (Or.inr (hw _ (List.mem_of_getElem? (i := 91) rfl))) (ty := (.object "java/util/List")) (by decide)
    have OLD_22 : Old Z n0 h22 := OLD_21.ext E22
    have A1_22 : Exa Z h22 b1 "com/example/rallypoint/rallypoint/protocol/MultiRequest$Op" := A1_21.ext E22
    have G2x0_22 : Fld Z h22 b1 "com/example/rallypoint/rallypoint/protocol/MultiRequest$Op" "op" "Lcom/example/rallypoint/rallypoint/protocol/OpCode;" .null := G2x0_21.ext E22
    have G2x1_22 : Fld Z h22 b1 "com/example/rallypoint/rallypoint/protocol/MultiRequest$Op" "body" "Lcom/example/rallypoint/rallypoint/protocol/RequestBody;" .null := G2x1_21.ext E22
    have A3_22 : Exa Z h22 b3 "com/example/rallypoint/rallypoint/protocol/MultiRequest$Op" := A3_21.ext E22
    have G4x0_22 : Fld Z h22 b3 "com/example/rallypoint/rallypoint/protocol/MultiRequest$Op" "op" "Lcom/example/rallypoint/rallypoint/protocol/OpCode;" .null := G4x0_21.ext E22
    have G4x1_22 : Fld Z h22 b3 "com/example/rallypoint/rallypoint/protocol/MultiRequest$Op" "body" "Lcom/example/rallypoint/rallypoint/protocol/RequestBody;" .null := G4x1_21.ext E22
    have A5_22 : Exa Z h22 b5 "java/util/ArrayList" := A5_21.ext E22
    have G21x0_22 : Fld Z h22 b5 "java/util/AbstractList" "modCount" "I" (.int ((0 : Int32) + (1 : Int32))) := G21x0.ext E22
    have G21x1_22 : Fld Z h22 b5 "java/util/ArrayList" "elementData" "[Ljava/lang/Object;" (.ref b21) := G21x1.ext E22
    have G21x2_22 : Fld Z h22 b5 "java/util/ArrayList" "size" "I" (.int (1 : Int32)) := G21x2.ext E22
    have G21x3_22 : OArrR Z h22 b21 10 (own_L Value.null ([(.ref b1), .null, .null, .null, .null, .null, .null, .null, .null, .null] : List Value)) := G21x3.ext E22
    have Zn22 : n0 ≤ h22.size := Nat.le_trans Zn21 E22.1
    have X22 : Stand p l e room_1 s m _ below meth c T22 _ 5 21 := X22
    refine OGo.st (T' := T22) (g' := (mkF m 88 #[.val (.long p0), .second, .val (.long p1), .second, .val (.long p2), .second, .val (.long p3), .second, .val (.long p4), .second, .val (.int p5), .val (.int (1 : Int32)), .val (.ref b1), .val (.ref b3), .val (.ref b5), .unset, .unset, .unset, .unset, .unset, .unset] [(.ref b22)])) (fun _ k => st22 _ k) ?_
    refine OGo.st (T' := T22) (g' := (mkF m 95 #[.val (.long p0), .second, .val (.long p1), .second, .val (.long p2), .second, .val (.long p3), .second, .val (.long p4), .second, .val (.int p5), .val (.int (1 : Int32)), .val (.ref b1), .val (.ref b3), .val (.ref b5), .unset, .unset, .unset, .unset, .unset, .unset] [(.ref b5), (.long p2), (.long p1), (.long p0), (.ref b22), (.ref b22)])) (fun _ k => (XS.dup X22.here hx rfl (hb hby at_88) rfl rfl (XS.lloadN X22.here hx rfl (hb hby at_89) rfl (XS.lloadN X22.here hx rfl (hb hby at_90) rfl (XS.lload X22.here hx rfl (hb hby at_91) rfl (XS.aload X22.here hx rfl (hb hby at_93) rfl rfl k)))))) ?_
    obtain ⟨_, _, ⟨T23, L23, k23, n23⟩, -, X23, ⟨Lc23, hQ23, l23, y23, z23⟩, st23⟩ := X22.specialBack hx (y := (⟨"com/example/rallypoint/rallypoint/server/LogEntry$TreeChanged", "<init>", "(JJJLjava/util/List;)V"⟩ : MethodName)) rfl hown (mvT hZ (hw _ (List.mem_of_getElem? (i := 80) rfl))) (mvT hZ (hw _ (List.mem_of_getElem? (i := 81) rfl))) (mvT hZ (hw _ (List.mem_of_getElem? (i := 82) rfl))) (by decide) (backOf (W := 1) (rmTi l Z a0 hw [] (b22) ((0 : Int64)) ((0 : Int64)) ((0 : Int64)) (.null) (p0) (p1) (p2) (b5) h22 n0 Zn22 (A22) (F_zxid_b22_22) (F_time_b22_22) (F_session_b22_22) (F_ops_b22_22) (g_b22)) hZ (hw _ (List.mem_of_getElem? (i := 82) rfl)) (hw _ (List.mem_of_getElem? (i := 79) rfl)) (by decide) (by decide)) (g := (mkF m 95 #[.val (.long p0), .second, .val (.long p1), .second, .val (.long p2), .second, .val (.long p3), .second, .val (.long p4), .second, .val (.int p5), .val (.int (1 : Int32)), .val (.ref b1), .val (.ref b3), .val (.ref b5), .unset, .unset, .unset, .unset, .unset, .unset] [(.ref b5), (.long p2), (.long p1), (.long p0), (.ref b22), (.ref b22)])) rfl (by rw [hml]; rfl) (Steps.refl _) (a := b22) (argsL := [(.long p0), (.long p1), (.long p2), (.ref b5)]) (rest := [(.ref b22)]) (lenOf own_pd11 rfl) rfl (by show 2 * 0 + _ ≤ _; exact Nat.le_of_eq rfl) (hb hby at_95) (fun _ _ => ⟨rfl, e22, (by decide : 5 + 0 ≤ _), (by decide : 21 + 0 ≤ _)⟩)
    dsimp only [Pt.U, Pt.locs, Pt.cells, Pt.slots] at X23 l23 y23 z23 st23 hQ23
    subst l23 y23 z23
    have X23 : Stand p l e room_1 s m _ below meth c T23 _ 5 21 := X23
    obtain ⟨h23, e23⟩ : ∃ z, T23.heap = z := ⟨_, rfl⟩
    rw [e23] at hQ23
    obtain ⟨rfl, Nq23, Kc23, G23x0, G23x1, G23x2, G23x3⟩ := hQ23
    have N23 := Fr.app N21 Nq23
    have OLD_23 : Old Z n0 h23 := OLD_22.keep Kc23 (allS g_b22 all0)
    have A1_23 : Exa Z h23 b1 "com/example/rallypoint/rallypoint/protocol/MultiRequest$Op" := A1_22.keep Kc23
    have G2x0_23 : Fld Z h23 b1 "com/example/rallypoint/rallypoint/protocol/MultiRequest$Op" "op" "Lcom/example/rallypoint/rallypoint/protocol/OpCode;" .null := G2x0_22.keep Kc23 (ninS ne_b1_b22 nin0)
    have G2x1_23 : Fld Z h23 b1 "com/example/rallypoint/rallypoint/protocol/MultiRequest$Op" "body" "Lcom/example/rallypoint/rallypoint/protocol/RequestBody;" .null := G2x1_22.keep Kc23 (ninS ne_b1_b22 nin0)
    have A3_23 : Exa Z h23 b3 "com/example/rallypoint/rallypoint/protocol/MultiRequest$Op" := A3_22.keep Kc23
    have G4x0_23 : Fld Z h23 b3 "com/example/rallypoint/rallypoint/protocol/MultiRequest$Op" "op" "Lcom/example/rallypoint/rallypoint/protocol/OpCode;" .null := G4x0_22.keep Kc23 (ninS ne_b3_b22 nin0)
    have G4x1_23 : Fld Z h23 b3 "com/example/rallypoint/rallypoint/protocol/MultiRequest$Op" "body" "Lcom/example/rallypoint/rallypoint/protocol/RequestBody;" .null := G4x1_22.keep Kc23 (ninS ne_b3_b22 nin0)
    have A5_23 : Exa Z h23 b5 "java/util/ArrayList" := A5_22.keep Kc23
    have G21x0_23 : Fld Z h23 b5 "java/util/AbstractList" "modCount" "I" (.int ((0 : Int32) + (1 : Int32))) := G21x0_22.keep Kc23 (ninS ne_b5_b22 nin0)
    have G21x1_23 : Fld Z h23 b5 "java/util/ArrayList" "elementData" "[Ljava/lang/Object;" (.ref b21) := G21x1_22.keep Kc23 (ninS ne_b5_b22 nin0)
    have G21x2_23 : Fld Z h23 b5 "java/util/ArrayList" "size" "I" (.int (1 : Int32)) := G21x2_22.keep Kc23 (ninS ne_b5_b22 nin0)
    have G21x3_23 : OArrR Z h23 b21 10 (own_L Value.null ([(.ref b1), .null, .null, .null, .null, .null, .null, .null, .null, .null] : List Value)) := G21x3_22.keep Kc23 (ninS ne_b21_b22 nin0)
    have A22_23 : Exa Z h23 b22 "com/example/rallypoint/rallypoint/server/LogEntry$TreeChanged" := A22.keep Kc23
    have Zn23 : n0 ≤ h23.size := Nat.le_trans Zn22 Kc23.1
    refine OGo.st (T' := T23) (g' := (mkF m 98 #[.val (.long p0), .second, .val (.long p1), .second, .val (.long p2), .second, .val (.long p3), .second, .val (.long p4), .second, .val (.int p5), .val (.int (1 : Int32)), .val (.ref b1), .val (.ref b3), .val (.ref b5), .unset, .unset, .unset, .unset, .unset, .unset] [(.ref b22)])) (fun _ k => st23.trans k) ?_
    refine OGo.st (T' := T23) (g' := (mkF m 106 #[.val (.long p0), .second, .val (.long p1), .second, .val (.long p2), .second, .val (.long p3), .second, .val (.long p4), .second, .val (.int p5), .val (.int (1 : Int32)), .val (.ref b1), .val (.ref b3), .val (.ref b5), .val (.ref b22), .unset, .unset, .unset, .unset, .unset] [(.long p4), (.long p3), (.ref b22)])) (fun _ k => (XS.astore X23.here hx rfl (hb hby at_98) rfl rfl (l' := #[.val (.long p0), .second, .val (.long p1), .second, .val (.long p2), .second, .val (.long p3), .second, .val (.long p4), .second, .val (.int p5), .val (.int (1 : Int32)), .val (.ref b1), .val (.ref b3), .val (.ref b5), .val (.ref b22), .unset, .unset, .unset, .unset, .unset]) rfl (XS.aload X23.here hx rfl (hb hby at_100) rfl rfl (XS.lload X23.here hx rfl (hb hby at_102) rfl (XS.lload X23.here hx rfl (hb hby at_104) rfl k))))) ?_
    obtain ⟨cq24, kq24, q24a, q24b, q24c⟩ := isOf hZ e23 A22_23
    obtain ⟨_, _, ⟨T24, L24, k24, n24⟩, -, X24, ⟨Lc24, hQ24, l24, y24, z24⟩, st24⟩ := X23.virtualBack hx (y := (⟨"com/example/rallypoint/rallypoint/server/LogEntry$TreeChanged", "stamped", "(JJ)Lcom/example/rallypoint/rallypoint/server/LogEntry$TreeChanged;"⟩ : MethodName)) (z := (⟨"com/example/rallypoint/rallypoint/server/LogEntry$TreeChanged", "stamped", "(JJ)Lcom/example/rallypoint/rallypoint/server/LogEntry$TreeChanged;"⟩ : MethodName)) hown (mvT hZ (hw _ (List.mem_of_getElem? (i := 92) rfl))) (mvT hZ (hw _ (List.mem_of_getElem? (i := 93) rfl))) (notFace_of_selects (args := #[]) (mvT hZ (hw _ (List.mem_of_getElem? (i := 95) rfl)))) (mvT hZ (hw _ (List.mem_of_getElem? (i := 95) rfl))) (mvT hZ (hw _ (List.mem_of_getElem? (i := 94) rfl))) (by decide) (backOf (W := 0) (rmTs l Z a0 hw [] (b22) (p2) (p3) (p4) (b5) h23 n0 Zn23 (A22_23) (G23x2) (G23x3)) hZ (hw _ (List.mem_of_getElem? (i := 96) rfl)) (hw _ (List.mem_of_getElem? (i := 79) rfl)) (by decide) (by decide)) q24a q24c (g := (mkF m 106 #[.val (.long p0), .second, .val (.long p1), .second, .val (.long p2), .second, .val (.long p3), .second, .val (.long p4), .second, .val (.int p5), .val (.int (1 : Int32)), .val (.ref b1), .val (.ref b3), .val (.ref b5), .val (.ref b22), .unset, .unset, .unset, .unset, .unset] [(.long p4), (.long p3), (.ref b22)])) rfl (by rw [hml]; rfl) (Steps.refl _) (argsL := [(.long p3), (.long p4)]) (rest := []) (lenOf own_pd9 rfl) rfl (by show 2 * 0 + _ ≤ _; exact Nat.le_of_eq rfl) (hb hby at_106) (fun _ _ => ⟨rfl, e23, (by decide : 5 + 1 ≤ _), (by decide : 21 + 4 ≤ _)⟩)
    dsimp only [Pt.U, Pt.locs, Pt.cells, Pt.slots] at X24 l24 y24 z24 st24 hQ24
    subst l24 y24 z24
    have X24 : Stand p l e room_1 s m _ below meth c T24 _ 6 25 := X24
    obtain ⟨h24, e24⟩ : ∃ z, T24.heap = z := ⟨_, rfl⟩
    rw [e24] at hQ24
    obtain ⟨b24, rfl, Nq24, Kc24, sz_b24, G24x0, G24x1, G24x2, G24x3, G24x4⟩ := hQ24
    have N24 := Fr.app N23 Nq24
    have ne_ed_b24 : ed ≠ b24 := Nat.ne_of_lt (Nat.lt_of_lt_of_le (A_ed.ext OLD_23.2).lt sz_b24)
    have ne_b1_b24 : b1 ≠ b24 := Nat.ne_of_lt (Nat.lt_of_lt_of_le A1_23.lt sz_b24)
    have ne_b3_b24 : b3 ≠ b24 := Nat.ne_of_lt (Nat.lt_of_lt_of_le A3_23.lt sz_b24)
    have ne_b5_b24 : b5 ≠ b24 := Nat.ne_of_lt (Nat.lt_of_lt_of_le A5_23.lt sz_b24)
    have ne_b21_b24 : b21 ≠ b24 := Nat.ne_of_lt (Nat.lt_of_lt_of_le G21x3_23.lt sz_b24)
    have ne_b22_b24 : b22 ≠ b24 := Nat.ne_of_lt (Nat.lt_of_lt_of_le A22_23.lt sz_b24)
    have g_b24 : n0 ≤ b24 := Nat.le_trans Zn23 sz_b24
    have OLD_24 : Old Z n0 h24 := OLD_23.keep Kc24 all0
    have A1_24 : Exa Z h24 b1 "com/example/rallypoint/rallypoint/protocol/MultiRequest$Op" := A1_23.keep Kc24
    have G2x0_24 : Fld Z h24 b1 "com/example/rallypoint/rallypoint/protocol/MultiRequest$Op" "op" "Lcom/example/rallypoint/rallypoint/protocol/OpCode;" .null := G2x0_23.keep Kc24 nin0
    have G2x1_24 : Fld Z h24 b1 "com/example/rallypoint/rallypoint/protocol/MultiRequest$Op" "body" "Lcom/example/rallypoint/rallypoint/protocol/RequestBody;" .null := G2x1_23.keep Kc24 nin0
    have A3_24 : Exa Z h24 b3 "com/example/rallypoint/rallypoint/protocol/MultiRequest$Op" := A3_23.keep Kc24
    have G4x0_24 : Fld Z h24 b3 "com/example/rallypoint/rallypoint/protocol/MultiRequest$Op" "op" "Lcom/example/rallypoint/rallypoint/protocol/OpCode;" .null := G4x0_23.keep Kc24 nin0
    have G4x1_24 : Fld Z h24 b3 "com/example/rallypoint/rallypoint/protocol/MultiRequest$Op" "body" "Lcom/example/rallypoint/rallypoint/protocol/RequestBody;" .null := G4x1_23.keep Kc24 nin0
    have A5_24 : Exa Z h24 b5 "java/util/ArrayList" := A5_23.keep Kc24
    have G21x0_24 : Fld Z h24 b5 "java/util/AbstractList" "modCount" "I" (.int ((0 : Int32) + (1 : Int32))) := G21x0_23.keep Kc24 nin0
    have G21x1_24 : Fld Z h24 b5 "java/util/ArrayList" "elementData" "[Ljava/lang/Object;" (.ref b21) := G21x1_23.keep Kc24 nin0
    have G21x2_24 : Fld Z h24 b5 "java/util/ArrayList" "size" "I" (.int (1 : Int32)) := G21x2_23.keep Kc24 nin0
    have G21x3_24 : OArrR Z h24 b21 10 (own_L Value.null ([(.ref b1), .null, .null, .null, .null, .null, .null, .null, .null, .null] : List Value)) := G21x3_23.keep Kc24 nin0
    have A22_24 : Exa Z h24 b22 "com/example/rallypoint/rallypoint/server/LogEntry$TreeChanged" := A22_23.keep Kc24
    have G23x0_24 : Fld Z h24 b22 "com/example/rallypoint/rallypoint/server/LogEntry$TreeChanged" "zxid" "J" (.long p0) := G23x0.keep Kc24 nin0
    have G23x1_24 : Fld Z h24 b22 "com/example/rallypoint/rallypoint/server/LogEntry$TreeChanged" "time" "J" (.long p1) := G23x1.keep Kc24 nin0
    have G23x2_24 : Fld Z h24 b22 "com/example/rallypoint/rallypoint/server/LogEntry$TreeChanged" "session" "J" (.long p2) := G23x2.keep Kc24 nin0
    have G23x3_24 : Fld Z h24 b22 "com/example/rallypoint/rallypoint/server/LogEntry$TreeChanged" "ops" "Ljava/util/List;" (.ref b5) := G23x3.keep Kc24 nin0
    have Zn24 : n0 ≤ h24.size := Nat.le_trans Zn23 Kc24.1
    refine OGo.st (T' := T24) (g' := (mkF m 109 #[.val (.long p0), .second, .val (.long p1), .second, .val (.long p2), .second, .val (.long p3), .second, .val (.long p4), .second, .val (.int p5), .val (.int (1 : Int32)), .val (.ref b1), .val (.ref b3), .val (.ref b5), .val (.ref b22), .unset, .unset, .unset, .unset, .unset] [(.ref b24)])) (fun _ k => st24.trans k) ?_
    refine OGo.st (T' := T24) (g' := (mkF m 113 #[.val (.long p0), .second, .val (.long p1), .second, .val (.long p2), .second, .val (.long p3), .second, .val (.long p4), .second, .val (.int p5), .val (.int (1 : Int32)), .val (.ref b1), .val (.ref b3), .val (.ref b5), .val (.ref b22), .val (.ref b24), .unset, .unset, .unset, .unset] [(.ref b24)])) (fun _ k => (XS.astore X24.here hx rfl (hb hby at_109) rfl rfl (l' := #[.val (.long p0), .second, .val (.long p1), .second, .val (.long p2), .second, .val (.long p3), .second, .val (.long p4), .second, .val (.int p5), .val (.int (1 : Int32)), .val (.ref b1), .val (.ref b3), .val (.ref b5), .val (.ref b22), .val (.ref b24), .unset, .unset, .unset, .unset]) rfl (XS.aload X24.here hx rfl (hb hby at_111) rfl rfl k))) ?_
    obtain ⟨cq25, kq25, q25a, q25b, q25c⟩ := isOf hZ e24 G24x0
    obtain ⟨_, _, ⟨T25, L25, k25, n25⟩, -, X25, ⟨Lc25, hQ25, l25, y25, z25⟩, st25⟩ := X24.virtualBack hx (y := (⟨"com/example/rallypoint/rallypoint/server/LogEntry$TreeChanged", "ops", "()Ljava/util/List;"⟩ : MethodName)) (z := (⟨"com/example/rallypoint/rallypoint/server/LogEntry$TreeChanged", "ops", "()Ljava/util/List;"⟩ : MethodName)) hown (mvT hZ (hw _ (List.mem_of_getElem? (i := 99) rfl))) (mvT hZ (hw _ (List.mem_of_getElem? (i := 100) rfl))) (notFace_of_selects (args := #[]) (mvT hZ (hw _ (List.mem_of_getElem? (i := 102) rfl)))) (mvT hZ (hw _ (List.mem_of_getElem? (i := 102) rfl))) (mvT hZ (hw _ (List.mem_of_getElem? (i := 101) rfl))) (by decide) (backOf (W := 0) (rmT_ops l Z a0 hw [] (b24) (b5) h24 n0 Zn24 (G24x4)) hZ (hw _ (List.mem_of_getElem? (i := 103) rfl)) (hw _ (List.mem_of_getElem? (i := 79) rfl)) (by decide) (by decide)) q25a q25c (g := (mkF m 113 #[.val (.long p0), .second, .val (.long p1), .second, .val (.long p2), .second, .val (.long p3), .second, .val (.long p4), .second, .val (.int p5), .val (.int (1 : Int32)), .val (.ref b1), .val (.ref b3), .val (.ref b5), .val (.ref b22), .val (.ref b24), .unset, .unset, .unset, .unset] [(.ref b24)])) rfl (by rw [hml]; rfl) (Steps.refl _) (argsL := []) (rest := []) (lenOf own_pd2 rfl) rfl (by show 2 * 0 + _ ≤ _; exact Nat.le_of_eq rfl) (hb hby at_113) (fun _ _ => ⟨rfl, e24, (by decide : 6 + 0 ≤ _), (by decide : 25 + 0 ≤ _)⟩)
    dsimp only [Pt.U, Pt.locs, Pt.cells, Pt.slots] at X25 l25 y25 z25 st25 hQ25
    subst l25 y25 z25
    have X25 : Stand p l e room_1 s m _ below meth c T25 _ 6 25 := X25
    obtain ⟨rfl, Nq25, e25⟩ := hQ25
    have N25 := Fr.app N24 Nq25
    refine OGo.st (T' := T25) (g' := (mkF m 116 #[.val (.long p0), .second, .val (.long p1), .second, .val (.long p2), .second, .val (.long p3), .second, .val (.long p4), .second, .val (.int p5), .val (.int (1 : Int32)), .val (.ref b1), .val (.ref b3), .val (.ref b5), .val (.ref b22), .val (.ref b24), .unset, .unset, .unset, .unset] [(.ref b5)])) (fun _ k => st25.trans k) ?_
    refine OGo.st (T' := T25) (g' := (mkF m 120 #[.val (.long p0), .second, .val (.long p1), .second, .val (.long p2), .second, .val (.long p3), .second, .val (.long p4), .second, .val (.int p5), .val (.int (1 : Int32)), .val (.ref b1), .val (.ref b3), .val (.ref b5), .val (.ref b22), .val (.ref b24), .val (.ref b5), .unset, .unset, .unset] [(.ref b24)])) (fun _ k => (XS.astore X25.here hx rfl (hb hby at_116) rfl rfl (l' := #[.val (.long p0), .second, .val (.long p1), .second, .val (.long p2), .second, .val (.long p3), .second, .val (.long p4), .second, .val (.int p5), .val (.int (1 : Int32)), .val (.ref b1), .val (.ref b3), .val (.ref b5), .val (.ref b22), .val (.ref b24), .val (.ref b5), .unset, .unset, .unset]) rfl (XS.aload X25.here hx rfl (hb hby at_118) rfl rfl k))) ?_
    obtain ⟨cq26, kq26, q26a, q26b, q26c⟩ := isOf hZ e25 G24x0
    obtain ⟨_, _, ⟨T26, L26, k26, n26⟩, -, X26, ⟨Lc26, hQ26, l26, y26, z26⟩, st26⟩ := X25.virtualBack hx (y := (⟨"com/example/rallypoint/rallypoint/server/LogEntry$TreeChanged", "zxid", "()J"⟩ : MethodName)) (z := (⟨"com/example/rallypoint/rallypoint/server/LogEntry$TreeChanged", "zxid", "()J"⟩ : MethodName)) hown (mvT hZ (hw _ (List.mem_of_getElem? (i := 104) rfl))) (mvT hZ (hw _ (List.mem_of_getElem? (i := 105) rfl))) (notFace_of_selects (args := #[]) (mvT hZ (hw _ (List.mem_of_getElem? (i := 107) rfl)))) (mvT hZ (hw _ (List.mem_of_getElem? (i := 107) rfl))) (mvT hZ (hw _ (List.mem_of_getElem? (i := 106) rfl))) (by decide) (backOf (W := 0) (rmT_zxid l Z a0 hw [] (b24) (p3) h24 n0 Zn24 (G24x1)) hZ (hw _ (List.mem_of_getElem? (i := 108) rfl)) (hw _ (List.mem_of_getElem? (i := 79) rfl)) (by decide) (by decide)) q26a q26c (g := (mkF m 120 #[.val (.long p0), .second, .val (.long p1), .second, .val (.long p2), .second, .val (.long p3), .second, .val (.long p4), .second, .val (.int p5), .val (.int (1 : Int32)), .val (.ref b1), .val (.ref b3), .val (.ref b5), .val (.ref b22), .val (.ref b24), .val (.ref b5), .unset, .unset, .unset] [(.ref b24)])) rfl (by rw [hml]; rfl) (Steps.refl _) (argsL := []) (rest := []) (lenOf own_pd1 rfl) rfl (by show 2 * 0 + _ ≤ _; exact Nat.le_of_eq rfl) (hb hby at_120) (fun _ _ => ⟨rfl, e25, (by decide : 6 + 0 ≤ _), (by decide : 25 + 0 ≤ _)⟩)
    dsimp only [Pt.U, Pt.locs, Pt.cells, Pt.slots] at X26 l26 y26 z26 st26 hQ26
    subst l26 y26 z26
    have X26 : Stand p l e room_1 s m _ below meth c T26 _ 6 25 := X26
    obtain ⟨rfl, Nq26, e26⟩ := hQ26
    have N26 := Fr.app N25 Nq26
    refine OGo.st (T' := T26) (g' := (mkF m 123 #[.val (.long p0), .second, .val (.long p1), .second, .val (.long p2), .second, .val (.long p3), .second, .val (.long p4), .second, .val (.int p5), .val (.int (1 : Int32)), .val (.ref b1), .val (.ref b3), .val (.ref b5), .val (.ref b22), .val (.ref b24), .val (.ref b5), .unset, .unset, .unset] [(.long p3)])) (fun _ k => st26.trans k) ?_
    refine OGo.st (T' := T26) (g' := (mkF m 131 #[.val (.long p0), .second, .val (.long p1), .second, .val (.long p2), .second, .val (.long p3), .second, .val (.long p4), .second, .val (.int p5), .val (.int (1 : Int32)), .val (.ref b1), .val (.ref b3), .val (.ref b5), .val (.ref b22), .val (.ref b24), .val (.ref b5), .unset, .unset, .unset] [(.ref b24)])) (fun _ k => (XS.lload X26.here hx rfl (hb hby at_123) rfl (XS.lcmp X26.here hx rfl (hb hby at_125) rfl (XS.ifNo X26.here hx rfl (hb hby at_126) rfl ((if0 _ _).trans (teq ((lw_eq p3 p3).mpr (rfl : p3 = p3))).2) (XS.aload X26.here hx rfl (hb hby at_129) rfl rfl k))))) ?_
    obtain ⟨cq27, kq27, q27a, q27b, q27c⟩ := isOf hZ e26 G24x0
    obtain ⟨_, _, ⟨T27, L27, k27, n27⟩, -, X27, ⟨Lc27, hQ27, l27, y27, z27⟩, st27⟩ := X26.virtualBack hx (y := (⟨"com/example/rallypoint/rallypoint/server/LogEntry$TreeChanged", "time", "()J"⟩ : MethodName)) (z := (⟨"com/example/rallypoint/rallypoint/server/LogEntry$TreeChanged", "time", "()J"⟩ : MethodName)) hown (mvT hZ (hw _ (List.mem_of_getElem? (i := 109) rfl))) (mvT hZ (hw _ (List.mem_of_getElem? (i := 110) rfl))) (notFace_of_selects (args := #[]) (mvT hZ (hw _ (List.mem_of_getElem? (i := 112) rfl)))) (mvT hZ (hw _ (List.mem_of_getElem? (i := 112) rfl))) (mvT hZ (hw _ (List.mem_of_getElem? (i := 111) rfl))) (by decide) (backOf (W := 0) (rmT_time l Z a0 hw [] (b24) (p4) h24 n0 Zn24 (G24x2)) hZ (hw _ (List.mem_of_getElem? (i := 113) rfl)) (hw _ (List.mem_of_getElem? (i := 79) rfl)) (by decide) (by decide)) q27a q27c (g := (mkF m 131 #[.val (.long p0), .second, .val (.long p1), .second, .val (.long p2), .second, .val (.long p3), .second, .val (.long p4), .second, .val (.int p5), .val (.int (1 : Int32)), .val (.ref b1), .val (.ref b3), .val (.ref b5), .val (.ref b22), .val (.ref b24), .val (.ref b5), .unset, .unset, .unset] [(.ref b24)])) rfl (by rw [hml]; rfl) (Steps.refl _) (argsL := []) (rest := []) (lenOf own_pd1 rfl) rfl (by show 2 * 0 + _ ≤ _; exact Nat.le_of_eq rfl) (hb hby at_131) (fun _ _ => ⟨rfl, e26, (by decide : 6 + 0 ≤ _), (by decide : 25 + 0 ≤ _)⟩)
    dsimp only [Pt.U, Pt.locs, Pt.cells, Pt.slots] at X27 l27 y27 z27 st27 hQ27
    subst l27 y27 z27
    have X27 : Stand p l e room_1 s m _ below meth c T27 _ 6 25 := X27
    obtain ⟨rfl, Nq27, e27⟩ := hQ27
    have N27 := Fr.app N26 Nq27
    refine OGo.st (T' := T27) (g' := (mkF m 134 #[.val (.long p0), .second, .val (.long p1), .second, .val (.long p2), .second, .val (.long p3), .second, .val (.long p4), .second, .val (.int p5), .val (.int (1 : Int32)), .val (.ref b1), .val (.ref b3), .val (.ref b5), .val (.ref b22), .val (.ref b24), .val (.ref b5), .unset, .unset, .unset] [(.long p4)])) (fun _ k => st27.trans k) ?_
    refine OGo.st (T' := T27) (g' := (mkF m 142 #[.val (.long p0), .second, .val (.long p1), .second, .val (.long p2), .second, .val (.long p3), .second, .val (.long p4), .second, .val (.int p5), .val (.int (1 : Int32)), .val (.ref b1), .val (.ref b3), .val (.ref b5), .val (.ref b22), .val (.ref b24), .val (.ref b5), .unset, .unset, .unset] [(.ref b24)])) (fun _ k => (XS.lload X27.here hx rfl (hb hby at_134) rfl (XS.lcmp X27.here hx rfl (hb hby at_136) rfl (XS.ifNo X27.here hx rfl (hb hby at_137) rfl ((if0 _ _).trans (teq ((lw_eq p4 p4).mpr (rfl : p4 = p4))).2) (XS.aload X27.here hx rfl (hb hby at_140) rfl rfl k))))) ?_
    obtain ⟨cq28, kq28, q28a, q28b, q28c⟩ := isOf hZ e27 G24x0
    obtain ⟨_, _, ⟨T28, L28, k28, n28⟩, -, X28, ⟨Lc28, hQ28, l28, y28, z28⟩, st28⟩ := X27.virtualBack hx (y := (⟨"com/example/rallypoint/rallypoint/server/LogEntry$TreeChanged", "session", "()J"⟩ : MethodName)) (z := (⟨"com/example/rallypoint/rallypoint/server/LogEntry$TreeChanged", "session", "()J"⟩ : MethodName)) hown (mvT hZ (hw _ (List.mem_of_getElem? (i := 114) rfl))) (mvT hZ (hw _ (List.mem_of_getElem? (i := 115) rfl))) (notFace_of_selects (args := #[]) (mvT hZ (hw _ (List.mem_of_getElem? (i := 117) rfl)))) (mvT hZ (hw _ (List.mem_of_getElem? (i := 117) rfl))) (mvT hZ (hw _ (List.mem_of_getElem? (i := 116) rfl))) (by decide) (backOf (W := 0) (rmT_session l Z a0 hw [] (b24) (p2) h24 n0 Zn24 (G24x3)) hZ (hw _ (List.mem_of_getElem? (i := 118) rfl)) (hw _ (List.mem_of_getElem? (i := 79) rfl)) (by decide) (by decide)) q28a q28c (g := (mkF m 142 #[.val (.long p0), .second, .val (.long p1), .second, .val (.long p2), .second, .val (.long p3), .second, .val (.long p4), .second, .val (.int p5), .val (.int (1 : Int32)), .val (.ref b1), .val (.ref b3), .val (.ref b5), .val (.ref b22), .val (.ref b24), .val (.ref b5), .unset, .unset, .unset] [(.ref b24)])) rfl (by rw [hml]; rfl) (Steps.refl _) (argsL := []) (rest := []) (lenOf own_pd1 rfl) rfl (by show 2 * 0 + _ ≤ _; exact Nat.le_of_eq rfl) (hb hby at_142) (fun _ _ => ⟨rfl, e27, (by decide : 6 + 0 ≤ _), (by decide : 25 + 0 ≤ _)⟩)
    dsimp only [Pt.U, Pt.locs, Pt.cells, Pt.slots] at X28 l28 y28 z28 st28 hQ28
    subst l28 y28 z28
    have X28 : Stand p l e room_1 s m _ below meth c T28 _ 6 25 := X28
    obtain ⟨rfl, Nq28, e28⟩ := hQ28
    have N28 := Fr.app N27 Nq28
    refine OGo.st (T' := T28) (g' := (mkF m 145 #[.val (.long p0), .second, .val (.long p1), .second, .val (.long p2), .second, .val (.long p3), .second, .val (.long p4), .second, .val (.int p5), .val (.int (1 : Int32)), .val (.ref b1), .val (.ref b3), .val (.ref b5), .val (.ref b22), .val (.ref b24), .val (.ref b5), .unset, .unset, .unset] [(.long p2)])) (fun _ k => st28.trans k) ?_
    refine OGo.st (T' := T28) (g' := (mkF m 158 #[.val (.long p0), .second, .val (.long p1), .second, .val (.long p2), .second, .val (.long p3), .second, .val (.long p4), .second, .val (.int p5), .val (.int (1 : Int32)), .val (.ref b1), .val (.ref b3), .val (.ref b5), .val (.ref b22), .val (.ref b24), .val (.ref b5), .val (.int (1 : Int32)), .unset, .unset] [])) (fun _ k => (XS.lload X28.here hx rfl (hb hby at_145) rfl (XS.lcmp X28.here hx rfl (hb hby at_147) rfl (XS.ifNo X28.here hx rfl (hb hby at_148) rfl ((if0 _ _).trans (teq ((lw_eq p2 p2).mpr (rfl : p2 = p2))).2) (XS.iconst X28.here hx rfl (hb hby at_151) (XS.goto X28.here hx rfl (pc0 := 152) (pc' := 156) rfl (hb hby at_152) (by decide) (by decide) (XS.istore X28.here hx rfl (hb hby at_156) rfl (l' := #[.val (.long p0), .second, .val (.long p1), .second, .val (.long p2), .second, .val (.long p3), .second, .val (.long p4), .second, .val (.int p5), .val (.int (1 : Int32)), .val (.ref b1), .val (.ref b3), .val (.ref b5), .val (.ref b22), .val (.ref b24), .val (.ref b5), .val (.int (1 : Int32)), .unset, .unset]) rfl k))))))) ?_
    refine OGo.st (T' := T28) (g' := (mkF m 160 #[.val (.long p0), .second, .val (.long p1), .second, .val (.long p2), .second, .val (.long p3), .second, .val (.long p4), .second, .val (.int p5), .val (.int (1 : Int32)), .val (.ref b1), .val (.ref b3), .val (.ref b5), .val (.ref b22), .val (.ref b24), .val (.ref b5), .val (.int (1 : Int32)), .unset, .unset] [(.ref b5)])) (fun _ k => (XS.aload X28.here hx rfl (hb hby at_158) rfl rfl k)) ?_
    obtain ⟨cq29, kq29, q29a, q29b, q29c⟩ := isOf hZ e28 A5_24
    obtain ⟨_, _, ⟨T29, L29, k29, n29⟩, -, X29, ⟨Lc29, hQ29, l29, y29, z29⟩, st29⟩ := X28.interfaceBack hx (xi := (⟨"java/util/List", "size", "()I"⟩ : MethodName)) (y := (⟨"java/util/ArrayList", "size", "()I"⟩ : MethodName)) hown (mvT hZ (hw _ (List.mem_of_getElem? (i := 119) rfl))) (mvT hZ (hw _ (List.mem_of_getElem? (i := 120) rfl))) (mvT hZ (hw _ (List.mem_of_getElem? (i := 121) rfl))) (mvT hZ (hw _ (List.mem_of_getElem? (i := 122) rfl))) (mvT hZ (hw _ (List.mem_of_getElem? (i := 123) rfl))) (mvT hZ (hw _ (List.mem_of_getElem? (i := 124) rfl))) (mvT hZ (hw _ (List.mem_of_getElem? (i := 125) rfl))) (mvT hZ (hw _ (List.mem_of_getElem? (i := 49) rfl))) (by decide) (backOf (W := 0) (rmSz l Z a0 hw [] (b5) ((1 : Int32)) h24 n0 Zn24 (G21x2_24)) hZ (hw _ (List.mem_of_getElem? (i := 126) rfl)) (hw _ (List.mem_of_getElem? (i := 20) rfl)) (by decide) (by decide)) q29a q29b q29c (g := (mkF m 160 #[.val (.long p0), .second, .val (.long p1), .second, .val (.long p2), .second, .val (.long p3), .second, .val (.long p4), .second, .val (.int p5), .val (.int (1 : Int32)), .val (.ref b1), .val (.ref b3), .val (.ref b5), .val (.ref b22), .val (.ref b24), .val (.ref b5), .val (.int (1 : Int32)), .unset, .unset] [(.ref b5)])) rfl (by rw [hml]; rfl) (Steps.refl _) (argsL := []) (rest := []) (lenOf own_pd0 rfl) rfl (by show 2 * 0 + _ ≤ _; exact Nat.le_of_eq rfl) (hb hby at_160) (fun _ _ => ⟨rfl, e28, (by decide : 6 + 0 ≤ _), (by decide : 25 + 0 ≤ _)⟩)
    dsimp only [Pt.U, Pt.locs, Pt.cells, Pt.slots] at X29 l29 y29 z29 st29 hQ29
    subst l29 y29 z29
    have X29 : Stand p l e room_1 s m _ below meth c T29 _ 6 25 := X29
    obtain ⟨rfl, Nq29, e29⟩ := hQ29
    have N29 := Fr.app N28 Nq29
    refine OGo.st (T' := T29) (g' := (mkF m 165 #[.val (.long p0), .second, .val (.long p1), .second, .val (.long p2), .second, .val (.long p3), .second, .val (.long p4), .second, .val (.int p5), .val (.int (1 : Int32)), .val (.ref b1), .val (.ref b3), .val (.ref b5), .val (.ref b22), .val (.ref b24), .val (.ref b5), .val (.int (1 : Int32)), .unset, .unset] [(.int (1 : Int32))])) (fun _ k => st29.trans k) ?_
    refine OGo.st (T' := T29) (g' := (mkF m 178 #[.val (.long p0), .second, .val (.long p1), .second, .val (.long p2), .second, .val (.long p3), .second, .val (.long p4), .second, .val (.int p5), .val (.int (1 : Int32)), .val (.ref b1), .val (.ref b3), .val (.ref b5), .val (.ref b22), .val (.ref b24), .val (.ref b5), .val (.int (1 : Int32)), .unset, .unset] [(.ref b5)])) (fun _ k => (XS.iload X29.here hx rfl (hb hby at_165) rfl (XS.icmpNo X29.here hx rfl (hb hby at_167) rfl (teq (by decide : (1 : Int32) = (1 : Int32))).2 (XS.iload X29.here hx rfl (hb hby at_170) rfl (XS.iconst X29.here hx rfl (hb hby at_172) (XS.icmpNo X29.here hx rfl (hb hby at_173) rfl (flt (by decide : ¬ ((1 : Int32) < (1 : Int32)))).1 (XS.aload X29.here hx rfl (hb hby at_176) rfl rfl k))))))) ?_
    refine OGo.st (T' := T29) (g' := (mkF m 179 #[.val (.long p0), .second, .val (.long p1), .second, .val (.long p2), .second, .val (.long p3), .second, .val (.long p4), .second, .val (.int p5), .val (.int (1 : Int32)), .val (.ref b1), .val (.ref b3), .val (.ref b5), .val (.ref b22), .val (.ref b24), .val (.ref b5), .val (.int (1 : Int32)), .unset, .unset] [(.int (0 : Int32)), (.ref b5)])) (fun _ k => (XS.iconst X29.here hx rfl (hb hby at_178) k)) ?_
    obtain ⟨cq30, kq30, q30a, q30b, q30c⟩ := isOf hZ e29 A5_24
    obtain ⟨_, _, ⟨T30, L30, k30, n30⟩, -, X30, ⟨Lc30, hQ30, l30, y30, z30⟩, st30⟩ := X29.interfaceBack hx (xi := (⟨"java/util/List", "get", "(I)Ljava/lang/Object;"⟩ : MethodName)) (y := (⟨"java/util/ArrayList", "get", "(I)Ljava/lang/Object;"⟩ : MethodName)) hown (mvT hZ (hw _ (List.mem_of_getElem? (i := 127) rfl))) (mvT hZ (hw _ (List.mem_of_getElem? (i := 128) rfl))) (mvT hZ (hw _ (List.mem_of_getElem? (i := 129) rfl))) (mvT hZ (hw _ (List.mem_of_getElem? (i := 130) rfl))) (mvT hZ (hw _ (List.mem_of_getElem? (i := 131) rfl))) (mvT hZ (hw _ (List.mem_of_getElem? (i := 132) rfl))) (mvT hZ (hw _ (List.mem_of_getElem? (i := 133) rfl))) (mvT hZ (hw _ (List.mem_of_getElem? (i := 49) rfl))) (by decide) (backOf (W := 0) (rmGt l Z a0 hw [] (b5) ((1 : Int32)) ((0 : Int32)) (b21) (10) ((own_L Value.null ([(.ref b1), .null, .null, .null, .null, .null, .null, .null, .null, .null] : List Value))) (0) (b1) h24 n0 Zn24 (A5_24) (G21x1_24) (G21x2_24) (G21x3_24) (⟨by decide, by decide⟩) (by decide) (rfl) (by decide) (by decide)) hZ (hw _ (List.mem_of_getElem? (i := 134) rfl)) (hw _ (List.mem_of_getElem? (i := 20) rfl)) (by decide) (by decide)) q30a q30b q30c (g := (mkF m 179 #[.val (.long p0), .second, .val (.long p1), .second, .val (.long p2), .second, .val (.long p3), .second, .val (.long p4), .second, .val (.int p5), .val (.int (1 : Int32)), .val (.ref b1), .val (.ref b3), .val (.ref b5), .val (.ref b22), .val (.ref b24), .val (.ref b5), .val (.int (1 : Int32)), .unset, .unset] [(.int (0 : Int32)), (.ref b5)])) rfl (by rw [hml]; rfl) (Steps.refl _) (argsL := [(.int (0 : Int32))]) (rest := []) (lenOf own_pd5 rfl) rfl (by show 2 * 0 + _ ≤ _; exact Nat.le_of_eq rfl) (hb hby at_179) (fun _ _ => ⟨rfl, e29, (by decide : 6 + 0 ≤ _), (by decide : 25 + 0 ≤ _)⟩)
    dsimp only [Pt.U, Pt.locs, Pt.cells, Pt.slots] at X30 l30 y30 z30 st30 hQ30
    subst l30 y30 z30
    have X30 : Stand p l e room_1 s m _ below meth c T30 _ 6 25 := X30
    obtain ⟨rfl, Nq30, e30⟩ := hQ30
    have N30 := Fr.app N29 Nq30
    refine OGo.st (T' := T30) (g' := (mkF m 184 #[.val (.long p0), .second, .val (.long p1), .second, .val (.long p2), .second, .val (.long p3), .second, .val (.long p4), .second, .val (.int p5), .val (.int (1 : Int32)), .val (.ref b1), .val (.ref b3), .val (.ref b5), .val (.ref b22), .val (.ref b24), .val (.ref b5), .val (.int (1 : Int32)), .unset, .unset] [(.ref b1)])) (fun _ k => st30.trans k) ?_
    refine OGo.st (T' := T30) (g' := (mkF m 186 #[.val (.long p0), .second, .val (.long p1), .second, .val (.long p2), .second, .val (.long p3), .second, .val (.long p4), .second, .val (.int p5), .val (.int (1 : Int32)), .val (.ref b1), .val (.ref b3), .val (.ref b5), .val (.ref b22), .val (.ref b24), .val (.ref b5), .val (.int (1 : Int32)), .unset, .unset] [(.ref b1), (.ref b1)])) (fun _ k => (XS.aload X30.here hx rfl (hb hby at_184) rfl rfl k)) ?_
    refine OGo.st (T' := T30) (g' := (mkF m 211 #[.val (.long p0), .second, .val (.long p1), .second, .val (.long p2), .second, .val (.long p3), .second, .val (.long p4), .second, .val (.int p5), .val (.int (1 : Int32)), .val (.ref b1), .val (.ref b3), .val (.ref b5), .val (.ref b22), .val (.ref b24), .val (.ref b5), .val (.int (1 : Int32)), .unset, .unset] [(.int (3 : Int32)), (.int (1 : Int32))])) (fun _ k => (Jvm.RoadKit.acmp (g := (mkF m 186 #[.val (.long p0), .second, .val (.long p1), .second, .val (.long p2), .second, .val (.long p3), .second, .val (.long p4), .second, .val (.int p5), .val (.int (1 : Int32)), .val (.ref b1), .val (.ref b3), .val (.ref b5), .val (.ref b22), .val (.ref b24), .val (.ref b5), .val (.int (1 : Int32)), .unset, .unset] [(.ref b1), (.ref b1)])) X30 hx rfl rfl rfl (pc0 := 186) (pc' := 189) (same := true) rfl (hb hby at_186) rfl (decide_eq_true rfl) (by decide) (by decide) (XS.iload X30.here hx rfl (hb hby at_189) rfl (XS.iconst X30.here hx rfl (hb hby at_191) (XS.icmpYes X30.here hx rfl (pc0 := 192) (pc' := 208) rfl (hb hby at_192) rfl (tlt (by decide : (1 : Int32) < (2 : Int32))).1 (by decide) (by decide) (XS.iload X30.here hx rfl (hb hby at_208) rfl (XS.iconst X30.here hx rfl (hb hby at_210) k))))))) ?_
    refine OGo.st (T' := T30) (g' := (mkF m 236 #[.val (.long p0), .second, .val (.long p1), .second, .val (.long p2), .second, .val (.long p3), .second, .val (.long p4), .second, .val (.int p5), .val (.int (1 : Int32)), .val (.ref b1), .val (.ref b3), .val (.ref b5), .val (.ref b22), .val (.ref b24), .val (.ref b5), .val (.int (1 : Int32)), .val (.int (1 : Int32)), .unset] [(.ref b22)])) (fun _ k => (XS.icmpYes X30.here hx rfl (pc0 := 211) (pc' := 227) rfl (hb hby at_211) rfl (tlt (by decide : (1 : Int32) < (3 : Int32))).1 (by decide) (by decide) (XS.iconst X30.here hx rfl (hb hby at_227) (XS.goto X30.here hx rfl (pc0 := 228) (pc' := 232) rfl (hb hby at_228) (by decide) (by decide) (XS.istore X30.here hx rfl (hb hby at_232) rfl (l' := #[.val (.long p0), .second, .val (.long p1), .second, .val (.long p2), .second, .val (.long p3), .second, .val (.long p4), .second, .val (.int p5), .val (.int (1 : Int32)), .val (.ref b1), .val (.ref b3), .val (.ref b5), .val (.ref b22), .val (.ref b24), .val (.ref b5), .val (.int (1 : Int32)), .val (.int (1 : Int32)), .unset]) rfl (XS.aload X30.here hx rfl (hb hby at_234) rfl rfl k)))))) ?_
    obtain ⟨cq31, kq31, q31a, q31b, q31c⟩ := isOf hZ e30 A22_24
    obtain ⟨_, _, ⟨T31, L31, k31, n31⟩, -, X31, ⟨Lc31, hQ31, l31, y31, z31⟩, st31⟩ := X30.virtualBack hx (y := (⟨"com/example/rallypoint/rallypoint/server/LogEntry$TreeChanged", "zxid", "()J"⟩ : MethodName)) (z := (⟨"com/example/rallypoint/rallypoint/server/LogEntry$TreeChanged", "zxid", "()J"⟩ : MethodName)) hown (mvT hZ (hw _ (List.mem_of_getElem? (i := 104) rfl))) (mvT hZ (hw _ (List.mem_of_getElem? (i := 105) rfl))) (notFace_of_selects (args := #[]) (mvT hZ (hw _ (List.mem_of_getElem? (i := 107) rfl)))) (mvT hZ (hw _ (List.mem_of_getElem? (i := 107) rfl))) (mvT hZ (hw _ (List.mem_of_getElem? (i := 106) rfl))) (by decide) (backOf (W := 0) (rmT_zxid l Z a0 hw [] (b22) (p0) h24 n0 Zn24 (G23x0_24)) hZ (hw _ (List.mem_of_getElem? (i := 108) rfl)) (hw _ (List.mem_of_getElem? (i := 79) rfl)) (by decide) (by decide)) q31a q31c (g := (mkF m 236 #[.val (.long p0), .second, .val (.long p1), .second, .val (.long p2), .second, .val (.long p3), .second, .val (.long p4), .second, .val (.int p5), .val (.int (1 : Int32)), .val (.ref b1), .val (.ref b3), .val (.ref b5), .val (.ref b22), .val (.ref b24), .val (.ref b5), .val (.int (1 : Int32)), .val (.int (1 : Int32)), .unset] [(.ref b22)])) rfl (by rw [hml]; rfl) (Steps.refl _) (argsL := []) (rest := []) (lenOf own_pd1 rfl) rfl (by show 2 * 0 + _ ≤ _; exact Nat.le_of_eq rfl) (hb hby at_236) (fun _ _ => ⟨rfl, e30, (by decide : 6 + 0 ≤ _), (by decide : 25 + 0 ≤ _)⟩)
    dsimp only [Pt.U, Pt.locs, Pt.cells, Pt.slots] at X31 l31 y31 z31 st31 hQ31
    subst l31 y31 z31
    have X31 : Stand p l e room_1 s m _ below meth c T31 _ 6 25 := X31
    obtain ⟨rfl, Nq31, e31⟩ := hQ31
    have N31 := Fr.app N30 Nq31
    refine OGo.st (T' := T31) (g' := (mkF m 239 #[.val (.long p0), .second, .val (.long p1), .second, .val (.long p2), .second, .val (.long p3), .second, .val (.long p4), .second, .val (.int p5), .val (.int (1 : Int32)), .val (.ref b1), .val (.ref b3), .val (.ref b5), .val (.ref b22), .val (.ref b24), .val (.ref b5), .val (.int (1 : Int32)), .val (.int (1 : Int32)), .unset] [(.long p0)])) (fun _ k => st31.trans k) ?_
    refine OGo.st (T' := T31) (g' := (mkF m 246 #[.val (.long p0), .second, .val (.long p1), .second, .val (.long p2), .second, .val (.long p3), .second, .val (.long p4), .second, .val (.int p5), .val (.int (1 : Int32)), .val (.ref b1), .val (.ref b3), .val (.ref b5), .val (.ref b22), .val (.ref b24), .val (.ref b5), .val (.int (1 : Int32)), .val (.int (1 : Int32)), .unset] [(.ref b22)])) (fun _ k => (XS.lloadN X31.here hx rfl (hb hby at_239) rfl (XS.lcmp X31.here hx rfl (hb hby at_240) rfl (XS.ifNo X31.here hx rfl (hb hby at_241) rfl ((if0 _ _).trans (teq ((lw_eq p0 p0).mpr (rfl : p0 = p0))).2) (XS.aload X31.here hx rfl (hb hby at_244) rfl rfl k))))) ?_
    obtain ⟨cq32, kq32, q32a, q32b, q32c⟩ := isOf hZ e31 A22_24
    obtain ⟨_, _, ⟨T32, L32, k32, n32⟩, -, X32, ⟨Lc32, hQ32, l32, y32, z32⟩, st32⟩ := X31.virtualBack hx (y := (⟨"com/example/rallypoint/rallypoint/server/LogEntry$TreeChanged", "time", "()J"⟩ : MethodName)) (z := (⟨"com/example/rallypoint/rallypoint/server/LogEntry$TreeChanged", "time", "()J"⟩ : MethodName)) hown (mvT hZ (hw _ (List.mem_of_getElem? (i := 109) rfl))) (mvT hZ (hw _ (List.mem_of_getElem? (i := 110) rfl))) (notFace_of_selects (args := #[]) (mvT hZ (hw _ (List.mem_of_getElem? (i := 112) rfl)))) (mvT hZ (hw _ (List.mem_of_getElem? (i := 112) rfl))) (mvT hZ (hw _ (List.mem_of_getElem? (i := 111) rfl))) (by decide) (backOf (W := 0) (rmT_time l Z a0 hw [] (b22) (p1) h24 n0 Zn24 (G23x1_24)) hZ (hw _ (List.mem_of_getElem? (i := 113) rfl)) (hw _ (List.mem_of_getElem? (i := 79) rfl)) (by decide) (by decide)) q32a q32c (g := (mkF m 246 #[.val (.long p0), .second, .val (.long p1), .second, .val (.long p2), .second, .val (.long p3), .second, .val (.long p4), .second, .val (.int p5), .val (.int (1 : Int32)), .val (.ref b1), .val (.ref b3), .val (.ref b5), .val (.ref b22), .val (.ref b24), .val (.ref b5), .val (.int (1 : Int32)), .val (.int (1 : Int32)), .unset] [(.ref b22)])) rfl (by rw [hml]; rfl) (Steps.refl _) (argsL := []) (rest := []) (lenOf own_pd1 rfl) rfl (by show 2 * 0 + _ ≤ _; exact Nat.le_of_eq rfl) (hb hby at_246) (fun _ _ => ⟨rfl, e31, (by decide : 6 + 0 ≤ _), (by decide : 25 + 0 ≤ _)⟩)
    dsimp only [Pt.U, Pt.locs, Pt.cells, Pt.slots] at X32 l32 y32 z32 st32 hQ32
    subst l32 y32 z32
    have X32 : Stand p l e room_1 s m _ below meth c T32 _ 6 25 := X32
    obtain ⟨rfl, Nq32, e32⟩ := hQ32
    have N32 := Fr.app N31 Nq32
    refine OGo.st (T' := T32) (g' := (mkF m 249 #[.val (.long p0), .second, .val (.long p1), .second, .val (.long p2), .second, .val (.long p3), .second, .val (.long p4), .second, .val (.int p5), .val (.int (1 : Int32)), .val (.ref b1), .val (.ref b3), .val (.ref b5), .val (.ref b22), .val (.ref b24), .val (.ref b5), .val (.int (1 : Int32)), .val (.int (1 : Int32)), .unset] [(.long p1)])) (fun _ k => st32.trans k) ?_
    refine OGo.st (T' := T32) (g' := (mkF m 256 #[.val (.long p0), .second, .val (.long p1), .second, .val (.long p2), .second, .val (.long p3), .second, .val (.long p4), .second, .val (.int p5), .val (.int (1 : Int32)), .val (.ref b1), .val (.ref b3), .val (.ref b5), .val (.ref b22), .val (.ref b24), .val (.ref b5), .val (.int (1 : Int32)), .val (.int (1 : Int32)), .unset] [(.ref b22)])) (fun _ k => (XS.lloadN X32.here hx rfl (hb hby at_249) rfl (XS.lcmp X32.here hx rfl (hb hby at_250) rfl (XS.ifNo X32.here hx rfl (hb hby at_251) rfl ((if0 _ _).trans (teq ((lw_eq p1 p1).mpr (rfl : p1 = p1))).2) (XS.aload X32.here hx rfl (hb hby at_254) rfl rfl k))))) ?_
    obtain ⟨cq33, kq33, q33a, q33b, q33c⟩ := isOf hZ e32 A22_24
    obtain ⟨_, _, ⟨T33, L33, k33, n33⟩, -, X33, ⟨Lc33, hQ33, l33, y33, z33⟩, st33⟩ := X32.virtualBack hx (y := (⟨"com/example/rallypoint/rallypoint/server/LogEntry$TreeChanged", "session", "()J"⟩ : MethodName)) (z := (⟨"com/example/rallypoint/rallypoint/server/LogEntry$TreeChanged", "session", "()J"⟩ : MethodName)) hown (mvT hZ (hw _ (List.mem_of_getElem? (i := 114) rfl))) (mvT hZ (hw _ (List.mem_of_getElem? (i := 115) rfl))) (notFace_of_selects (args := #[]) (mvT hZ (hw _ (List.mem_of_getElem? (i := 117) rfl)))) (mvT hZ (hw _ (List.mem_of_getElem? (i := 117) rfl))) (mvT hZ (hw _ (List.mem_of_getElem? (i := 116) rfl))) (by decide) (backOf (W := 0) (rmT_session l Z a0 hw [] (b22) (p2) h24 n0 Zn24 (G23x2_24)) hZ (hw _ (List.mem_of_getElem? (i := 118) rfl)) (hw _ (List.mem_of_getElem? (i := 79) rfl)) (by decide) (by decide)) q33a q33c (g := (mkF m 256 #[.val (.long p0), .second, .val (.long p1), .second, .val (.long p2), .second, .val (.long p3), .second, .val (.long p4), .second, .val (.int p5), .val (.int (1 : Int32)), .val (.ref b1), .val (.ref b3), .val (.ref b5), .val (.ref b22), .val (.ref b24), .val (.ref b5), .val (.int (1 : Int32)), .val (.int (1 : Int32)), .unset] [(.ref b22)])) rfl (by rw [hml]; rfl) (Steps.refl _) (argsL := []) (rest := []) (lenOf own_pd1 rfl) rfl (by show 2 * 0 + _ ≤ _; exact Nat.le_of_eq rfl) (hb hby at_256) (fun _ _ => ⟨rfl, e32, (by decide : 6 + 0 ≤ _), (by decide : 25 + 0 ≤ _)⟩)
    dsimp only [Pt.U, Pt.locs, Pt.cells, Pt.slots] at X33 l33 y33 z33 st33 hQ33
    subst l33 y33 z33
    have X33 : Stand p l e room_1 s m _ below meth c T33 _ 6 25 := X33
    obtain ⟨rfl, Nq33, e33⟩ := hQ33
    have N33 := Fr.app N32 Nq33
    refine OGo.st (T' := T33) (g' := (mkF m 259 #[.val (.long p0), .second, .val (.long p1), .second, .val (.long p2), .second, .val (.long p3), .second, .val (.long p4), .second, .val (.int p5), .val (.int (1 : Int32)), .val (.ref b1), .val (.ref b3), .val (.ref b5), .val (.ref b22), .val (.ref b24), .val (.ref b5), .val (.int (1 : Int32)), .val (.int (1 : Int32)), .unset] [(.long p2)])) (fun _ k => st33.trans k) ?_
    refine OGo.st (T' := T33) (g' := (mkF m 267 #[.val (.long p0), .second, .val (.long p1), .second, .val (.long p2), .second, .val (.long p3), .second, .val (.long p4), .second, .val (.int p5), .val (.int (1 : Int32)), .val (.ref b1), .val (.ref b3), .val (.ref b5), .val (.ref b22), .val (.ref b24), .val (.ref b5), .val (.int (1 : Int32)), .val (.int (1 : Int32)), .unset] [(.ref b22)])) (fun _ k => (XS.lload X33.here hx rfl (hb hby at_259) rfl (XS.lcmp X33.here hx rfl (hb hby at_261) rfl (XS.ifNo X33.here hx rfl (hb hby at_262) rfl ((if0 _ _).trans (teq ((lw_eq p2 p2).mpr (rfl : p2 = p2))).2) (XS.aload X33.here hx rfl (hb hby at_265) rfl rfl k))))) ?_
    obtain ⟨cq34, kq34, q34a, q34b, q34c⟩ := isOf hZ e33 A22_24
    obtain ⟨_, _, ⟨T34, L34, k34, n34⟩, -, X34, ⟨Lc34, hQ34, l34, y34, z34⟩, st34⟩ := X33.virtualBack hx (y := (⟨"com/example/rallypoint/rallypoint/server/LogEntry$TreeChanged", "ops", "()Ljava/util/List;"⟩ : MethodName)) (z := (⟨"com/example/rallypoint/rallypoint/server/LogEntry$TreeChanged", "ops", "()Ljava/util/List;"⟩ : MethodName)) hown (mvT hZ (hw _ (List.mem_of_getElem? (i := 99) rfl))) (mvT hZ (hw _ (List.mem_of_getElem? (i := 100) rfl))) (notFace_of_selects (args := #[]) (mvT hZ (hw _ (List.mem_of_getElem? (i := 102) rfl)))) (mvT hZ (hw _ (List.mem_of_getElem? (i := 102) rfl))) (mvT hZ (hw _ (List.mem_of_getElem? (i := 101) rfl))) (by decide) (backOf (W := 0) (rmT_ops l Z a0 hw [] (b22) (b5) h24 n0 Zn24 (G23x3_24)) hZ (hw _ (List.mem_of_getElem? (i := 103) rfl)) (hw _ (List.mem_of_getElem? (i := 79) rfl)) (by decide) (by decide)) q34a q34c (g := (mkF m 267 #[.val (.long p0), .second, .val (.long p1), .second, .val (.long p2), .second, .val (.long p3), .second, .val (.long p4), .second, .val (.int p5), .val (.int (1 : Int32)), .val (.ref b1), .val (.ref b3), .val (.ref b5), .val (.ref b22), .val (.ref b24), .val (.ref b5), .val (.int (1 : Int32)), .val (.int (1 : Int32)), .unset] [(.ref b22)])) rfl (by rw [hml]; rfl) (Steps.refl _) (argsL := []) (rest := []) (lenOf own_pd2 rfl) rfl (by show 2 * 0 + _ ≤ _; exact Nat.le_of_eq rfl) (hb hby at_267) (fun _ _ => ⟨rfl, e33, (by decide : 6 + 0 ≤ _), (by decide : 25 + 0 ≤ _)⟩)
    dsimp only [Pt.U, Pt.locs, Pt.cells, Pt.slots] at X34 l34 y34 z34 st34 hQ34
    subst l34 y34 z34
    have X34 : Stand p l e room_1 s m _ below meth c T34 _ 6 25 := X34
    obtain ⟨rfl, Nq34, e34⟩ := hQ34
    have N34 := Fr.app N33 Nq34
    refine OGo.st (T' := T34) (g' := (mkF m 270 #[.val (.long p0), .second, .val (.long p1), .second, .val (.long p2), .second, .val (.long p3), .second, .val (.long p4), .second, .val (.int p5), .val (.int (1 : Int32)), .val (.ref b1), .val (.ref b3), .val (.ref b5), .val (.ref b22), .val (.ref b24), .val (.ref b5), .val (.int (1 : Int32)), .val (.int (1 : Int32)), .unset] [(.ref b5)])) (fun _ k => st34.trans k) ?_
    refine OGo.st (T' := T34) (g' := (mkF m 272 #[.val (.long p0), .second, .val (.long p1), .second, .val (.long p2), .second, .val (.long p3), .second, .val (.long p4), .second, .val (.int p5), .val (.int (1 : Int32)), .val (.ref b1), .val (.ref b3), .val (.ref b5), .val (.ref b22), .val (.ref b24), .val (.ref b5), .val (.int (1 : Int32)), .val (.int (1 : Int32)), .unset] [(.ref b5), (.ref b5)])) (fun _ k => (XS.aload X34.here hx rfl (hb hby at_270) rfl rfl k)) ?_
    refine OGo.st (T' := T34) (g' := (mkF m 277 #[.val (.long p0), .second, .val (.long p1), .second, .val (.long p2), .second, .val (.long p3), .second, .val (.long p4), .second, .val (.int p5), .val (.int (1 : Int32)), .val (.ref b1), .val (.ref b3), .val (.ref b5), .val (.ref b22), .val (.ref b24), .val (.ref b5), .val (.int (1 : Int32)), .val (.int (1 : Int32)), .unset] [(.ref b5)])) (fun _ k => (Jvm.RoadKit.acmp (g := (mkF m 272 #[.val (.long p0), .second, .val (.long p1), .second, .val (.long p2), .second, .val (.long p3), .second, .val (.long p4), .second, .val (.int p5), .val (.int (1 : Int32)), .val (.ref b1), .val (.ref b3), .val (.ref b5), .val (.ref b22), .val (.ref b24), .val (.ref b5), .val (.int (1 : Int32)), .val (.int (1 : Int32)), .unset] [(.ref b5), (.ref b5)])) X34 hx rfl rfl rfl (pc0 := 272) (pc' := 275) (same := true) rfl (hb hby at_272) rfl (decide_eq_true rfl) (by decide) (by decide) (XS.aload X34.here hx rfl (hb hby at_275) rfl rfl k))) ?_
    obtain ⟨cq35, kq35, q35a, q35b, q35c⟩ := isOf hZ e34 A5_24
    obtain ⟨_, _, ⟨T35, L35, k35, n35⟩, -, X35, ⟨Lc35, hQ35, l35, y35, z35⟩, st35⟩ := X34.interfaceBack hx (xi := (⟨"java/util/List", "size", "()I"⟩ : MethodName)) (y := (⟨"java/util/ArrayList", "size", "()I"⟩ : MethodName)) hown (mvT hZ (hw _ (List.mem_of_getElem? (i := 119) rfl))) (mvT hZ (hw _ (List.mem_of_getElem? (i := 120) rfl))) (mvT hZ (hw _ (List.mem_of_getElem? (i := 121) rfl))) (mvT hZ (hw _ (List.mem_of_getElem? (i := 122) rfl))) (mvT hZ (hw _ (List.mem_of_getElem? (i := 123) rfl))) (mvT hZ (hw _ (List.mem_of_getElem? (i := 124) rfl))) (mvT hZ (hw _ (List.mem_of_getElem? (i := 125) rfl))) (mvT hZ (hw _ (List.mem_of_getElem? (i := 49) rfl))) (by decide) (backOf (W := 0) (rmSz l Z a0 hw [] (b5) ((1 : Int32)) h24 n0 Zn24 (G21x2_24)) hZ (hw _ (List.mem_of_getElem? (i := 126) rfl)) (hw _ (List.mem_of_getElem? (i := 20) rfl)) (by decide) (by decide)) q35a q35b q35c (g := (mkF m 277 #[.val (.long p0), .second, .val (.long p1), .second, .val (.long p2), .second, .val (.long p3), .second, .val (.long p4), .second, .val (.int p5), .val (.int (1 : Int32)), .val (.ref b1), .val (.ref b3), .val (.ref b5), .val (.ref b22), .val (.ref b24), .val (.ref b5), .val (.int (1 : Int32)), .val (.int (1 : Int32)), .unset] [(.ref b5)])) rfl (by rw [hml]; rfl) (Steps.refl _) (argsL := []) (rest := []) (lenOf own_pd0 rfl) rfl (by show 2 * 0 + _ ≤ _; exact Nat.le_of_eq rfl) (hb hby at_277) (fun _ _ => ⟨rfl, e34, (by decide : 6 + 0 ≤ _), (by decide : 25 + 0 ≤ _)⟩)
    dsimp only [Pt.U, Pt.locs, Pt.cells, Pt.slots] at X35 l35 y35 z35 st35 hQ35
    subst l35 y35 z35
    have X35 : Stand p l e room_1 s m _ below meth c T35 _ 6 25 := X35
    obtain ⟨rfl, Nq35, e35⟩ := hQ35
    have N35 := Fr.app N34 Nq35
    refine OGo.st (T' := T35) (g' := (mkF m 282 #[.val (.long p0), .second, .val (.long p1), .second, .val (.long p2), .second, .val (.long p3), .second, .val (.long p4), .second, .val (.int p5), .val (.int (1 : Int32)), .val (.ref b1), .val (.ref b3), .val (.ref b5), .val (.ref b22), .val (.ref b24), .val (.ref b5), .val (.int (1 : Int32)), .val (.int (1 : Int32)), .unset] [(.int (1 : Int32))])) (fun _ k => st35.trans k) ?_
    refine OGo.st (T' := T35) (g' := (mkF m 296 #[.val (.long p0), .second, .val (.long p1), .second, .val (.long p2), .second, .val (.long p3), .second, .val (.long p4), .second, .val (.int p5), .val (.int (1 : Int32)), .val (.ref b1), .val (.ref b3), .val (.ref b5), .val (.ref b22), .val (.ref b24), .val (.ref b5), .val (.int (1 : Int32)), .val (.int (1 : Int32)), .val (.int (1 : Int32))] [(.int (1 : Int32))])) (fun _ k => (XS.iload X35.here hx rfl (hb hby at_282) rfl (XS.icmpNo X35.here hx rfl (hb hby at_284) rfl (teq (by decide : (1 : Int32) = (1 : Int32))).2 (XS.iconst X35.here hx rfl (hb hby at_287) (XS.goto X35.here hx rfl (pc0 := 288) (pc' := 292) rfl (hb hby at_288) (by decide) (by decide) (XS.istore X35.here hx rfl (hb hby at_292) rfl (l' := #[.val (.long p0), .second, .val (.long p1), .second, .val (.long p2), .second, .val (.long p3), .second, .val (.long p4), .second, .val (.int p5), .val (.int (1 : Int32)), .val (.ref b1), .val (.ref b3), .val (.ref b5), .val (.ref b22), .val (.ref b24), .val (.ref b5), .val (.int (1 : Int32)), .val (.int (1 : Int32)), .val (.int (1 : Int32))]) rfl (XS.iload X35.here hx rfl (hb hby at_294) rfl k))))))) ?_
    refine OGo.st (T' := T35) (g' := (mkF m 310 #[.val (.long p0), .second, .val (.long p1), .second, .val (.long p2), .second, .val (.long p3), .second, .val (.long p4), .second, .val (.int p5), .val (.int (1 : Int32)), .val (.ref b1), .val (.ref b3), .val (.ref b5), .val (.ref b22), .val (.ref b24), .val (.ref b5), .val (.int (1 : Int32)), .val (.int (1 : Int32)), .val (.int (1 : Int32))] [(.int (1 : Int32))])) (fun _ k => (XS.ifNo X35.here hx rfl (hb hby at_296) rfl ((if0 _ _).trans (feq (by decide : ¬ ((1 : Int32) = (0 : Int32)))).1) (XS.iload X35.here hx rfl (hb hby at_299) rfl (XS.ifNo X35.here hx rfl (hb hby at_301) rfl ((if0 _ _).trans (feq (by decide : ¬ ((1 : Int32) = (0 : Int32)))).1) (XS.iload X35.here hx rfl (hb hby at_304) rfl (XS.ifNo X35.here hx rfl (hb hby at_306) rfl ((if0 _ _).trans (feq (by decide : ¬ ((1 : Int32) = (0 : Int32)))).1) (XS.iconst X35.here hx rfl (hb hby at_309) k))))))) ?_
    refine OGo.st (T' := T35) (g' := (mkF m 314 #[.val (.long p0), .second, .val (.long p1), .second, .val (.long p2), .second, .val (.long p3), .second, .val (.long p4), .second, .val (.int p5), .val (.int (1 : Int32)), .val (.ref b1), .val (.ref b3), .val (.ref b5), .val (.ref b22), .val (.ref b24), .val (.ref b5), .val (.int (1 : Int32)), .val (.int (1 : Int32)), .val (.int (1 : Int32))] [(.int (1 : Int32))])) (fun _ k => (XS.goto X35.here hx rfl (pc0 := 310) (pc' := 314) rfl (hb hby at_310) (by decide) (by decide) k)) ?_
    exact OGo.ret X35 hx hlk Bd.returns rfl (own_rI (Or.inr (Or.inl rfl))) (hb hby at_314) (by decide) (by decide) e35 (⟨rfl, N35⟩)
  · rw [hl7]
    refine OGo.st (T' := T6) (g' := (mkF m 47 #[.val (.long p0), .second, .val (.long p1), .second, .val (.long p2), .second, .val (.long p3), .second, .val (.long p4), .second, .val (.int p5), .val (.int (2 : Int32)), .val (.ref b1), .val (.ref b3), .val (.ref b5), .unset, .unset, .unset, .unset, .unset, .unset] [(.ref b1), (.ref b5)])) (fun _ k => (XS.iload X6.here hx rfl (hb hby at_37) rfl (XS.iconst X6.here hx rfl (hb hby at_39) (XS.icmpNo X6.here hx rfl (hb hby at_40) rfl (flt (by decide : ¬ ((2 : Int32) < (1 : Int32)))).1 (XS.aload X6.here hx rfl (hb hby at_43) rfl rfl (XS.aload X6.here hx rfl (hb hby at_45) rfl rfl k)))))) ?_
    obtain ⟨cq36, kq36, q36a, q36b, q36c⟩ := isOf hZ e6 A5_6
    obtain ⟨_, _, ⟨T36, L36, k36, n36⟩, -, X36, ⟨Lc36, hQ36, l36, y36, z36⟩, st36⟩ := X6.interfaceBack hx (xi := (⟨"java/util/List", "add", "(Ljava/lang/Object;)Z"⟩ : MethodName)) (y := (⟨"java/util/ArrayList", "add", "(Ljava/lang/Object;)Z"⟩ : MethodName)) hown (mvT hZ (hw _ (List.mem_of_getElem? (i := 42) rfl))) (mvT hZ (hw _ (List.mem_of_getElem? (i := 43) rfl))) (mvT hZ (hw _ (List.mem_of_getElem? (i := 44) rfl))) (mvT hZ (hw _ (List.mem_of_getElem? (i := 45) rfl))) (mvT hZ (hw _ (List.mem_of_getElem? (i := 46) rfl))) (mvT hZ (hw _ (List.mem_of_getElem? (i := 47) rfl))) (mvT hZ (hw _ (List.mem_of_getElem? (i := 48) rfl))) (mvT hZ (hw _ (List.mem_of_getElem? (i := 49) rfl))) (by decide) (backOf (W := 0) (rmAd0 l Z a0 hw [] (b5) ((0 : Int32)) (b1) (ed) h6 n0 Zn6 (A5_6) (G6x0) (G6x1) (G6x2) (A1_6) (g_b5) ((Ne.symm ne_b1_b5)) (OLD_6) (S_ed) (A_ed)) hZ (hw _ (List.mem_of_getElem? (i := 50) rfl)) (hw _ (List.mem_of_getElem? (i := 20) rfl)) (by decide) (by decide)) q36a q36b q36c (g := (mkF m 47 #[.val (.long p0), .second, .val (.long p1), .second, .val (.long p2), .second, .val (.long p3), .second, .val (.long p4), .second, .val (.int p5), .val (.int (2 : Int32)), .val (.ref b1), .val (.ref b3), .val (.ref b5), .unset, .unset, .unset, .unset, .unset, .unset] [(.ref b1), (.ref b5)])) rfl (by rw [hml]; rfl) (Steps.refl _) (argsL := [(.ref b1)]) (rest := []) (lenOf own_pd13 rfl) rfl (by show 2 * 0 + _ ≤ _; exact Nat.le_of_eq rfl) (hb hby at_47) (fun _ _ => ⟨rfl, e6, (by decide : 3 + 1 ≤ _), (by decide : 7 + 10 ≤ _)⟩)
    dsimp only [Pt.U, Pt.locs, Pt.cells, Pt.slots] at X36 l36 y36 z36 st36 hQ36
    subst l36 y36 z36
    have X36 : Stand p l e room_1 s m _ below meth c T36 _ 4 17 := X36
    obtain ⟨h36, e36⟩ : ∃ z, T36.heap = z := ⟨_, rfl⟩
    rw [e36] at hQ36
    obtain ⟨b36, rfl, Nq36, Kc36, sz_b36, G36x0, G36x1, G36x2, G36x3⟩ := hQ36
    have N36 := Fr.app N6 Nq36
    have ne_ed_b36 : ed ≠ b36 := Nat.ne_of_lt (Nat.lt_of_lt_of_le (A_ed.ext OLD_6.2).lt sz_b36)
    have ne_b1_b36 : b1 ≠ b36 := Nat.ne_of_lt (Nat.lt_of_lt_of_le A1_6.lt sz_b36)
    have ne_b3_b36 : b3 ≠ b36 := Nat.ne_of_lt (Nat.lt_of_lt_of_le A3_6.lt sz_b36)
    have ne_b5_b36 : b5 ≠ b36 := Nat.ne_of_lt (Nat.lt_of_lt_of_le A5_6.lt sz_b36)
    have g_b36 : n0 ≤ b36 := Nat.le_trans Zn6 sz_b36
    have OLD_36 : Old Z n0 h36 := OLD_6.keep Kc36 (allS g_b5 all0)
    have A1_36 : Exa Z h36 b1 "com/example/rallypoint/rallypoint/protocol/MultiRequest$Op" := A1_6.keep Kc36
    have G2x0_36 : Fld Z h36 b1 "com/example/rallypoint/rallypoint/protocol/MultiRequest$Op" "op" "Lcom/example/rallypoint/rallypoint/protocol/OpCode;" .null := G2x0_6.keep Kc36 (ninS ne_b1_b5 nin0)
    have G2x1_36 : Fld Z h36 b1 "com/example/rallypoint/rallypoint/protocol/MultiRequest$Op" "body" "Lcom/example/rallypoint/rallypoint/protocol/RequestBody;" .null := G2x1_6.keep Kc36 (ninS ne_b1_b5 nin0)
    have A3_36 : Exa Z h36 b3 "com/example/rallypoint/rallypoint/protocol/MultiRequest$Op" := A3_6.keep Kc36
    have G4x0_36 : Fld Z h36 b3 "com/example/rallypoint/rallypoint/protocol/MultiRequest$Op" "op" "Lcom/example/rallypoint/rallypoint/protocol/OpCode;" .null := G4x0_6.keep Kc36 (ninS ne_b3_b5 nin0)
    have G4x1_36 : Fld Z h36 b3 "com/example/rallypoint/rallypoint/protocol/MultiRequest$Op" "body" "Lcom/example/rallypoint/rallypoint/protocol/RequestBody;" .null := G4x1_6.keep Kc36 (ninS ne_b3_b5 nin0)
    have A5_36 : Exa Z h36 b5 "java/util/ArrayList" := A5_6.keep Kc36
    have Zn36 : n0 ≤ h36.size := Nat.le_trans Zn6 Kc36.1
    refine OGo.st (T' := T36) (g' := (mkF m 52 #[.val (.long p0), .second, .val (.long p1), .second, .val (.long p2), .second, .val (.long p3), .second, .val (.long p4), .second, .val (.int p5), .val (.int (2 : Int32)), .val (.ref b1), .val (.ref b3), .val (.ref b5), .unset, .unset, .unset, .unset, .unset, .unset] [(.int (1 : Int32))])) (fun _ k => st36.trans k) ?_
    refine OGo.st (T' := T36) (g' := (mkF m 63 #[.val (.long p0), .second, .val (.long p1), .second, .val (.long p2), .second, .val (.long p3), .second, .val (.long p4), .second, .val (.int p5), .val (.int (2 : Int32)), .val (.ref b1), .val (.ref b3), .val (.ref b5), .unset, .unset, .unset, .unset, .unset, .unset] [(.ref b3), (.ref b5)])) (fun _ k => (XS.pop X36.here hx rfl (hb hby at_52) rfl rfl (XS.iload X36.here hx rfl (hb hby at_53) rfl (XS.iconst X36.here hx rfl (hb hby at_55) (XS.icmpNo X36.here hx rfl (hb hby at_56) rfl (flt (by decide : ¬ ((2 : Int32) < (2 : Int32)))).1 (XS.aload X36.here hx rfl (hb hby at_59) rfl rfl (XS.aload X36.here hx rfl (hb hby at_61) rfl rfl k))))))) ?_
    obtain ⟨cq37, kq37, q37a, q37b, q37c⟩ := isOf hZ e36 A5_36
    obtain ⟨_, _, ⟨T37, L37, k37, n37⟩, -, X37, ⟨Lc37, hQ37, l37, y37, z37⟩, st37⟩ := X36.interfaceBack hx (xi := (⟨"java/util/List", "add", "(Ljava/lang/Object;)Z"⟩ : MethodName)) (y := (⟨"java/util/ArrayList", "add", "(Ljava/lang/Object;)Z"⟩ : MethodName)) hown (mvT hZ (hw _ (List.mem_of_getElem? (i := 42) rfl))) (mvT hZ (hw _ (List.mem_of_getElem? (i := 43) rfl))) (mvT hZ (hw _ (List.mem_of_getElem? (i := 44) rfl))) (mvT hZ (hw _ (List.mem_of_getElem? (i := 45) rfl))) (mvT hZ (hw _ (List.mem_of_getElem? (i := 46) rfl))) (mvT hZ (hw _ (List.mem_of_getElem? (i := 47) rfl))) (mvT hZ (hw _ (List.mem_of_getElem? (i := 48) rfl))) (mvT hZ (hw _ (List.mem_of_getElem? (i := 49) rfl))) (by decide) (backOf (W := 0) (rmAd1 l Z a0 hw [] (b5) (((0 : Int32) + (1 : Int32))) (b3) (b36) (b1) h36 n0 Zn36 (A5_36) (G36x0) (G36x1) (G36x2) (A3_36) (G36x3) (g_b5) (g_b36) ((Ne.symm ne_b3_b5)) (ne_b5_b36) (ne_b3_b36)) hZ (hw _ (List.mem_of_getElem? (i := 50) rfl)) (hw _ (List.mem_of_getElem? (i := 20) rfl)) (by decide) (by decide)) q37a q37b q37c (g := (mkF m 63 #[.val (.long p0), .second, .val (.long p1), .second, .val (.long p2), .second, .val (.long p3), .second, .val (.long p4), .second, .val (.int p5), .val (.int (2 : Int32)), .val (.ref b1), .val (.ref b3), .val (.ref b5), .unset, .unset, .unset, .unset, .unset, .unset] [(.ref b3), (.ref b5)])) rfl (by rw [hml]; rfl) (Steps.refl _) (argsL := [(.ref b3)]) (rest := []) (lenOf own_pd13 rfl) rfl (by show 2 * 0 + _ ≤ _; exact Nat.le_of_eq rfl) (hb hby at_63) (fun _ _ => ⟨rfl, e36, (by decide : 4 + 0 ≤ _), (by decide : 17 + 0 ≤ _)⟩)
    dsimp only [Pt.U, Pt.locs, Pt.cells, Pt.slots] at X37 l37 y37 z37 st37 hQ37
    subst l37 y37 z37
    have X37 : Stand p l e room_1 s m _ below meth c T37 _ 4 17 := X37
    obtain ⟨h37, e37⟩ : ∃ z, T37.heap = z := ⟨_, rfl⟩
    rw [e37] at hQ37
    obtain ⟨rfl, Nq37, Kc37, G37x0, G37x1, G37x2, G37x3⟩ := hQ37
    have N37 := Fr.app N36 Nq37
    have OLD_37 : Old Z n0 h37 := OLD_36.keep Kc37 (allS g_b5 (allS g_b36 all0))
    have A1_37 : Exa Z h37 b1 "com/example/rallypoint/rallypoint/protocol/MultiRequest$Op" := A1_36.keep Kc37
    have G2x0_37 : Fld Z h37 b1 "com/example/rallypoint/rallypoint/protocol/MultiRequest$Op" "op" "Lcom/example/rallypoint/rallypoint/protocol/OpCode;" .null := G2x0_36.keep Kc37 (ninS ne_b1_b5 (ninS ne_b1_b36 nin0))
    have G2x1_37 : Fld Z h37 b1 "com/example/rallypoint/rallypoint/protocol/MultiRequest$Op" "body" "Lcom/example/rallypoint/rallypoint/protocol/RequestBody;" .null := G2x1_36.keep Kc37 (ninS ne_b1_b5 (ninS ne_b1_b36 nin0))
    have A3_37 : Exa Z h37 b3 "com/example/rallypoint/rallypoint/protocol/MultiRequest$Op" := A3_36.keep Kc37
    have G4x0_37 : Fld Z h37 b3 "com/example/rallypoint/rallypoint/protocol/MultiRequest$Op" "op" "Lcom/example/rallypoint/rallypoint/protocol/OpCode;" .null := G4x0_36.keep Kc37 (ninS ne_b3_b5 (ninS ne_b3_b36 nin0))
    have G4x1_37 : Fld Z h37 b3 "com/example/rallypoint/rallypoint/protocol/MultiRequest$Op" "body" "Lcom/example/rallypoint/rallypoint/protocol/RequestBody;" .null := G4x1_36.keep Kc37 (ninS ne_b3_b5 (ninS ne_b3_b36 nin0))
    have A5_37 : Exa Z h37 b5 "java/util/ArrayList" := A5_36.keep Kc37
    have Zn37 : n0 ≤ h37.size := Nat.le_trans Zn36 Kc37.1
    refine OGo.st (T' := T37) (g' := (mkF m 68 #[.val (.long p0), .second, .val (.long p1), .second, .val (.long p2), .second, .val (.long p3), .second, .val (.long p4), .second, .val (.int p5), .val (.int (2 : Int32)), .val (.ref b1), .val (.ref b3), .val (.ref b5), .unset, .unset, .unset, .unset, .unset, .unset] [(.int (1 : Int32))])) (fun _ k => st37.trans k) ?_
    refine OGo.st (T' := T37) (g' := (mkF m 85 #[.val (.long p0), .second, .val (.long p1), .second, .val (.long p2), .second, .val (.long p3), .second, .val (.long p4), .second, .val (.int p5), .val (.int (2 : Int32)), .val (.ref b1), .val (.ref b3), .val (.ref b5), .unset, .unset, .unset, .unset, .unset, .unset] [])) (fun _ k => (XS.pop X37.here hx rfl (hb hby at_68) rfl rfl (XS.iload X37.here hx rfl (hb hby at_69) rfl (XS.iconst X37.here hx rfl (hb hby at_71) (XS.icmpYes X37.here hx rfl (pc0 := 72) (pc' := 85) rfl (hb hby at_72) rfl (tlt (by decide : (2 : Int32) < (3 : Int32))).1 (by decide) (by decide) k))))) ?_
    obtain ⟨T38, h38, X38, e38, E38, A38, D38, -, st38⟩ := newO X37 hx hZ hown (hw _ (List.mem_of_getElem? (i := 77) rfl)) (hw _ (List.mem_of_getElem? (i := 78) rfl)) (hw _ (List.mem_of_getElem? (i := 79) rfl)) e37 (g := (mkF m 85 #[.val (.long p0), .second, .val (.long p1), .second, .val (.long p2), .second, .val (.long p3), .second, .val (.long p4), .second, .val (.int p5), .val (.int (2 : Int32)), .val (.ref b1), .val (.ref b3), .val (.ref b5), .unset, .unset, .unset, .unset, .unset, .unset] [])) rfl (hb hby at_85) (by decide) (by decide)
    obtain ⟨b38, g38⟩ : ∃ z, z = h37.size := ⟨_, rfl⟩
    rw [← g38] at A38 D38 st38
    have ne_ed_b38 : ed ≠ b38 := Nat.ne_of_lt (Nat.lt_of_lt_of_le (A_ed.ext OLD_37.2).lt (Nat.le_of_eq g38.symm))
    have ne_b1_b38 : b1 ≠ b38 := Nat.ne_of_lt (Nat.lt_of_lt_of_le A1_37.lt (Nat.le_of_eq g38.symm))
    have ne_b3_b38 : b3 ≠ b38 := Nat.ne_of_lt (Nat.lt_of_lt_of_le A3_37.lt (Nat.le_of_eq g38.symm))
    have ne_b5_b38 : b5 ≠ b38 := Nat.ne_of_lt (Nat.lt_of_lt_of_le A5_37.lt (Nat.le_of_eq g38.symm))
    have ne_b36_b38 : b36 ≠ b38 := Nat.ne_of_lt (Nat.lt_of_lt_of_le G37x3.lt (Nat.le_of_eq g38.symm))
    have g_b38 : n0 ≤ b38 := Nat.le_trans Zn37 (Nat.le_of_eq g38.symm)
    have F_zxid_b38_38 : Fld Z h38 b38 "com/example/rallypoint/rallypoint/server/LogEntry$TreeChanged" "zxid" "J" (.long (0 : Int64)) := D38 (Or.inr (hw _ (List.mem_of_getElem? (i := 85) rfl))) (ty := .long) (by decide)
    have F_time_b38_38 : Fld Z h38 b38 "com/example/rallypoint/rallypoint/server/LogEntry$TreeChanged" "time" "J" (.long (0 : Int64)) := D38 (Or.inr (hw _ (List.mem_of_getElem? (i := 87) rfl))) (ty := .long) (by decide)
    have F_session_b38_38 : Fld Z h38 b38 "com/example/rallypoint/rallypoint/server/LogEntry$TreeChanged" "session" "J" (.long (0 : Int64)) := D38 (Or.inr (hw _ (List.mem_of_getElem? (i := 89) rfl))) (ty := .long) (by decide)
    have F_ops_b38_38 : Fld Z h38 b38 "com/example/rallypoint/rallypoint/server/LogEntry$TreeChanged" "ops" "Ljava/util/List;" .null := D38 (Or.inr (hw _ (List.mem_of_getElem? (i := 91) rfl))) (ty := (.object "java/util/List")) (by decide)
    have OLD_38 : Old Z n0 h38 := OLD_37.ext E38
    have A1_38 : Exa Z h38 b1 "com/example/rallypoint/rallypoint/protocol/MultiRequest$Op" := A1_37.ext E38
    have G2x0_38 : Fld Z h38 b1 "com/example/rallypoint/rallypoint/protocol/MultiRequest$Op" "op" "Lcom/example/rallypoint/rallypoint/protocol/OpCode;" .null := G2x0_37.ext E38
    have G2x1_38 : Fld Z h38 b1 "com/example/rallypoint/rallypoint/protocol/MultiRequest$Op" "body" "Lcom/example/rallypoint/rallypoint/protocol/RequestBody;" .null := G2x1_37.ext E38
    have A3_38 : Exa Z h38 b3 "com/example/rallypoint/rallypoint/protocol/MultiRequest$Op" := A3_37.ext E38
    have G4x0_38 : Fld Z h38 b3 "com/example/rallypoint/rallypoint/protocol/MultiRequest$Op" "op" "Lcom/example/rallypoint/rallypoint/protocol/OpCode;" .null := G4x0_37.ext E38
    have G4x1_38 : Fld Z h38 b3 "com/example/rallypoint/rallypoint/protocol/MultiRequest$Op" "body" "Lcom/example/rallypoint/rallypoint/protocol/RequestBody;" .null := G4x1_37.ext E38
    have A5_38 : Exa Z h38 b5 "java/util/ArrayList" := A5_37.ext E38
    have G37x0_38 : Fld Z h38 b5 "java/util/AbstractList" "modCount" "I" (.int (((0 : Int32) + (1 : Int32)) + (1 : Int32))) := G37x0.ext E38
    have G37x1_38 : Fld Z h38 b5 "java/util/ArrayList" "elementData" "[Ljava/lang/Object;" (.ref b36) := G37x1.ext E38
    have G37x2_38 : Fld Z h38 b5 "java/util/ArrayList" "size" "I" (.int (2 : Int32)) := G37x2.ext E38
    have G37x3_38 : OArrR Z h38 b36 10 (own_L Value.null ([(.ref b1), (.ref b3), .null, .null, .null, .null, .null, .null, .null, .null] : List Value)) := G37x3.ext E38
    have Zn38 : n0 ≤ h38.size := Nat.le_trans Zn37 E38.1
    have X38 : Stand p l e room_1 s m _ below meth c T38 _ 5 21 := X38
    refine OGo.st (T' := T38) (g' := (mkF m 88 #[.val (.long p0), .second, .val (.long p1), .second, .val (.long p2), .second, .val (.long p3), .second, .val (.long p4), .second, .val (.int p5), .val (.int (2 : Int32)), .val (.ref b1), .val (.ref b3), .val (.ref b5), .unset, .unset, .unset, .unset, .unset, .unset] [(.ref b38)])) (fun _ k => st38 _ k) ?_
    refine OGo.st (T' := T38) (g' := (mkF m 95 #[.val (.long p0), .second, .val (.long p1), .second, .val (.long p2), .second, .val (.long p3), .second, .val (.long p4), .second, .val (.int p5), .val (.int (2 : Int32)), .val (.ref b1), .val (.ref b3), .val (.ref b5), .unset, .unset, .unset, .unset, .unset, .unset] [(.ref b5), (.long p2), (.long p1), (.long p0), (.ref b38), (.ref b38)])) (fun _ k => (XS.dup X38.here hx rfl (hb hby at_88) rfl rfl (XS.lloadN X38.here hx rfl (hb hby at_89) rfl (XS.lloadN X38.here hx rfl (hb hby at_90) rfl (XS.lload X38.here hx rfl (hb hby at_91) rfl (XS.aload X38.here hx rfl (hb hby at_93) rfl rfl k)))))) ?_
    obtain ⟨_, _, ⟨T39, L39, k39, n39⟩, -, X39, ⟨Lc39, hQ39, l39, y39, z39⟩, st39⟩ := X38.specialBack hx (y := (⟨"com/example/rallypoint/rallypoint/server/LogEntry$TreeChanged", "<init>", "(JJJLjava/util/List;)V"⟩ : MethodName)) rfl hown (mvT hZ (hw _ (List.mem_of_getElem? (i := 80) rfl))) (mvT hZ (hw _ (List.mem_of_getElem? (i := 81) rfl))) (mvT hZ (hw _ (List.mem_of_getElem? (i := 82) rfl))) (by decide) (backOf (W := 1) (rmTi l Z a0 hw [] (b38) ((0 : Int64)) ((0 : Int64)) ((0 : Int64)) (.null) (p0) (p1) (p2) (b5) h38 n0 Zn38 (A38) (F_zxid_b38_38) (F_time_b38_38) (F_session_b38_38) (F_ops_b38_38) (g_b38)) hZ (hw _ (List.mem_of_getElem? (i := 82) rfl)) (hw _ (List.mem_of_getElem? (i := 79) rfl)) (by decide) (by decide)) (g := (mkF m 95 #[.val (.long p0), .second, .val (.long p1), .second, .val (.long p2), .second, .val (.long p3), .second, .val (.long p4), .second, .val (.int p5), .val (.int (2 : Int32)), .val (.ref b1), .val (.ref b3), .val (.ref b5), .unset, .unset, .unset, .unset, .unset, .unset] [(.ref b5), (.long p2), (.long p1), (.long p0), (.ref b38), (.ref b38)])) rfl (by rw [hml]; rfl) (Steps.refl _) (a := b38) (argsL := [(.long p0), (.long p1), (.long p2), (.ref b5)]) (rest := [(.ref b38)]) (lenOf own_pd11 rfl) rfl (by show 2 * 0 + _ ≤ _; exact Nat.le_of_eq rfl) (hb hby at_95) (fun _ _ => ⟨rfl, e38, (by decide : 5 + 0 ≤ _), (by decide : 21 + 0 ≤ _)⟩)
    dsimp only [Pt.U, Pt.locs, Pt.cells, Pt.slots] at X39 l39 y39 z39 st39 hQ39
    subst l39 y39 z39
    have X39 : Stand p l e room_1 s m _ below meth c T39 _ 5 21 := X39
    obtain ⟨h39, e39⟩ : ∃ z, T39.heap = z := ⟨_, rfl⟩
    rw [e39] at hQ39
    obtain ⟨rfl, Nq39, Kc39, G39x0, G39x1, G39x2, G39x3⟩ := hQ39
    have N39 := Fr.app N37 Nq39
    have OLD_39 : Old Z n0 h39 := OLD_38.keep Kc39 (allS g_b38 all0)
    have A1_39 : Exa Z h39 b1 "com/example/rallypoint/rallypoint/protocol/MultiRequest$Op" := A1_38.keep Kc39
    have G2x0_39 : Fld Z h39 b1 "com/example/rallypoint/rallypoint/protocol/MultiRequest$Op" "op" "Lcom/example/rallypoint/rallypoint/protocol/OpCode;" .null := G2x0_38.keep Kc39 (ninS ne_b1_b38 nin0)
    have G2x1_39 : Fld Z h39 b1 "com/example/rallypoint/rallypoint/protocol/MultiRequest$Op" "body" "Lcom/example/rallypoint/rallypoint/protocol/RequestBody;" .null := G2x1_38.keep Kc39 (ninS ne_b1_b38 nin0)
    have A3_39 : Exa Z h39 b3 "com/example/rallypoint/rallypoint/protocol/MultiRequest$Op" := A3_38.keep Kc39
    have G4x0_39 : Fld Z h39 b3 "com/example/rallypoint/rallypoint/protocol/MultiRequest$Op" "op" "Lcom/example/rallypoint/rallypoint/protocol/OpCode;" .null := G4x0_38.keep Kc39 (ninS ne_b3_b38 nin0)
    have G4x1_39 : Fld Z h39 b3 "com/example/rallypoint/rallypoint/protocol/MultiRequest$Op" "body" "Lcom/example/rallypoint/rallypoint/protocol/RequestBody;" .null := G4x1_38.keep Kc39 (ninS ne_b3_b38 nin0)
    have A5_39 : Exa Z h39 b5 "java/util/ArrayList" := A5_38.keep Kc39
    have G37x0_39 : Fld Z h39 b5 "java/util/AbstractList" "modCount" "I" (.int (((0 : Int32) + (1 : Int32)) + (1 : Int32))) := G37x0_38.keep Kc39 (ninS ne_b5_b38 nin0)
    have G37x1_39 : Fld Z h39 b5 "java/util/ArrayList" "elementData" "[Ljava/lang/Object;" (.ref b36) := G37x1_38.keep Kc39 (ninS ne_b5_b38 nin0)
    have G37x2_39 : Fld Z h39 b5 "java/util/ArrayList" "size" "I" (.int (2 : Int32)) := G37x2_38.keep Kc39 (ninS ne_b5_b38 nin0)
    have G37x3_39 : OArrR Z h39 b36 10 (own_L Value.null ([(.ref b1), (.ref b3), .null, .null, .null, .null, .null, .null, .null, .null] : List Value)) := G37x3_38.keep Kc39 (ninS ne_b36_b38 nin0)
    have A38_39 : Exa Z h39 b38 "com/example/rallypoint/rallypoint/server/LogEntry$TreeChanged" := A38.keep Kc39
    have Zn39 : n0 ≤ h39.size := Nat.le_trans Zn38 Kc39.1
    refine OGo.st (T' := T39) (g' := (mkF m 98 #[.val (.long p0), .second, .val (.long p1), .second, .val (.long p2), .second, .val (.long p3), .second, .val (.long p4), .second, .val (.int p5), .val (.int (2 : Int32)), .val (.ref b1), .val (.ref b3), .val (.ref b5), .unset, .unset, .unset, .unset, .unset, .unset] [(.ref b38)])) (fun _ k => st39.trans k) ?_
    refine OGo.st (T' := T39) (g' := (mkF m 106 #[.val (.long p0), .second, .val (.long p1), .second, .val (.long p2), .second, .val (.long p3), .second, .val (.long p4), .second, .val (.int p5), .val (.int (2 : Int32)), .val (.ref b1), .val (.ref b3), .val (.ref b5), .val (.ref b38), .unset, .unset, .unset, .unset, .unset] [(.long p4), (.long p3), (.ref b38)])) (fun _ k => (XS.astore X39.here hx rfl (hb hby at_98) rfl rfl (l' := #[.val (.long p0), .second, .val (.long p1), .second, .val (.long p2), .second, .val (.long p3), .second, .val (.long p4), .second, .val (.int p5), .val (.int (2 : Int32)), .val (.ref b1), .val (.ref b3), .val (.ref b5), .val (.ref b38), .unset, .unset, .unset, .unset, .unset]) rfl (XS.aload X39.here hx rfl (hb hby at_100) rfl rfl (XS.lload X39.here hx rfl (hb hby at_102) rfl (XS.lload X39.here hx rfl (hb hby at_104) rfl k))))) ?_
    obtain ⟨cq40, kq40, q40a, q40b, q40c⟩ := isOf hZ e39 A38_39
    obtain ⟨_, _, ⟨T40, L40, k40, n40⟩, -, X40, ⟨Lc40, hQ40, l40, y40, z40⟩, st40⟩ := X39.virtualBack hx (y := (⟨"com/example/rallypoint/rallypoint/server/LogEntry$TreeChanged", "stamped", "(JJ)Lcom/example/rallypoint/rallypoint/server/LogEntry$TreeChanged;"⟩ : MethodName)) (z := (⟨"com/example/rallypoint/rallypoint/server/LogEntry$TreeChanged", "stamped", "(JJ)Lcom/example/rallypoint/rallypoint/server/LogEntry$TreeChanged;"⟩ : MethodName)) hown (mvT hZ (hw _ (List.mem_of_getElem? (i := 92) rfl))) (mvT hZ (hw _ (List.mem_of_getElem? (i := 93) rfl))) (notFace_of_selects (args := #[]) (mvT hZ (hw _ (List.mem_of_getElem? (i := 95) rfl)))) (mvT hZ (hw _ (List.mem_of_getElem? (i := 95) rfl))) (mvT hZ (hw _ (List.mem_of_getElem? (i := 94) rfl))) (by decide) (backOf (W := 0) (rmTs l Z a0 hw [] (b38) (p2) (p3) (p4) (b5) h39 n0 Zn39 (A38_39) (G39x2) (G39x3)) hZ (hw _ (List.mem_of_getElem? (i := 96) rfl)) (hw _ (List.mem_of_getElem? (i := 79) rfl)) (by decide) (by decide)) q40a q40c (g := (mkF m 106 #[.val (.long p0), .second, .val (.long p1), .second, .val (.long p2), .second, .val (.long p3), .second, .val (.long p4), .second, .val (.int p5), .val (.int (2 : Int32)), .val (.ref b1), .val (.ref b3), .val (.ref b5), .val (.ref b38), .unset, .unset, .unset, .unset, .unset] [(.long p4), (.long p3), (.ref b38)])) rfl (by rw [hml]; rfl) (Steps.refl _) (argsL := [(.long p3), (.long p4)]) (rest := []) (lenOf own_pd9 rfl) rfl (by show 2 * 0 + _ ≤ _; exact Nat.le_of_eq rfl) (hb hby at_106) (fun _ _ => ⟨rfl, e39, (by decide : 5 + 1 ≤ _), (by decide : 21 + 4 ≤ _)⟩)
    dsimp only [Pt.U, Pt.locs, Pt.cells, Pt.slots] at X40 l40 y40 z40 st40 hQ40
    subst l40 y40 z40
    have X40 : Stand p l e room_1 s m _ below meth c T40 _ 6 25 := X40
    obtain ⟨h40, e40⟩ : ∃ z, T40.heap = z := ⟨_, rfl⟩
    rw [e40] at hQ40
    obtain ⟨b40, rfl, Nq40, Kc40, sz_b40, G40x0, G40x1, G40x2, G40x3, G40x4⟩ := hQ40
    have N40 := Fr.app N39 Nq40
    have ne_ed_b40 : ed ≠ b40 := Nat.ne_of_lt (Nat.lt_of_lt_of_le (A_ed.ext OLD_39.2).lt sz_b40)
    have ne_b1_b40 : b1 ≠ b40 := Nat.ne_of_lt (Nat.lt_of_lt_of_le A1_39.lt sz_b40)
    have ne_b3_b40 : b3 ≠ b40 := Nat.ne_of_lt (Nat.lt_of_lt_of_le A3_39.lt sz_b40)
    have ne_b5_b40 : b5 ≠ b40 := Nat.ne_of_lt (Nat.lt_of_lt_of_le A5_39.lt sz_b40)
    have ne_b36_b40 : b36 ≠ b40 := Nat.ne_of_lt (Nat.lt_of_lt_of_le G37x3_39.lt sz_b40)
    have ne_b38_b40 : b38 ≠ b40 := Nat.ne_of_lt (Nat.lt_of_lt_of_le A38_39.lt sz_b40)
    have g_b40 : n0 ≤ b40 := Nat.le_trans Zn39 sz_b40
    have OLD_40 : Old Z n0 h40 := OLD_39.keep Kc40 all0
    have A1_40 : Exa Z h40 b1 "com/example/rallypoint/rallypoint/protocol/MultiRequest$Op" := A1_39.keep Kc40
    have G2x0_40 : Fld Z h40 b1 "com/example/rallypoint/rallypoint/protocol/MultiRequest$Op" "op" "Lcom/example/rallypoint/rallypoint/protocol/OpCode;" .null := G2x0_39.keep Kc40 nin0
    have G2x1_40 : Fld Z h40 b1 "com/example/rallypoint/rallypoint/protocol/MultiRequest$Op" "body" "Lcom/example/rallypoint/rallypoint/protocol/RequestBody;" .null := G2x1_39.keep Kc40 nin0
    have A3_40 : Exa Z h40 b3 "com/example/rallypoint/rallypoint/protocol/MultiRequest$Op" := A3_39.keep Kc40
    have G4x0_40 : Fld Z h40 b3 "com/example/rallypoint/rallypoint/protocol/MultiRequest$Op" "op" "Lcom/example/rallypoint/rallypoint/protocol/OpCode;" .null := G4x0_39.keep Kc40 nin0
    have G4x1_40 : Fld Z h40 b3 "com/example/rallypoint/rallypoint/protocol/MultiRequest$Op" "body" "Lcom/example/rallypoint/rallypoint/protocol/RequestBody;" .null := G4x1_39.keep Kc40 nin0
    have A5_40 : Exa Z h40 b5 "java/util/ArrayList" := A5_39.keep Kc40
    have G37x0_40 : Fld Z h40 b5 "java/util/AbstractList" "modCount" "I" (.int (((0 : Int32) + (1 : Int32)) + (1 : Int32))) := G37x0_39.keep Kc40 nin0
    have G37x1_40 : Fld Z h40 b5 "java/util/ArrayList" "elementData" "[Ljava/lang/Object;" (.ref b36) := G37x1_39.keep Kc40 nin0
    have G37x2_40 : Fld Z h40 b5 "java/util/ArrayList" "size" "I" (.int (2 : Int32)) := G37x2_39.keep Kc40 nin0
    have G37x3_40 : OArrR Z h40 b36 10 (own_L Value.null ([(.ref b1), (.ref b3), .null, .null, .null, .null, .null, .null, .null, .null] : List Value)) := G37x3_39.keep Kc40 nin0
    have A38_40 : Exa Z h40 b38 "com/example/rallypoint/rallypoint/server/LogEntry$TreeChanged" := A38_39.keep Kc40
    have G39x0_40 : Fld Z h40 b38 "com/example/rallypoint/rallypoint/server/LogEntry$TreeChanged" "zxid" "J" (.long p0) := G39x0.keep Kc40 nin0
    have G39x1_40 : Fld Z h40 b38 "com/example/rallypoint/rallypoint/server/LogEntry$TreeChanged" "time" "J" (.long p1) := G39x1.keep Kc40 nin0
    have G39x2_40 : Fld Z h40 b38 "com/example/rallypoint/rallypoint/server/LogEntry$TreeChanged" "session" "J" (.long p2) := G39x2.keep Kc40 nin0
    have G39x3_40 : Fld Z h40 b38 "com/example/rallypoint/rallypoint/server/LogEntry$TreeChanged" "ops" "Ljava/util/List;" (.ref b5) := G39x3.keep Kc40 nin0
    have Zn40 : n0 ≤ h40.size := Nat.le_trans Zn39 Kc40.1
    refine OGo.st (T' := T40) (g' := (mkF m 109 #[.val (.long p0), .second, .val (.long p1), .second, .val (.long p2), .second, .val (.long p3), .second, .val (.long p4), .second, .val (.int p5), .val (.int (2 : Int32)), .val (.ref b1), .val (.ref b3), .val (.ref b5), .val (.ref b38), .unset, .unset, .unset, .unset, .unset] [(.ref b40)])) (fun _ k => st40.trans k) ?_
    refine OGo.st (T' := T40) (g' := (mkF m 113 #[.val (.long p0), .second, .val (.long p1), .second, .val (.long p2), .second, .val (.long p3), .second, .val (.long p4), .second, .val (.int p5), .val (.int (2 : Int32)), .val (.ref b1), .val (.ref b3), .val (.ref b5), .val (.ref b38), .val (.ref b40), .unset, .unset, .unset, .unset] [(.ref b40)])) (fun _ k => (XS.astore X40.here hx rfl (hb hby at_109) rfl rfl (l' := #[.val (.long p0), .second, .val (.long p1), .second, .val (.long p2), .second, .val (.long p3), .second, .val (.long p4), .second, .val (.int p5), .val (.int (2 : Int32)), .val (.ref b1), .val (.ref b3), .val (.ref b5), .val (.ref b38), .val (.ref b40), .unset, .unset, .unset, .unset]) rfl (XS.aload X40.here hx rfl (hb hby at_111) rfl rfl k))) ?_
    obtain ⟨cq41, kq41, q41a, q41b, q41c⟩ := isOf hZ e40 G40x0
    obtain ⟨_, _, ⟨T41, L41, k41, n41⟩, -, X41, ⟨Lc41, hQ41, l41, y41, z41⟩, st41⟩ := X40.virtualBack hx (y := (⟨"com/example/rallypoint/rallypoint/server/LogEntry$TreeChanged", "ops", "()Ljava/util/List;"⟩ : MethodName)) (z := (⟨"com/example/rallypoint/rallypoint/server/LogEntry$TreeChanged", "ops", "()Ljava/util/List;"⟩ : MethodName)) hown (mvT hZ (hw _ (List.mem_of_getElem? (i := 99) rfl))) (mvT hZ (hw _ (List.mem_of_getElem? (i := 100) rfl))) (notFace_of_selects (args := #[]) (mvT hZ (hw _ (List.mem_of_getElem? (i := 102) rfl)))) (mvT hZ (hw _ (List.mem_of_getElem? (i := 102) rfl))) (mvT hZ (hw _ (List.mem_of_getElem? (i := 101) rfl))) (by decide) (backOf (W := 0) (rmT_ops l Z a0 hw [] (b40) (b5) h40 n0 Zn40 (G40x4)) hZ (hw _ (List.mem_of_getElem? (i := 103) rfl)) (hw _ (List.mem_of_getElem? (i := 79) rfl)) (by decide) (by decide)) q41a q41c (g := (mkF m 113 #[.val (.long p0), .second, .val (.long p1), .second, .val (.long p2), .second, .val (.long p3), .second, .val (.long p4), .second, .val (.int p5), .val (.int (2 : Int32)), .val (.ref b1), .val (.ref b3), .val (.ref b5), .val (.ref b38), .val (.ref b40), .unset, .unset, .unset, .unset] [(.ref b40)])) rfl (by rw [hml]; rfl) (Steps.refl _) (argsL := []) (rest := []) (lenOf own_pd2 rfl) rfl (by show 2 * 0 + _ ≤ _; exact Nat.le_of_eq rfl) (hb hby at_113) (fun _ _ => ⟨rfl, e40, (by decide : 6 + 0 ≤ _), (by decide : 25 + 0 ≤ _)⟩)
    dsimp only [Pt.U, Pt.locs, Pt.cells, Pt.slots] at X41 l41 y41 z41 st41 hQ41
    subst l41 y41 z41
    have X41 : Stand p l e room_1 s m _ below meth c T41 _ 6 25 := X41
    obtain ⟨rfl, Nq41, e41⟩ := hQ41
    have N41 := Fr.app N40 Nq41
    refine OGo.st (T' := T41) (g' := (mkF m 116 #[.val (.long p0), .second, .val (.long p1), .second, .val (.long p2), .second, .val (.long p3), .second, .val (.long p4), .second, .val (.int p5), .val (.int (2 : Int32)), .val (.ref b1), .val (.ref b3), .val (.ref b5), .val (.ref b38), .val (.ref b40), .unset, .unset, .unset, .unset] [(.ref b5)])) (fun _ k => st41.trans k) ?_
    refine OGo.st (T' := T41) (g' := (mkF m 120 #[.val (.long p0), .second, .val (.long p1), .second, .val (.long p2), .second, .val (.long p3), .second, .val (.long p4), .second, .val (.int p5), .val (.int (2 : Int32)), .val (.ref b1), .val (.ref b3), .val (.ref b5), .val (.ref b38), .val (.ref b40), .val (.ref b5), .unset, .unset, .unset] [(.ref b40)])) (fun _ k => (XS.astore X41.here hx rfl (hb hby at_116) rfl rfl (l' := #[.val (.long p0), .second, .val (.long p1), .second, .val (.long p2), .second, .val (.long p3), .second, .val (.long p4), .second, .val (.int p5), .val (.int (2 : Int32)), .val (.ref b1), .val (.ref b3), .val (.ref b5), .val (.ref b38), .val (.ref b40), .val (.ref b5), .unset, .unset, .unset]) rfl (XS.aload X41.here hx rfl (hb hby at_118) rfl rfl k))) ?_
    obtain ⟨cq42, kq42, q42a, q42b, q42c⟩ := isOf hZ e41 G40x0
    obtain ⟨_, _, ⟨T42, L42, k42, n42⟩, -, X42, ⟨Lc42, hQ42, l42, y42, z42⟩, st42⟩ := X41.virtualBack hx (y := (⟨"com/example/rallypoint/rallypoint/server/LogEntry$TreeChanged", "zxid", "()J"⟩ : MethodName)) (z := (⟨"com/example/rallypoint/rallypoint/server/LogEntry$TreeChanged", "zxid", "()J"⟩ : MethodName)) hown (mvT hZ (hw _ (List.mem_of_getElem? (i := 104) rfl))) (mvT hZ (hw _ (List.mem_of_getElem? (i := 105) rfl))) (notFace_of_selects (args := #[]) (mvT hZ (hw _ (List.mem_of_getElem? (i := 107) rfl)))) (mvT hZ (hw _ (List.mem_of_getElem? (i := 107) rfl))) (mvT hZ (hw _ (List.mem_of_getElem? (i := 106) rfl))) (by decide) (backOf (W := 0) (rmT_zxid l Z a0 hw [] (b40) (p3) h40 n0 Zn40 (G40x1)) hZ (hw _ (List.mem_of_getElem? (i := 108) rfl)) (hw _ (List.mem_of_getElem? (i := 79) rfl)) (by decide) (by decide)) q42a q42c (g := (mkF m 120 #[.val (.long p0), .second, .val (.long p1), .second, .val (.long p2), .second, .val (.long p3), .second, .val (.long p4), .second, .val (.int p5), .val (.int (2 : Int32)), .val (.ref b1), .val (.ref b3), .val (.ref b5), .val (.ref b38), .val (.ref b40), .val (.ref b5), .unset, .unset, .unset] [(.ref b40)])) rfl (by rw [hml]; rfl) (Steps.refl _) (argsL := []) (rest := []) (lenOf own_pd1 rfl) rfl (by show 2 * 0 + _ ≤ _; exact Nat.le_of_eq rfl) (hb hby at_120) (fun _ _ => ⟨rfl, e41, (by decide : 6 + 0 ≤ _), (by decide : 25 + 0 ≤ _)⟩)
    dsimp only [Pt.U, Pt.locs, Pt.cells, Pt.slots] at X42 l42 y42 z42 st42 hQ42
    subst l42 y42 z42
    have X42 : Stand p l e room_1 s m _ below meth c T42 _ 6 25 := X42
    obtain ⟨rfl, Nq42, e42⟩ := hQ42
    have N42 := Fr.app N41 Nq42
    refine OGo.st (T' := T42) (g' := (mkF m 123 #[.val (.long p0), .second, .val (.long p1), .second, .val (.long p2), .second, .val (.long p3), .second, .val (.long p4), .second, .val (.int p5), .val (.int (2 : Int32)), .val (.ref b1), .val (.ref b3), .val (.ref b5), .val (.ref b38), .val (.ref b40), .val (.ref b5), .unset, .unset, .unset] [(.long p3)])) (fun _ k => st42.trans k) ?_
    refine OGo.st (T' := T42) (g' := (mkF m 131 #[.val (.long p0), .second, .val (.long p1), .second, .val (.long p2), .second, .val (.long p3), .second, .val (.long p4), .second, .val (.int p5), .val (.int (2 : Int32)), .val (.ref b1), .val (.ref b3), .val (.ref b5), .val (.ref b38), .val (.ref b40), .val (.ref b5), .unset, .unset, .unset] [(.ref b40)])) (fun _ k => (XS.lload X42.here hx rfl (hb hby at_123) rfl (XS.lcmp X42.here hx rfl (hb hby at_125) rfl (XS.ifNo X42.here hx rfl (hb hby at_126) rfl ((if0 _ _).trans (teq ((lw_eq p3 p3).mpr (rfl : p3 = p3))).2) (XS.aload X42.here hx rfl (hb hby at_129) rfl rfl k))))) ?_
    obtain ⟨cq43, kq43, q43a, q43b, q43c⟩ := isOf hZ e42 G40x0
    obtain ⟨_, _, ⟨T43, L43, k43, n43⟩, -, X43, ⟨Lc43, hQ43, l43, y43, z43⟩, st43⟩ := X42.virtualBack hx (y := (⟨"com/example/rallypoint/rallypoint/server/LogEntry$TreeChanged", "time", "()J"⟩ : MethodName)) (z := (⟨"com/example/rallypoint/rallypoint/server/LogEntry$TreeChanged", "time", "()J"⟩ : MethodName)) hown (mvT hZ (hw _ (List.mem_of_getElem? (i := 109) rfl))) (mvT hZ (hw _ (List.mem_of_getElem? (i := 110) rfl))) (notFace_of_selects (args := #[]) (mvT hZ (hw _ (List.mem_of_getElem? (i := 112) rfl)))) (mvT hZ (hw _ (List.mem_of_getElem? (i := 112) rfl))) (mvT hZ (hw _ (List.mem_of_getElem? (i := 111) rfl))) (by decide) (backOf (W := 0) (rmT_time l Z a0 hw [] (b40) (p4) h40 n0 Zn40 (G40x2)) hZ (hw _ (List.mem_of_getElem? (i := 113) rfl)) (hw _ (List.mem_of_getElem? (i := 79) rfl)) (by decide) (by decide)) q43a q43c (g := (mkF m 131 #[.val (.long p0), .second, .val (.long p1), .second, .val (.long p2), .second, .val (.long p3), .second, .val (.long p4), .second, .val (.int p5), .val (.int (2 : Int32)), .val (.ref b1), .val (.ref b3), .val (.ref b5), .val (.ref b38), .val (.ref b40), .val (.ref b5), .unset, .unset, .unset] [(.ref b40)])) rfl (by rw [hml]; rfl) (Steps.refl _) (argsL := []) (rest := []) (lenOf own_pd1 rfl) rfl (by show 2 * 0 + _ ≤ _; exact Nat.le_of_eq rfl) (hb hby at_131) (fun _ _ => ⟨rfl, e42, (by decide : 6 + 0 ≤ _), (by decide : 25 + 0 ≤ _)⟩)
    dsimp only [Pt.U, Pt.locs, Pt.cells, Pt.slots] at X43 l43 y43 z43 st43 hQ43
    subst l43 y43 z43
    have X43 : Stand p l e room_1 s m _ below meth c T43 _ 6 25 := X43
    obtain ⟨rfl, Nq43, e43⟩ := hQ43
    have N43 := Fr.app N42 Nq43
    refine OGo.st (T' := T43) (g' := (mkF m 134 #[.val (.long p0), .second, .val (.long p1), .second, .val (.long p2), .second, .val (.long p3), .second, .val (.long p4), .second, .val (.int p5), .val (.int (2 : Int32)), .val (.ref b1), .val (.ref b3), .val (.ref b5), .val (.ref b38), .val (.ref b40), .val (.ref b5), .unset, .unset, .unset] [(.long p4)])) (fun _ k => st43.trans k) ?_
    refine OGo.st (T' := T43) (g' := (mkF m 142 #[.val (.long p0), .second, .val (.long p1), .second, .val (.long p2), .second, .val (.long p3), .second, .val (.long p4), .second, .val (.int p5), .val (.int (2 : Int32)), .val (.ref b1), .val (.ref b3), .val (.ref b5), .val (.ref b38), .val (.ref b40), .val (.ref b5), .unset, .unset, .unset] [(.ref b40)])) (fun _ k => (XS.lload X43.here hx rfl (hb hby at_134) rfl (XS.lcmp X43.here hx rfl (hb hby at_136) rfl (XS.ifNo X43.here hx rfl (hb hby at_137) rfl ((if0 _ _).trans (teq ((lw_eq p4 p4).mpr (rfl : p4 = p4))).2) (XS.aload X43.here hx rfl (hb hby at_140) rfl rfl k))))) ?_
    obtain ⟨cq44, kq44, q44a, q44b, q44c⟩ := isOf hZ e43 G40x0
    obtain ⟨_, _, ⟨T44, L44, k44, n44⟩, -, X44, ⟨Lc44, hQ44, l44, y44, z44⟩, st44⟩ := X43.virtualBack hx (y := (⟨"com/example/rallypoint/rallypoint/server/LogEntry$TreeChanged", "session", "()J"⟩ : MethodName)) (z := (⟨"com/example/rallypoint/rallypoint/server/LogEntry$TreeChanged", "session", "()J"⟩ : MethodName)) hown (mvT hZ (hw _ (List.mem_of_getElem? (i := 114) rfl))) (mvT hZ (hw _ (List.mem_of_getElem? (i := 115) rfl))) (notFace_of_selects (args := #[]) (mvT hZ (hw _ (List.mem_of_getElem? (i := 117) rfl)))) (mvT hZ (hw _ (List.mem_of_getElem? (i := 117) rfl))) (mvT hZ (hw _ (List.mem_of_getElem? (i := 116) rfl))) (by decide) (backOf (W := 0) (rmT_session l Z a0 hw [] (b40) (p2) h40 n0 Zn40 (G40x3)) hZ (hw _ (List.mem_of_getElem? (i := 118) rfl)) (hw _ (List.mem_of_getElem? (i := 79) rfl)) (by decide) (by decide)) q44a q44c (g := (mkF m 142 #[.val (.long p0), .second, .val (.long p1), .second, .val (.long p2), .second, .val (.long p3), .second, .val (.long p4), .second, .val (.int p5), .val (.int (2 : Int32)), .val (.ref b1), .val (.ref b3), .val (.ref b5), .val (.ref b38), .val (.ref b40), .val (.ref b5), .unset, .unset, .unset] [(.ref b40)])) rfl (by rw [hml]; rfl) (Steps.refl _) (argsL := []) (rest := []) (lenOf own_pd1 rfl) rfl (by show 2 * 0 + _ ≤ _; exact Nat.le_of_eq rfl) (hb hby at_142) (fun _ _ => ⟨rfl, e43, (by decide : 6 + 0 ≤ _), (by decide : 25 + 0 ≤ _)⟩)
    dsimp only [Pt.U, Pt.locs, Pt.cells, Pt.slots] at X44 l44 y44 z44 st44 hQ44
    subst l44 y44 z44
    have X44 : Stand p l e room_1 s m _ below meth c T44 _ 6 25 := X44
    obtain ⟨rfl, Nq44, e44⟩ := hQ44
    have N44 := Fr.app N43 Nq44
    refine OGo.st (T' := T44) (g' := (mkF m 145 #[.val (.long p0), .second, .val (.long p1), .second, .val (.long p2), .second, .val (.long p3), .second, .val (.long p4), .second, .val (.int p5), .val (.int (2 : Int32)), .val (.ref b1), .val (.ref b3), .val (.ref b5), .val (.ref b38), .val (.ref b40), .val (.ref b5), .unset, .unset, .unset] [(.long p2)])) (fun _ k => st44.trans k) ?_
    refine OGo.st (T' := T44) (g' := (mkF m 158 #[.val (.long p0), .second, .val (.long p1), .second, .val (.long p2), .second, .val (.long p3), .second, .val (.long p4), .second, .val (.int p5), .val (.int (2 : Int32)), .val (.ref b1), .val (.ref b3), .val (.ref b5), .val (.ref b38), .val (.ref b40), .val (.ref b5), .val (.int (1 : Int32)), .unset, .unset] [])) (fun _ k => (XS.lload X44.here hx rfl (hb hby at_145) rfl (XS.lcmp X44.here hx rfl (hb hby at_147) rfl (XS.ifNo X44.here hx rfl (hb hby at_148) rfl ((if0 _ _).trans (teq ((lw_eq p2 p2).mpr (rfl : p2 = p2))).2) (XS.iconst X44.here hx rfl (hb hby at_151) (XS.goto X44.here hx rfl (pc0 := 152) (pc' := 156) rfl (hb hby at_152) (by decide) (by decide) (XS.istore X44.here hx rfl (hb hby at_156) rfl (l' := #[.val (.long p0), .second, .val (.long p1), .second, .val (.long p2), .second, .val (.long p3), .second, .val (.long p4), .second, .val (.int p5), .val (.int (2 : Int32)), .val (.ref b1), .val (.ref b3), .val (.ref b5), .val (.ref b38), .val (.ref b40), .val (.ref b5), .val (.int (1 : Int32)), .unset, .unset]) rfl k))))))) ?_
    refine OGo.st (T' := T44) (g' := (mkF m 160 #[.val (.long p0), .second, .val (.long p1), .second, .val (.long p2), .second, .val (.long p3), .second, .val (.long p4), .second, .val (.int p5), .val (.int (2 : Int32)), .val (.ref b1), .val (.ref b3), .val (.ref b5), .val (.ref b38), .val (.ref b40), .val (.ref b5), .val (.int (1 : Int32)), .unset, .unset] [(.ref b5)])) (fun _ k => (XS.aload X44.here hx rfl (hb hby at_158) rfl rfl k)) ?_
    obtain ⟨cq45, kq45, q45a, q45b, q45c⟩ := isOf hZ e44 A5_40
    obtain ⟨_, _, ⟨T45, L45, k45, n45⟩, -, X45, ⟨Lc45, hQ45, l45, y45, z45⟩, st45⟩ := X44.interfaceBack hx (xi := (⟨"java/util/List", "size", "()I"⟩ : MethodName)) (y := (⟨"java/util/ArrayList", "size", "()I"⟩ : MethodName)) hown (mvT hZ (hw _ (List.mem_of_getElem? (i := 119) rfl))) (mvT hZ (hw _ (List.mem_of_getElem? (i := 120) rfl))) (mvT hZ (hw _ (List.mem_of_getElem? (i := 121) rfl))) (mvT hZ (hw _ (List.mem_of_getElem? (i := 122) rfl))) (mvT hZ (hw _ (List.mem_of_getElem? (i := 123) rfl))) (mvT hZ (hw _ (List.mem_of_getElem? (i := 124) rfl))) (mvT hZ (hw _ (List.mem_of_getElem? (i := 125) rfl))) (mvT hZ (hw _ (List.mem_of_getElem? (i := 49) rfl))) (by decide) (backOf (W := 0) (rmSz l Z a0 hw [] (b5) ((2 : Int32)) h40 n0 Zn40 (G37x2_40)) hZ (hw _ (List.mem_of_getElem? (i := 126) rfl)) (hw _ (List.mem_of_getElem? (i := 20) rfl)) (by decide) (by decide)) q45a q45b q45c (g := (mkF m 160 #[.val (.long p0), .second, .val (.long p1), .second, .val (.long p2), .second, .val (.long p3), .second, .val (.long p4), .second, .val (.int p5), .val (.int (2 : Int32)), .val (.ref b1), .val (.ref b3), .val (.ref b5), .val (.ref b38), .val (.ref b40), .val (.ref b5), .val (.int (1 : Int32)), .unset, .unset] [(.ref b5)])) rfl (by rw [hml]; rfl) (Steps.refl _) (argsL := []) (rest := []) (lenOf own_pd0 rfl) rfl (by show 2 * 0 + _ ≤ _; exact Nat.le_of_eq rfl) (hb hby at_160) (fun _ _ => ⟨rfl, e44, (by decide : 6 + 0 ≤ _), (by decide : 25 + 0 ≤ _)⟩)
    dsimp only [Pt.U, Pt.locs, Pt.cells, Pt.slots] at X45 l45 y45 z45 st45 hQ45
    subst l45 y45 z45
    have X45 : Stand p l e room_1 s m _ below meth c T45 _ 6 25 := X45
    obtain ⟨rfl, Nq45, e45⟩ := hQ45
    have N45 := Fr.app N44 Nq45
    refine OGo.st (T' := T45) (g' := (mkF m 165 #[.val (.long p0), .second, .val (.long p1), .second, .val (.long p2), .second, .val (.long p3), .second, .val (.long p4), .second, .val (.int p5), .val (.int (2 : Int32)), .val (.ref b1), .val (.ref b3), .val (.ref b5), .val (.ref b38), .val (.ref b40), .val (.ref b5), .val (.int (1 : Int32)), .unset, .unset] [(.int (2 : Int32))])) (fun _ k => st45.trans k) ?_
    refine OGo.st (T' := T45) (g' := (mkF m 178 #[.val (.long p0), .second, .val (.long p1), .second, .val (.long p2), .second, .val (.long p3), .second, .val (.long p4), .second, .val (.int p5), .val (.int (2 : Int32)), .val (.ref b1), .val (.ref b3), .val (.ref b5), .val (.ref b38), .val (.ref b40), .val (.ref b5), .val (.int (1 : Int32)), .unset, .unset] [(.ref b5)])) (fun _ k => (XS.iload X45.here hx rfl (hb hby at_165) rfl (XS.icmpNo X45.here hx rfl (hb hby at_167) rfl (teq (by decide : (2 : Int32) = (2 : Int32))).2 (XS.iload X45.here hx rfl (hb hby at_170) rfl (XS.iconst X45.here hx rfl (hb hby at_172) (XS.icmpNo X45.here hx rfl (hb hby at_173) rfl (flt (by decide : ¬ ((2 : Int32) < (1 : Int32)))).1 (XS.aload X45.here hx rfl (hb hby at_176) rfl rfl k))))))) ?_
    refine OGo.st (T' := T45) (g' := (mkF m 179 #[.val (.long p0), .second, .val (.long p1), .second, .val (.long p2), .second, .val (.long p3), .second, .val (.long p4), .second, .val (.int p5), .val (.int (2 : Int32)), .val (.ref b1), .val (.ref b3), .val (.ref b5), .val (.ref b38), .val (.ref b40), .val (.ref b5), .val (.int (1 : Int32)), .unset, .unset] [(.int (0 : Int32)), (.ref b5)])) (fun _ k => (XS.iconst X45.here hx rfl (hb hby at_178) k)) ?_
    obtain ⟨cq46, kq46, q46a, q46b, q46c⟩ := isOf hZ e45 A5_40
    obtain ⟨_, _, ⟨T46, L46, k46, n46⟩, -, X46, ⟨Lc46, hQ46, l46, y46, z46⟩, st46⟩ := X45.interfaceBack hx (xi := (⟨"java/util/List", "get", "(I)Ljava/lang/Object;"⟩ : MethodName)) (y := (⟨"java/util/ArrayList", "get", "(I)Ljava/lang/Object;"⟩ : MethodName)) hown (mvT hZ (hw _ (List.mem_of_getElem? (i := 127) rfl))) (mvT hZ (hw _ (List.mem_of_getElem? (i := 128) rfl))) (mvT hZ (hw _ (List.mem_of_getElem? (i := 129) rfl))) (mvT hZ (hw _ (List.mem_of_getElem? (i := 130) rfl))) (mvT hZ (hw _ (List.mem_of_getElem? (i := 131) rfl))) (mvT hZ (hw _ (List.mem_of_getElem? (i := 132) rfl))) (mvT hZ (hw _ (List.mem_of_getElem? (i := 133) rfl))) (mvT hZ (hw _ (List.mem_of_getElem? (i := 49) rfl))) (by decide) (backOf (W := 0) (rmGt l Z a0 hw [] (b5) ((2 : Int32)) ((0 : Int32)) (b36) (10) ((own_L Value.null ([(.ref b1), (.ref b3), .null, .null, .null, .null, .null, .null, .null, .null] : List Value))) (0) (b1) h40 n0 Zn40 (A5_40) (G37x1_40) (G37x2_40) (G37x3_40) (⟨by decide, by decide⟩) (by decide) (rfl) (by decide) (by decide)) hZ (hw _ (List.mem_of_getElem? (i := 134) rfl)) (hw _ (List.mem_of_getElem? (i := 20) rfl)) (by decide) (by decide)) q46a q46b q46c (g := (mkF m 179 #[.val (.long p0), .second, .val (.long p1), .second, .val (.long p2), .second, .val (.long p3), .second, .val (.long p4), .second, .val (.int p5), .val (.int (2 : Int32)), .val (.ref b1), .val (.ref b3), .val (.ref b5), .val (.ref b38), .val (.ref b40), .val (.ref b5), .val (.int (1 : Int32)), .unset, .unset] [(.int (0 : Int32)), (.ref b5)])) rfl (by rw [hml]; rfl) (Steps.refl _) (argsL := [(.int (0 : Int32))]) (rest := []) (lenOf own_pd5 rfl) rfl (by show 2 * 0 + _ ≤ _; exact Nat.le_of_eq rfl) (hb hby at_179) (fun _ _ => ⟨rfl, e45, (by decide : 6 + 0 ≤ _), (by decide : 25 + 0 ≤ _)⟩)
    dsimp only [Pt.U, Pt.locs, Pt.cells, Pt.slots] at X46 l46 y46 z46 st46 hQ46
    subst l46 y46 z46
    have X46 : Stand p l e room_1 s m _ below meth c T46 _ 6 25 := X46
    obtain ⟨rfl, Nq46, e46⟩ := hQ46
    have N46 := Fr.app N45 Nq46
    refine OGo.st (T' := T46) (g' := (mkF m 184 #[.val (.long p0), .second, .val (.long p1), .second, .val (.long p2), .second, .val (.long p3), .second, .val (.long p4), .second, .val (.int p5), .val (.int (2 : Int32)), .val (.ref b1), .val (.ref b3), .val (.ref b5), .val (.ref b38), .val (.ref b40), .val (.ref b5), .val (.int (1 : Int32)), .unset, .unset] [(.ref b1)])) (fun _ k => st46.trans k) ?_
    refine OGo.st (T' := T46) (g' := (mkF m 186 #[.val (.long p0), .second, .val (.long p1), .second, .val (.long p2), .second, .val (.long p3), .second, .val (.long p4), .second, .val (.int p5), .val (.int (2 : Int32)), .val (.ref b1), .val (.ref b3), .val (.ref b5), .val (.ref b38), .val (.ref b40), .val (.ref b5), .val (.int (1 : Int32)), .unset, .unset] [(.ref b1), (.ref b1)])) (fun _ k => (XS.aload X46.here hx rfl (hb hby at_184) rfl rfl k)) ?_
    refine OGo.st (T' := T46) (g' := (mkF m 198 #[.val (.long p0), .second, .val (.long p1), .second, .val (.long p2), .second, .val (.long p3), .second, .val (.long p4), .second, .val (.int p5), .val (.int (2 : Int32)), .val (.ref b1), .val (.ref b3), .val (.ref b5), .val (.ref b38), .val (.ref b40), .val (.ref b5), .val (.int (1 : Int32)), .unset, .unset] [(.int (1 : Int32)), (.ref b5)])) (fun _ k => (Jvm.RoadKit.acmp (g := (mkF m 186 #[.val (.long p0), .second, .val (.long p1), .second, .val (.long p2), .second, .val (.long p3), .second, .val (.long p4), .second, .val (.int p5), .val (.int (2 : Int32)), .val (.ref b1), .val (.ref b3), .val (.ref b5), .val (.ref b38), .val (.ref b40), .val (.ref b5), .val (.int (1 : Int32)), .unset, .unset] [(.ref b1), (.ref b1)])) X46 hx rfl rfl rfl (pc0 := 186) (pc' := 189) (same := true) rfl (hb hby at_186) rfl (decide_eq_true rfl) (by decide) (by decide) (XS.iload X46.here hx rfl (hb hby at_189) rfl (XS.iconst X46.here hx rfl (hb hby at_191) (XS.icmpNo X46.here hx rfl (hb hby at_192) rfl (flt (by decide : ¬ ((2 : Int32) < (2 : Int32)))).1 (XS.aload X46.here hx rfl (hb hby at_195) rfl rfl (XS.iconst X46.here hx rfl (hb hby at_197) k))))))) ?_
    obtain ⟨cq47, kq47, q47a, q47b, q47c⟩ := isOf hZ e46 A5_40
    obtain ⟨_, _, ⟨T47, L47, k47, n47⟩, -, X47, ⟨Lc47, hQ47, l47, y47, z47⟩, st47⟩ := X46.interfaceBack hx (xi := (⟨"java/util/List", "get", "(I)Ljava/lang/Object;"⟩ : MethodName)) (y := (⟨"java/util/ArrayList", "get", "(I)Ljava/lang/Object;"⟩ : MethodName)) hown (mvT hZ (hw _ (List.mem_of_getElem? (i := 127) rfl))) (mvT hZ (hw _ (List.mem_of_getElem? (i := 128) rfl))) (mvT hZ (hw _ (List.mem_of_getElem? (i := 129) rfl))) (mvT hZ (hw _ (List.mem_of_getElem? (i := 130) rfl))) (mvT hZ (hw _ (List.mem_of_getElem? (i := 131) rfl))) (mvT hZ (hw _ (List.mem_of_getElem? (i := 132) rfl))) (mvT hZ (hw _ (List.mem_of_getElem? (i := 133) rfl))) (mvT hZ (hw _ (List.mem_of_getElem? (i := 49) rfl))) (by decide) (backOf (W := 0) (rmGt l Z a0 hw [] (b5) ((2 : Int32)) ((1 : Int32)) (b36) (10) ((own_L Value.null ([(.ref b1), (.ref b3), .null, .null, .null, .null, .null, .null, .null, .null] : List Value))) (1) (b3) h40 n0 Zn40 (A5_40) (G37x1_40) (G37x2_40) (G37x3_40) (⟨by decide, by decide⟩) (by decide) (rfl) (by decide) (by decide)) hZ (hw _ (List.mem_of_getElem? (i := 134) rfl)) (hw _ (List.mem_of_getElem? (i := 20) rfl)) (by decide) (by decide)) q47a q47b q47c (g := (mkF m 198 #[.val (.long p0), .second, .val (.long p1), .second, .val (.long p2), .second, .val (.long p3), .second, .val (.long p4), .second, .val (.int p5), .val (.int (2 : Int32)), .val (.ref b1), .val (.ref b3), .val (.ref b5), .val (.ref b38), .val (.ref b40), .val (.ref b5), .val (.int (1 : Int32)), .unset, .unset] [(.int (1 : Int32)), (.ref b5)])) rfl (by rw [hml]; rfl) (Steps.refl _) (argsL := [(.int (1 : Int32))]) (rest := []) (lenOf own_pd5 rfl) rfl (by show 2 * 0 + _ ≤ _; exact Nat.le_of_eq rfl) (hb hby at_198) (fun _ _ => ⟨rfl, e46, (by decide : 6 + 0 ≤ _), (by decide : 25 + 0 ≤ _)⟩)
    dsimp only [Pt.U, Pt.locs, Pt.cells, Pt.slots] at X47 l47 y47 z47 st47 hQ47
    subst l47 y47 z47
    have X47 : Stand p l e room_1 s m _ below meth c T47 _ 6 25 := X47
    obtain ⟨rfl, Nq47, e47⟩ := hQ47
    have N47 := Fr.app N46 Nq47
    refine OGo.st (T' := T47) (g' := (mkF m 203 #[.val (.long p0), .second, .val (.long p1), .second, .val (.long p2), .second, .val (.long p3), .second, .val (.long p4), .second, .val (.int p5), .val (.int (2 : Int32)), .val (.ref b1), .val (.ref b3), .val (.ref b5), .val (.ref b38), .val (.ref b40), .val (.ref b5), .val (.int (1 : Int32)), .unset, .unset] [(.ref b3)])) (fun _ k => st47.trans k) ?_
    refine OGo.st (T' := T47) (g' := (mkF m 205 #[.val (.long p0), .second, .val (.long p1), .second, .val (.long p2), .second, .val (.long p3), .second, .val (.long p4), .second, .val (.int p5), .val (.int (2 : Int32)), .val (.ref b1), .val (.ref b3), .val (.ref b5), .val (.ref b38), .val (.ref b40), .val (.ref b5), .val (.int (1 : Int32)), .unset, .unset] [(.ref b3), (.ref b3)])) (fun _ k => (XS.aload X47.here hx rfl (hb hby at_203) rfl rfl k)) ?_
    refine OGo.st (T' := T47) (g' := (mkF m 232 #[.val (.long p0), .second, .val (.long p1), .second, .val (.long p2), .second, .val (.long p3), .second, .val (.long p4), .second, .val (.int p5), .val (.int (2 : Int32)), .val (.ref b1), .val (.ref b3), .val (.ref b5), .val (.ref b38), .val (.ref b40), .val (.ref b5), .val (.int (1 : Int32)), .unset, .unset] [(.int (1 : Int32))])) (fun _ k => (Jvm.RoadKit.acmp (g := (mkF m 205 #[.val (.long p0), .second, .val (.long p1), .second, .val (.long p2), .second, .val (.long p3), .second, .val (.long p4), .second, .val (.int p5), .val (.int (2 : Int32)), .val (.ref b1), .val (.ref b3), .val (.ref b5), .val (.ref b38), .val (.ref b40), .val (.ref b5), .val (.int (1 : Int32)), .unset, .unset] [(.ref b3), (.ref b3)])) X47 hx rfl rfl rfl (pc0 := 205) (pc' := 208) (same := true) rfl (hb hby at_205) rfl (decide_eq_true rfl) (by decide) (by decide) (XS.iload X47.here hx rfl (hb hby at_208) rfl (XS.iconst X47.here hx rfl (hb hby at_210) (XS.icmpYes X47.here hx rfl (pc0 := 211) (pc' := 227) rfl (hb hby at_211) rfl (tlt (by decide : (2 : Int32) < (3 : Int32))).1 (by decide) (by decide) (XS.iconst X47.here hx rfl (hb hby at_227) (XS.goto X47.here hx rfl (pc0 := 228) (pc' := 232) rfl (hb hby at_228) (by decide) (by decide) k))))))) ?_
    refine OGo.st (T' := T47) (g' := (mkF m 236 #[.val (.long p0), .second, .val (.long p1), .second, .val (.long p2), .second, .val (.long p3), .second, .val (.long p4), .second, .val (.int p5), .val (.int (2 : Int32)), .val (.ref b1), .val (.ref b3), .val (.ref b5), .val (.ref b38), .val (.ref b40), .val (.ref b5), .val (.int (1 : Int32)), .val (.int (1 : Int32)), .unset] [(.ref b38)])) (fun _ k => (XS.istore X47.here hx rfl (hb hby at_232) rfl (l' := #[.val (.long p0), .second, .val (.long p1), .second, .val (.long p2), .second, .val (.long p3), .second, .val (.long p4), .second, .val (.int p5), .val (.int (2 : Int32)), .val (.ref b1), .val (.ref b3), .val (.ref b5), .val (.ref b38), .val (.ref b40), .val (.ref b5), .val (.int (1 : Int32)), .val (.int (1 : Int32)), .unset]) rfl (XS.aload X47.here hx rfl (hb hby at_234) rfl rfl k))) ?_
    obtain ⟨cq48, kq48, q48a, q48b, q48c⟩ := isOf hZ e47 A38_40
    obtain ⟨_, _, ⟨T48, L48, k48, n48⟩, -, X48, ⟨Lc48, hQ48, l48, y48, z48⟩, st48⟩ := X47.virtualBack hx (y := (⟨"com/example/rallypoint/rallypoint/server/LogEntry$TreeChanged", "zxid", "()J"⟩ : MethodName)) (z := (⟨"com/example/rallypoint/rallypoint/server/LogEntry$TreeChanged", "zxid", "()J"⟩ : MethodName)) hown (mvT hZ (hw _ (List.mem_of_getElem? (i := 104) rfl))) (mvT hZ (hw _ (List.mem_of_getElem? (i := 105) rfl))) (notFace_of_selects (args := #[]) (mvT hZ (hw _ (List.mem_of_getElem? (i := 107) rfl)))) (mvT hZ (hw _ (List.mem_of_getElem? (i := 107) rfl))) (mvT hZ (hw _ (List.mem_of_getElem? (i := 106) rfl))) (by decide) (backOf (W := 0) (rmT_zxid l Z a0 hw [] (b38) (p0) h40 n0 Zn40 (G39x0_40)) hZ (hw _ (List.mem_of_getElem? (i := 108) rfl)) (hw _ (List.mem_of_getElem? (i := 79) rfl)) (by decide) (by decide)) q48a q48c (g := (mkF m 236 #[.val (.long p0), .second, .val (.long p1), .second, .val (.long p2), .second, .val (.long p3), .second, .val (.long p4), .second, .val (.int p5), .val (.int (2 : Int32)), .val (.ref b1), .val (.ref b3), .val (.ref b5), .val (.ref b38), .val (.ref b40), .val (.ref b5), .val (.int (1 : Int32)), .val (.int (1 : Int32)), .unset] [(.ref b38)])) rfl (by rw [hml]; rfl) (Steps.refl _) (argsL := []) (rest := []) (lenOf own_pd1 rfl) rfl (by show 2 * 0 + _ ≤ _; exact Nat.le_of_eq rfl) (hb hby at_236) (fun _ _ => ⟨rfl, e47, (by decide : 6 + 0 ≤ _), (by decide : 25 + 0 ≤ _)⟩)
    dsimp only [Pt.U, Pt.locs, Pt.cells, Pt.slots] at X48 l48 y48 z48 st48 hQ48
    subst l48 y48 z48
    have X48 : Stand p l e room_1 s m _ below meth c T48 _ 6 25 := X48
    obtain ⟨rfl, Nq48, e48⟩ := hQ48
    have N48 := Fr.app N47 Nq48
    refine OGo.st (T' := T48) (g' := (mkF m 239 #[.val (.long p0), .second, .val (.long p1), .second, .val (.long p2), .second, .val (.long p3), .second, .val (.long p4), .second, .val (.int p5), .val (.int (2 : Int32)), .val (.ref b1), .val (.ref b3), .val (.ref b5), .val (.ref b38), .val (.ref b40), .val (.ref b5), .val (.int (1 : Int32)), .val (.int (1 : Int32)), .unset] [(.long p0)])) (fun _ k => st48.trans k) ?_
    refine OGo.st (T' := T48) (g' := (mkF m 246 #[.val (.long p0), .second, .val (.long p1), .second, .val (.long p2), .second, .val (.long p3), .second, .val (.long p4), .second, .val (.int p5), .val (.int (2 : Int32)), .val (.ref b1), .val (.ref b3), .val (.ref b5), .val (.ref b38), .val (.ref b40), .val (.ref b5), .val (.int (1 : Int32)), .val (.int (1 : Int32)), .unset] [(.ref b38)])) (fun _ k => (XS.lloadN X48.here hx rfl (hb hby at_239) rfl (XS.lcmp X48.here hx rfl (hb hby at_240) rfl (XS.ifNo X48.here hx rfl (hb hby at_241) rfl ((if0 _ _).trans (teq ((lw_eq p0 p0).mpr (rfl : p0 = p0))).2) (XS.aload X48.here hx rfl (hb hby at_244) rfl rfl k))))) ?_
    obtain ⟨cq49, kq49, q49a, q49b, q49c⟩ := isOf hZ e48 A38_40
    obtain ⟨_, _, ⟨T49, L49, k49, n49⟩, -, X49, ⟨Lc49, hQ49, l49, y49, z49⟩, st49⟩ := X48.virtualBack hx (y := (⟨"com/example/rallypoint/rallypoint/server/LogEntry$TreeChanged", "time", "()J"⟩ : MethodName)) (z := (⟨"com/example/rallypoint/rallypoint/server/LogEntry$TreeChanged", "time", "()J"⟩ : MethodName)) hown (mvT hZ (hw _ (List.mem_of_getElem? (i := 109) rfl))) (mvT hZ (hw _ (List.mem_of_getElem? (i := 110) rfl))) (notFace_of_selects (args := #[]) (mvT hZ (hw _ (List.mem_of_getElem? (i := 112) rfl)))) (mvT hZ (hw _ (List.mem_of_getElem? (i := 112) rfl))) (mvT hZ (hw _ (List.mem_of_getElem? (i := 111) rfl))) (by decide) (backOf (W := 0) (rmT_time l Z a0 hw [] (b38) (p1) h40 n0 Zn40 (G39x1_40)) hZ (hw _ (List.mem_of_getElem? (i := 113) rfl)) (hw _ (List.mem_of_getElem? (i := 79) rfl)) (by decide) (by decide)) q49a q49c (g := (mkF m 246 #[.val (.long p0), .second, .val (.long p1), .second, .val (.long p2), .second, .val (.long p3), .second, .val (.long p4), .second, .val (.int p5), .val (.int (2 : Int32)), .val (.ref b1), .val (.ref b3), .val (.ref b5), .val (.ref b38), .val (.ref b40), .val (.ref b5), .val (.int (1 : Int32)), .val (.int (1 : Int32)), .unset] [(.ref b38)])) rfl (by rw [hml]; rfl) (Steps.refl _) (argsL := []) (rest := []) (lenOf own_pd1 rfl) rfl (by show 2 * 0 + _ ≤ _; exact Nat.le_of_eq rfl) (hb hby at_246) (fun _ _ => ⟨rfl, e48, (by decide : 6 + 0 ≤ _), (by decide : 25 + 0 ≤ _)⟩)
    dsimp only [Pt.U, Pt.locs, Pt.cells, Pt.slots] at X49 l49 y49 z49 st49 hQ49
    subst l49 y49 z49
    have X49 : Stand p l e room_1 s m _ below meth c T49 _ 6 25 := X49
    obtain ⟨rfl, Nq49, e49⟩ := hQ49
    have N49 := Fr.app N48 Nq49
    refine OGo.st (T' := T49) (g' := (mkF m 249 #[.val (.long p0), .second, .val (.long p1), .second, .val (.long p2), .second, .val (.long p3), .second, .val (.long p4), .second, .val (.int p5), .val (.int (2 : Int32)), .val (.ref b1), .val (.ref b3), .val (.ref b5), .val (.ref b38), .val (.ref b40), .val (.ref b5), .val (.int (1 : Int32)), .val (.int (1 : Int32)), .unset] [(.long p1)])) (fun _ k => st49.trans k) ?_
    refine OGo.st (T' := T49) (g' := (mkF m 256 #[.val (.long p0), .second, .val (.long p1), .second, .val (.long p2), .second, .val (.long p3), .second, .val (.long p4), .second, .val (.int p5), .val (.int (2 : Int32)), .val (.ref b1), .val (.ref b3), .val (.ref b5), .val (.ref b38), .val (.ref b40), .val (.ref b5), .val (.int (1 : Int32)), .val (.int (1 : Int32)), .unset] [(.ref b38)])) (fun _ k => (XS.lloadN X49.here hx rfl (hb hby at_249) rfl (XS.lcmp X49.here hx rfl (hb hby at_250) rfl (XS.ifNo X49.here hx rfl (hb hby at_251) rfl ((if0 _ _).trans (teq ((lw_eq p1 p1).mpr (rfl : p1 = p1))).2) (XS.aload X49.here hx rfl (hb hby at_254) rfl rfl k))))) ?_
    obtain ⟨cq50, kq50, q50a, q50b, q50c⟩ := isOf hZ e49 A38_40
    obtain ⟨_, _, ⟨T50, L50, k50, n50⟩, -, X50, ⟨Lc50, hQ50, l50, y50, z50⟩, st50⟩ := X49.virtualBack hx (y := (⟨"com/example/rallypoint/rallypoint/server/LogEntry$TreeChanged", "session", "()J"⟩ : MethodName)) (z := (⟨"com/example/rallypoint/rallypoint/server/LogEntry$TreeChanged", "session", "()J"⟩ : MethodName)) hown (mvT hZ (hw _ (List.mem_of_getElem? (i := 114) rfl))) (mvT hZ (hw _ (List.mem_of_getElem? (i := 115) rfl))) (notFace_of_selects (args := #[]) (mvT hZ (hw _ (List.mem_of_getElem? (i := 117) rfl)))) (mvT hZ (hw _ (List.mem_of_getElem? (i := 117) rfl))) (mvT hZ (hw _ (List.mem_of_getElem? (i := 116) rfl))) (by decide) (backOf (W := 0) (rmT_session l Z a0 hw [] (b38) (p2) h40 n0 Zn40 (G39x2_40)) hZ (hw _ (List.mem_of_getElem? (i := 118) rfl)) (hw _ (List.mem_of_getElem? (i := 79) rfl)) (by decide) (by decide)) q50a q50c (g := (mkF m 256 #[.val (.long p0), .second, .val (.long p1), .second, .val (.long p2), .second, .val (.long p3), .second, .val (.long p4), .second, .val (.int p5), .val (.int (2 : Int32)), .val (.ref b1), .val (.ref b3), .val (.ref b5), .val (.ref b38), .val (.ref b40), .val (.ref b5), .val (.int (1 : Int32)), .val (.int (1 : Int32)), .unset] [(.ref b38)])) rfl (by rw [hml]; rfl) (Steps.refl _) (argsL := []) (rest := []) (lenOf own_pd1 rfl) rfl (by show 2 * 0 + _ ≤ _; exact Nat.le_of_eq rfl) (hb hby at_256) (fun _ _ => ⟨rfl, e49, (by decide : 6 + 0 ≤ _), (by decide : 25 + 0 ≤ _)⟩)
    dsimp only [Pt.U, Pt.locs, Pt.cells, Pt.slots] at X50 l50 y50 z50 st50 hQ50
    subst l50 y50 z50
    have X50 : Stand p l e room_1 s m _ below meth c T50 _ 6 25 := X50
    obtain ⟨rfl, Nq50, e50⟩ := hQ50
    have N50 := Fr.app N49 Nq50
    refine OGo.st (T' := T50) (g' := (mkF m 259 #[.val (.long p0), .second, .val (.long p1), .second, .val (.long p2), .second, .val (.long p3), .second, .val (.long p4), .second, .val (.int p5), .val (.int (2 : Int32)), .val (.ref b1), .val (.ref b3), .val (.ref b5), .val (.ref b38), .val (.ref b40), .val (.ref b5), .val (.int (1 : Int32)), .val (.int (1 : Int32)), .unset] [(.long p2)])) (fun _ k => st50.trans k) ?_
    refine OGo.st (T' := T50) (g' := (mkF m 267 #[.val (.long p0), .second, .val (.long p1), .second, .val (.long p2), .second, .val (.long p3), .second, .val (.long p4), .second, .val (.int p5), .val (.int (2 : Int32)), .val (.ref b1), .val (.ref b3), .val (.ref b5), .val (.ref b38), .val (.ref b40), .val (.ref b5), .val (.int (1 : Int32)), .val (.int (1 : Int32)), .unset] [(.ref b38)])) (fun _ k => (XS.lload X50.here hx rfl (hb hby at_259) rfl (XS.lcmp X50.here hx rfl (hb hby at_261) rfl (XS.ifNo X50.here hx rfl (hb hby at_262) rfl ((if0 _ _).trans (teq ((lw_eq p2 p2).mpr (rfl : p2 = p2))).2) (XS.aload X50.here hx rfl (hb hby at_265) rfl rfl k))))) ?_
    obtain ⟨cq51, kq51, q51a, q51b, q51c⟩ := isOf hZ e50 A38_40
    obtain ⟨_, _, ⟨T51, L51, k51, n51⟩, -, X51, ⟨Lc51, hQ51, l51, y51, z51⟩, st51⟩ := X50.virtualBack hx (y := (⟨"com/example/rallypoint/rallypoint/server/LogEntry$TreeChanged", "ops", "()Ljava/util/List;"⟩ : MethodName)) (z := (⟨"com/example/rallypoint/rallypoint/server/LogEntry$TreeChanged", "ops", "()Ljava/util/List;"⟩ : MethodName)) hown (mvT hZ (hw _ (List.mem_of_getElem? (i := 99) rfl))) (mvT hZ (hw _ (List.mem_of_getElem? (i := 100) rfl))) (notFace_of_selects (args := #[]) (mvT hZ (hw _ (List.mem_of_getElem? (i := 102) rfl)))) (mvT hZ (hw _ (List.mem_of_getElem? (i := 102) rfl))) (mvT hZ (hw _ (List.mem_of_getElem? (i := 101) rfl))) (by decide) (backOf (W := 0) (rmT_ops l Z a0 hw [] (b38) (b5) h40 n0 Zn40 (G39x3_40)) hZ (hw _ (List.mem_of_getElem? (i := 103) rfl)) (hw _ (List.mem_of_getElem? (i := 79) rfl)) (by decide) (by decide)) q51a q51c (g := (mkF m 267 #[.val (.long p0), .second, .val (.long p1), .second, .val (.long p2), .second, .val (.long p3), .second, .val (.long p4), .second, .val (.int p5), .val (.int (2 : Int32)), .val (.ref b1), .val (.ref b3), .val (.ref b5), .val (.ref b38), .val (.ref b40), .val (.ref b5), .val (.int (1 : Int32)), .val (.int (1 : Int32)), .unset] [(.ref b38)])) rfl (by rw [hml]; rfl) (Steps.refl _) (argsL := []) (rest := []) (lenOf own_pd2 rfl) rfl (by show 2 * 0 + _ ≤ _; exact Nat.le_of_eq rfl) (hb hby at_267) (fun _ _ => ⟨rfl, e50, (by decide : 6 + 0 ≤ _), (by decide : 25 + 0 ≤ _)⟩)
    dsimp only [Pt.U, Pt.locs, Pt.cells, Pt.slots] at X51 l51 y51 z51 st51 hQ51
    subst l51 y51 z51
    have X51 : Stand p l e room_1 s m _ below meth c T51 _ 6 25 := X51
    obtain ⟨rfl, Nq51, e51⟩ := hQ51
    have N51 := Fr.app N50 Nq51
    refine OGo.st (T' := T51) (g' := (mkF m 270 #[.val (.long p0), .second, .val (.long p1), .second, .val (.long p2), .second, .val (.long p3), .second, .val (.long p4), .second, .val (.int p5), .val (.int (2 : Int32)), .val (.ref b1), .val (.ref b3), .val (.ref b5), .val (.ref b38), .val (.ref b40), .val (.ref b5), .val (.int (1 : Int32)), .val (.int (1 : Int32)), .unset] [(.ref b5)])) (fun _ k => st51.trans k) ?_
    refine OGo.st (T' := T51) (g' := (mkF m 272 #[.val (.long p0), .second, .val (.long p1), .second, .val (.long p2), .second, .val (.long p3), .second, .val (.long p4), .second, .val (.int p5), .val (.int (2 : Int32)), .val (.ref b1), .val (.ref b3), .val (.ref b5), .val (.ref b38), .val (.ref b40), .val (.ref b5), .val (.int (1 : Int32)), .val (.int (1 : Int32)), .unset] [(.ref b5), (.ref b5)])) (fun _ k => (XS.aload X51.here hx rfl (hb hby at_270) rfl rfl k)) ?_
    refine OGo.st (T' := T51) (g' := (mkF m 277 #[.val (.long p0), .second, .val (.long p1), .second, .val (.long p2), .second, .val (.long p3), .second, .val (.long p4), .second, .val (.int p5), .val (.int (2 : Int32)), .val (.ref b1), .val (.ref b3), .val (.ref b5), .val (.ref b38), .val (.ref b40), .val (.ref b5), .val (.int (1 : Int32)), .val (.int (1 : Int32)), .unset] [(.ref b5)])) (fun _ k => (Jvm.RoadKit.acmp (g := (mkF m 272 #[.val (.long p0), .second, .val (.long p1), .second, .val (.long p2), .second, .val (.long p3), .second, .val (.long p4), .second, .val (.int p5), .val (.int (2 : Int32)), .val (.ref b1), .val (.ref b3), .val (.ref b5), .val (.ref b38), .val (.ref b40), .val (.ref b5), .val (.int (1 : Int32)), .val (.int (1 : Int32)), .unset] [(.ref b5), (.ref b5)])) X51 hx rfl rfl rfl (pc0 := 272) (pc' := 275) (same := true) rfl (hb hby at_272) rfl (decide_eq_true rfl) (by decide) (by decide) (XS.aload X51.here hx rfl (hb hby at_275) rfl rfl k))) ?_
    obtain ⟨cq52, kq52, q52a, q52b, q52c⟩ := isOf hZ e51 A5_40
    obtain ⟨_, _, ⟨T52, L52, k52, n52⟩, -, X52, ⟨Lc52, hQ52, l52, y52, z52⟩, st52⟩ := X51.interfaceBack hx (xi := (⟨"java/util/List", "size", "()I"⟩ : MethodName)) (y := (⟨"java/util/ArrayList", "size", "()I"⟩ : MethodName)) hown (mvT hZ (hw _ (List.mem_of_getElem? (i := 119) rfl))) (mvT hZ (hw _ (List.mem_of_getElem? (i := 120) rfl))) (mvT hZ (hw _ (List.mem_of_getElem? (i := 121) rfl))) (mvT hZ (hw _ (List.mem_of_getElem? (i := 122) rfl))) (mvT hZ (hw _ (List.mem_of_getElem? (i := 123) rfl))) (mvT hZ (hw _ (List.mem_of_getElem? (i := 124) rfl))) (mvT hZ (hw _ (List.mem_of_getElem? (i := 125) rfl))) (mvT hZ (hw _ (List.mem_of_getElem? (i := 49) rfl))) (by decide) (backOf (W := 0) (rmSz l Z a0 hw [] (b5) ((2 : Int32)) h40 n0 Zn40 (G37x2_40)) hZ (hw _ (List.mem_of_getElem? (i := 126) rfl)) (hw _ (List.mem_of_getElem? (i := 20) rfl)) (by decide) (by decide)) q52a q52b q52c (g := (mkF m 277 #[.val (.long p0), .second, .val (.long p1), .second, .val (.long p2), .second, .val (.long p3), .second, .val (.long p4), .second, .val (.int p5), .val (.int (2 : Int32)), .val (.ref b1), .val (.ref b3), .val (.ref b5), .val (.ref b38), .val (.ref b40), .val (.ref b5), .val (.int (1 : Int32)), .val (.int (1 : Int32)), .unset] [(.ref b5)])) rfl (by rw [hml]; rfl) (Steps.refl _) (argsL := []) (rest := []) (lenOf own_pd0 rfl) rfl (by show 2 * 0 + _ ≤ _; exact Nat.le_of_eq rfl) (hb hby at_277) (fun _ _ => ⟨rfl, e51, (by decide : 6 + 0 ≤ _), (by decide : 25 + 0 ≤ _)⟩)
    dsimp only [Pt.U, Pt.locs, Pt.cells, Pt.slots] at X52 l52 y52 z52 st52 hQ52
    subst l52 y52 z52
    have X52 : Stand p l e room_1 s m _ below meth c T52 _ 6 25 := X52
    obtain ⟨rfl, Nq52, e52⟩ := hQ52
    have N52 := Fr.app N51 Nq52
    refine OGo.st (T' := T52) (g' := (mkF m 282 #[.val (.long p0), .second, .val (.long p1), .second, .val (.long p2), .second, .val (.long p3), .second, .val (.long p4), .second, .val (.int p5), .val (.int (2 : Int32)), .val (.ref b1), .val (.ref b3), .val (.ref b5), .val (.ref b38), .val (.ref b40), .val (.ref b5), .val (.int (1 : Int32)), .val (.int (1 : Int32)), .unset] [(.int (2 : Int32))])) (fun _ k => st52.trans k) ?_
    refine OGo.st (T' := T52) (g' := (mkF m 296 #[.val (.long p0), .second, .val (.long p1), .second, .val (.long p2), .second, .val (.long p3), .second, .val (.long p4), .second, .val (.int p5), .val (.int (2 : Int32)), .val (.ref b1), .val (.ref b3), .val (.ref b5), .val (.ref b38), .val (.ref b40), .val (.ref b5), .val (.int (1 : Int32)), .val (.int (1 : Int32)), .val (.int (1 : Int32))] [(.int (1 : Int32))])) (fun _ k => (XS.iload X52.here hx rfl (hb hby at_282) rfl (XS.icmpNo X52.here hx rfl (hb hby at_284) rfl (teq (by decide : (2 : Int32) = (2 : Int32))).2 (XS.iconst X52.here hx rfl (hb hby at_287) (XS.goto X52.here hx rfl (pc0 := 288) (pc' := 292) rfl (hb hby at_288) (by decide) (by decide) (XS.istore X52.here hx rfl (hb hby at_292) rfl (l' := #[.val (.long p0), .second, .val (.long p1), .second, .val (.long p2), .second, .val (.long p3), .second, .val (.long p4), .second, .val (.int p5), .val (.int (2 : Int32)), .val (.ref b1), .val (.ref b3), .val (.ref b5), .val (.ref b38), .val (.ref b40), .val (.ref b5), .val (.int (1 : Int32)), .val (.int (1 : Int32)), .val (.int (1 : Int32))]) rfl (XS.iload X52.here hx rfl (hb hby at_294) rfl k))))))) ?_
    refine OGo.st (T' := T52) (g' := (mkF m 310 #[.val (.long p0), .second, .val (.long p1), .second, .val (.long p2), .second, .val (.long p3), .second, .val (.long p4), .second, .val (.int p5), .val (.int (2 : Int32)), .val (.ref b1), .val (.ref b3), .val (.ref b5), .val (.ref b38), .val (.ref b40), .val (.ref b5), .val (.int (1 : Int32)), .val (.int (1 : Int32)), .val (.int (1 : Int32))] [(.int (1 : Int32))])) (fun _ k => (XS.ifNo X52.here hx rfl (hb hby at_296) rfl ((if0 _ _).trans (feq (by decide : ¬ ((1 : Int32) = (0 : Int32)))).1) (XS.iload X52.here hx rfl (hb hby at_299) rfl (XS.ifNo X52.here hx rfl (hb hby at_301) rfl ((if0 _ _).trans (feq (by decide : ¬ ((1 : Int32) = (0 : Int32)))).1) (XS.iload X52.here hx rfl (hb hby at_304) rfl (XS.ifNo X52.here hx rfl (hb hby at_306) rfl ((if0 _ _).trans (feq (by decide : ¬ ((1 : Int32) = (0 : Int32)))).1) (XS.iconst X52.here hx rfl (hb hby at_309) k))))))) ?_
    refine OGo.st (T' := T52) (g' := (mkF m 314 #[.val (.long p0), .second, .val (.long p1), .second, .val (.long p2), .second, .val (.long p3), .second, .val (.long p4), .second, .val (.int p5), .val (.int (2 : Int32)), .val (.ref b1), .val (.ref b3), .val (.ref b5), .val (.ref b38), .val (.ref b40), .val (.ref b5), .val (.int (1 : Int32)), .val (.int (1 : Int32)), .val (.int (1 : Int32))] [(.int (1 : Int32))])) (fun _ k => (XS.goto X52.here hx rfl (pc0 := 310) (pc' := 314) rfl (hb hby at_310) (by decide) (by decide) k)) ?_
    exact OGo.ret X52 hx hlk Bd.returns rfl (own_rI (Or.inr (Or.inl rfl))) (hb hby at_314) (by decide) (by decide) e52 (⟨rfl, N52⟩)
  · rw [hl7]
    refine OGo.st (T' := T6) (g' := (mkF m 47 #[.val (.long p0), .second, .val (.long p1), .second, .val (.long p2), .second, .val (.long p3), .second, .val (.long p4), .second, .val (.int p5), .val (.int (3 : Int32)), .val (.ref b1), .val (.ref b3), .val (.ref b5), .unset, .unset, .unset, .unset, .unset, .unset] [(.ref b1), (.ref b5)])) (fun _ k => (XS.iload X6.here hx rfl (hb hby at_37) rfl (XS.iconst X6.here hx rfl (hb hby at_39) (XS.icmpNo X6.here hx rfl (hb hby at_40) rfl (flt (by decide : ¬ ((3 : Int32) < (1 : Int32)))).1 (XS.aload X6.here hx rfl (hb hby at_43) rfl rfl (XS.aload X6.here hx rfl (hb hby at_45) rfl rfl k)))))) ?_
    obtain ⟨cq53, kq53, q53a, q53b, q53c⟩ := isOf hZ e6 A5_6
    obtain ⟨_, _, ⟨T53, L53, k53, n53⟩, -, X53, ⟨Lc53, hQ53, l53, y53, z53⟩, st53⟩ := X6.interfaceBack hx (xi := (⟨"java/util/List", "add", "(Ljava/lang/Object;)Z"⟩ : MethodName)) (y := (⟨"java/util/ArrayList", "add", "(Ljava/lang/Object;)Z"⟩ : MethodName)) hown (mvT hZ (hw _ (List.mem_of_getElem? (i := 42) rfl))) (mvT hZ (hw _ (List.mem_of_getElem? (i := 43) rfl))) (mvT hZ (hw _ (List.mem_of_getElem? (i := 44) rfl))) (mvT hZ (hw _ (List.mem_of_getElem? (i := 45) rfl))) (mvT hZ (hw _ (List.mem_of_getElem? (i := 46) rfl))) (mvT hZ (hw _ (List.mem_of_getElem? (i := 47) rfl))) (mvT hZ (hw _ (List.mem_of_getElem? (i := 48) rfl))) (mvT hZ (hw _ (List.mem_of_getElem? (i := 49) rfl))) (by decide) (backOf (W := 0) (rmAd0 l Z a0 hw [] (b5) ((0 : Int32)) (b1) (ed) h6 n0 Zn6 (A5_6) (G6x0) (G6x1) (G6x2) (A1_6) (g_b5) ((Ne.symm ne_b1_b5)) (OLD_6) (S_ed) (A_ed)) hZ (hw _ (List.mem_of_getElem? (i := 50) rfl)) (hw _ (List.mem_of_getElem? (i := 20) rfl)) (by decide) (by decide)) q53a q53b q53c (g := (mkF m 47 #[.val (.long p0), .second, .val (.long p1), .second, .val (.long p2), .second, .val (.long p3), .second, .val (.long p4), .second, .val (.int p5), .val (.int (3 : Int32)), .val (.ref b1), .val (.ref b3), .val (.ref b5), .unset, .unset, .unset, .unset, .unset, .unset] [(.ref b1), (.ref b5)])) rfl (by rw [hml]; rfl) (Steps.refl _) (argsL := [(.ref b1)]) (rest := []) (lenOf own_pd13 rfl) rfl (by show 2 * 0 + _ ≤ _; exact Nat.le_of_eq rfl) (hb hby at_47) (fun _ _ => ⟨rfl, e6, (by decide : 3 + 1 ≤ _), (by decide : 7 + 10 ≤ _)⟩)
    dsimp only [Pt.U, Pt.locs, Pt.cells, Pt.slots] at X53 l53 y53 z53 st53 hQ53
    subst l53 y53 z53
    have X53 : Stand p l e room_1 s m _ below meth c T53 _ 4 17 := X53
    obtain ⟨h53, e53⟩ : ∃ z, T53.heap = z := ⟨_, rfl⟩
    rw [e53] at hQ53
    obtain ⟨b53, rfl, Nq53, Kc53, sz_b53, G53x0, G53x1, G53x2, G53x3⟩ := hQ53
    have N53 := Fr.app N6 Nq53
    have ne_ed_b53 : ed ≠ b53 := Nat.ne_of_lt (Nat.lt_of_lt_of_le (A_ed.ext OLD_6.2).lt sz_b53)
    have ne_b1_b53 : b1 ≠ b53 := Nat.ne_of_lt (Nat.lt_of_lt_of_le A1_6.lt sz_b53)
    have ne_b3_b53 : b3 ≠ b53 := Nat.ne_of_lt (Nat.lt_of_lt_of_le A3_6.lt sz_b53)
    have ne_b5_b53 : b5 ≠ b53 := Nat.ne_of_lt (Nat.lt_of_lt_of_le A5_6.lt sz_b53)
    have g_b53 : n0 ≤ b53 := Nat.le_trans Zn6 sz_b53
    have OLD_53 : Old Z n0 h53 := OLD_6.keep Kc53 (allS g_b5 all0)
    have A1_53 : Exa Z h53 b1 "com/example/rallypoint/rallypoint/protocol/MultiRequest$Op" := A1_6.keep Kc53
    have G2x0_53 : Fld Z h53 b1 "com/example/rallypoint/rallypoint/protocol/MultiRequest$Op" "op" "Lcom/example/rallypoint/rallypoint/protocol/OpCode;" .null := G2x0_6.keep Kc53 (ninS ne_b1_b5 nin0)
    have G2x1_53 : Fld Z h53 b1 "com/example/rallypoint/rallypoint/protocol/MultiRequest$Op" "body" "Lcom/example/rallypoint/rallypoint/protocol/RequestBody;" .null := G2x1_6.keep Kc53 (ninS ne_b1_b5 nin0)
    have A3_53 : Exa Z h53 b3 "com/example/rallypoint/rallypoint/protocol/MultiRequest$Op" := A3_6.keep Kc53
    have G4x0_53 : Fld Z h53 b3 "com/example/rallypoint/rallypoint/protocol/MultiRequest$Op" "op" "Lcom/example/rallypoint/rallypoint/protocol/OpCode;" .null := G4x0_6.keep Kc53 (ninS ne_b3_b5 nin0)
    have G4x1_53 : Fld Z h53 b3 "com/example/rallypoint/rallypoint/protocol/MultiRequest$Op" "body" "Lcom/example/rallypoint/rallypoint/protocol/RequestBody;" .null := G4x1_6.keep Kc53 (ninS ne_b3_b5 nin0)
    have A5_53 : Exa Z h53 b5 "java/util/ArrayList" := A5_6.keep Kc53
    have Zn53 : n0 ≤ h53.size := Nat.le_trans Zn6 Kc53.1
    refine OGo.st (T' := T53) (g' := (mkF m 52 #[.val (.long p0), .second, .val (.long p1), .second, .val (.long p2), .second, .val (.long p3), .second, .val (.long p4), .second, .val (.int p5), .val (.int (3 : Int32)), .val (.ref b1), .val (.ref b3), .val (.ref b5), .unset, .unset, .unset, .unset, .unset, .unset] [(.int (1 : Int32))])) (fun _ k => st53.trans k) ?_
    refine OGo.st (T' := T53) (g' := (mkF m 63 #[.val (.long p0), .second, .val (.long p1), .second, .val (.long p2), .second, .val (.long p3), .second, .val (.long p4), .second, .val (.int p5), .val (.int (3 : Int32)), .val (.ref b1), .val (.ref b3), .val (.ref b5), .unset, .unset, .unset, .unset, .unset, .unset] [(.ref b3), (.ref b5)])) (fun _ k => (XS.pop X53.here hx rfl (hb hby at_52) rfl rfl (XS.iload X53.here hx rfl (hb hby at_53) rfl (XS.iconst X53.here hx rfl (hb hby at_55) (XS.icmpNo X53.here hx rfl (hb hby at_56) rfl (flt (by decide : ¬ ((3 : Int32) < (2 : Int32)))).1 (XS.aload X53.here hx rfl (hb hby at_59) rfl rfl (XS.aload X53.here hx rfl (hb hby at_61) rfl rfl k))))))) ?_
    obtain ⟨cq54, kq54, q54a, q54b, q54c⟩ := isOf hZ e53 A5_53
    obtain ⟨_, _, ⟨T54, L54, k54, n54⟩, -, X54, ⟨Lc54, hQ54, l54, y54, z54⟩, st54⟩ := X53.interfaceBack hx (xi := (⟨"java/util/List", "add", "(Ljava/lang/Object;)Z"⟩ : MethodName)) (y := (⟨"java/util/ArrayList", "add", "(Ljava/lang/Object;)Z"⟩ : MethodName)) hown (mvT hZ (hw _ (List.mem_of_getElem? (i := 42) rfl))) (mvT hZ (hw _ (List.mem_of_getElem? (i := 43) rfl))) (mvT hZ (hw _ (List.mem_of_getElem? (i := 44) rfl))) (mvT hZ (hw _ (List.mem_of_getElem? (i := 45) rfl))) (mvT hZ (hw _ (List.mem_of_getElem? (i := 46) rfl))) (mvT hZ (hw _ (List.mem_of_getElem? (i := 47) rfl))) (mvT hZ (hw _ (List.mem_of_getElem? (i := 48) rfl))) (mvT hZ (hw _ (List.mem_of_getElem? (i := 49) rfl))) (by decide) (backOf (W := 0) (rmAd1 l Z a0 hw [] (b5) (((0 : Int32) + (1 : Int32))) (b3) (b53) (b1) h53 n0 Zn53 (A5_53) (G53x0) (G53x1) (G53x2) (A3_53) (G53x3) (g_b5) (g_b53) ((Ne.symm ne_b3_b5)) (ne_b5_b53) (ne_b3_b53)) hZ (hw _ (List.mem_of_getElem? (i := 50) rfl)) (hw _ (List.mem_of_getElem? (i := 20) rfl)) (by decide) (by decide)) q54a q54b q54c (g := (mkF m 63 #[.val (.long p0), .second, .val (.long p1), .second, .val (.long p2), .second, .val (.long p3), .second, .val (.long p4), .second, .val (.int p5), .val (.int (3 : Int32)), .val (.ref b1), .val (.ref b3), .val (.ref b5), .unset, .unset, .unset, .unset, .unset, .unset] [(.ref b3), (.ref b5)])) rfl (by rw [hml]; rfl) (Steps.refl _) (argsL := [(.ref b3)]) (rest := []) (lenOf own_pd13 rfl) rfl (by show 2 * 0 + _ ≤ _; exact Nat.le_of_eq rfl) (hb hby at_63) (fun _ _ => ⟨rfl, e53, (by decide : 4 + 0 ≤ _), (by decide : 17 + 0 ≤ _)⟩)
    dsimp only [Pt.U, Pt.locs, Pt.cells, Pt.slots] at X54 l54 y54 z54 st54 hQ54
    subst l54 y54 z54
    have X54 : Stand p l e room_1 s m _ below meth c T54 _ 4 17 := X54
    obtain ⟨h54, e54⟩ : ∃ z, T54.heap = z := ⟨_, rfl⟩
    rw [e54] at hQ54
    obtain ⟨rfl, Nq54, Kc54, G54x0, G54x1, G54x2, G54x3⟩ := hQ54
    have N54 := Fr.app N53 Nq54
    have OLD_54 : Old Z n0 h54 := OLD_53.keep Kc54 (allS g_b5 (allS g_b53 all0))
    have A1_54 : Exa Z h54 b1 "com/example/rallypoint/rallypoint/protocol/MultiRequest$Op" := A1_53.keep Kc54
    have G2x0_54 : Fld Z h54 b1 "com/example/rallypoint/rallypoint/protocol/MultiRequest$Op" "op" "Lcom/example/rallypoint/rallypoint/protocol/OpCode;" .null := G2x0_53.keep Kc54 (ninS ne_b1_b5 (ninS ne_b1_b53 nin0))
    have G2x1_54 : Fld Z h54 b1 "com/example/rallypoint/rallypoint/protocol/MultiRequest$Op" "body" "Lcom/example/rallypoint/rallypoint/protocol/RequestBody;" .null := G2x1_53.keep Kc54 (ninS ne_b1_b5 (ninS ne_b1_b53 nin0))
    have A3_54 : Exa Z h54 b3 "com/example/rallypoint/rallypoint/protocol/MultiRequest$Op" := A3_53.keep Kc54
    have G4x0_54 : Fld Z h54 b3 "com/example/rallypoint/rallypoint/protocol/MultiRequest$Op" "op" "Lcom/example/rallypoint/rallypoint/protocol/OpCode;" .null := G4x0_53.keep Kc54 (ninS ne_b3_b5 (ninS ne_b3_b53 nin0))
    have G4x1_54 : Fld Z h54 b3 "com/example/rallypoint/rallypoint/protocol/MultiRequest$Op" "body" "Lcom/example/rallypoint/rallypoint/protocol/RequestBody;" .null := G4x1_53.keep Kc54 (ninS ne_b3_b5 (ninS ne_b3_b53 nin0))
    have A5_54 : Exa Z h54 b5 "java/util/ArrayList" := A5_53.keep Kc54
    have Zn54 : n0 ≤ h54.size := Nat.le_trans Zn53 Kc54.1
    refine OGo.st (T' := T54) (g' := (mkF m 68 #[.val (.long p0), .second, .val (.long p1), .second, .val (.long p2), .second, .val (.long p3), .second, .val (.long p4), .second, .val (.int p5), .val (.int (3 : Int32)), .val (.ref b1), .val (.ref b3), .val (.ref b5), .unset, .unset, .unset, .unset, .unset, .unset] [(.int (1 : Int32))])) (fun _ k => st54.trans k) ?_
    refine OGo.st (T' := T54) (g' := (mkF m 79 #[.val (.long p0), .second, .val (.long p1), .second, .val (.long p2), .second, .val (.long p3), .second, .val (.long p4), .second, .val (.int p5), .val (.int (3 : Int32)), .val (.ref b1), .val (.ref b3), .val (.ref b5), .unset, .unset, .unset, .unset, .unset, .unset] [(.ref b1), (.ref b5)])) (fun _ k => (XS.pop X54.here hx rfl (hb hby at_68) rfl rfl (XS.iload X54.here hx rfl (hb hby at_69) rfl (XS.iconst X54.here hx rfl (hb hby at_71) (XS.icmpNo X54.here hx rfl (hb hby at_72) rfl (flt (by decide : ¬ ((3 : Int32) < (3 : Int32)))).1 (XS.aload X54.here hx rfl (hb hby at_75) rfl rfl (XS.aload X54.here hx rfl (hb hby at_77) rfl rfl k))))))) ?_
    obtain ⟨cq55, kq55, q55a, q55b, q55c⟩ := isOf hZ e54 A5_54
    obtain ⟨_, _, ⟨T55, L55, k55, n55⟩, -, X55, ⟨Lc55, hQ55, l55, y55, z55⟩, st55⟩ := X54.interfaceBack hx (xi := (⟨"java/util/List", "add", "(Ljava/lang/Object;)Z"⟩ : MethodName)) (y := (⟨"java/util/ArrayList", "add", "(Ljava/lang/Object;)Z"⟩ : MethodName)) hown (mvT hZ (hw _ (List.mem_of_getElem? (i := 42) rfl))) (mvT hZ (hw _ (List.mem_of_getElem? (i := 43) rfl))) (mvT hZ (hw _ (List.mem_of_getElem? (i := 44) rfl))) (mvT hZ (hw _ (List.mem_of_getElem? (i := 45) rfl))) (mvT hZ (hw _ (List.mem_of_getElem? (i := 46) rfl))) (mvT hZ (hw _ (List.mem_of_getElem? (i := 47) rfl))) (mvT hZ (hw _ (List.mem_of_getElem? (i := 48) rfl))) (mvT hZ (hw _ (List.mem_of_getElem? (i := 49) rfl))) (by decide) (backOf (W := 0) (rmAd2 l Z a0 hw [] (b5) ((((0 : Int32) + (1 : Int32)) + (1 : Int32))) (b1) (b53) (b1) (b3) h54 n0 Zn54 (A5_54) (G54x0) (G54x1) (G54x2) (A1_54) (G54x3) (g_b5) (g_b53) ((Ne.symm ne_b1_b5)) (ne_b5_b53) (ne_b1_b53)) hZ (hw _ (List.mem_of_getElem? (i := 50) rfl)) (hw _ (List.mem_of_getElem? (i := 20) rfl)) (by decide) (by decide)) q55a q55b q55c (g := (mkF m 79 #[.val (.long p0), .second, .val (.long p1), .second, .val (.long p2), .second, .val (.long p3), .second, .val (.long p4), .second, .val (.int p5), .val (.int (3 : Int32)), .val (.ref b1), .val (.ref b3), .val (.ref b5), .unset, .unset, .unset, .unset, .unset, .unset] [(.ref b1), (.ref b5)])) rfl (by rw [hml]; rfl) (Steps.refl _) (argsL := [(.ref b1)]) (rest := []) (lenOf own_pd13 rfl) rfl (by show 2 * 0 + _ ≤ _; exact Nat.le_of_eq rfl) (hb hby at_79) (fun _ _ => ⟨rfl, e54, (by decide : 4 + 0 ≤ _), (by decide : 17 + 0 ≤ _)⟩)
    dsimp only [Pt.U, Pt.locs, Pt.cells, Pt.slots] at X55 l55 y55 z55 st55 hQ55
    subst l55 y55 z55
    have X55 : Stand p l e room_1 s m _ below meth c T55 _ 4 17 := X55
    obtain ⟨h55, e55⟩ : ∃ z, T55.heap = z := ⟨_, rfl⟩
    rw [e55] at hQ55
    obtain ⟨rfl, Nq55, Kc55, G55x0, G55x1, G55x2, G55x3⟩ := hQ55
    have N55 := Fr.app N54 Nq55
    have OLD_55 : Old Z n0 h55 := OLD_54.keep Kc55 (allS g_b5 (allS g_b53 all0))
    have A1_55 : Exa Z h55 b1 "com/example/rallypoint/rallypoint/protocol/MultiRequest$Op" := A1_54.keep Kc55
    have G2x0_55 : Fld Z h55 b1 "com/example/rallypoint/rallypoint/protocol/MultiRequest$Op" "op" "Lcom/example/rallypoint/rallypoint/protocol/OpCode;" .null := G2x0_54.keep Kc55 (ninS ne_b1_b5 (ninS ne_b1_b53 nin0))
    have G2x1_55 : Fld Z h55 b1 "com/example/rallypoint/rallypoint/protocol/MultiRequest$Op" "body" "Lcom/example/rallypoint/rallypoint/protocol/RequestBody;" .null := G2x1_54.keep Kc55 (ninS ne_b1_b5 (ninS ne_b1_b53 nin0))
    have A3_55 : Exa Z h55 b3 "com/example/rallypoint/rallypoint/protocol/MultiRequest$Op" := A3_54.keep Kc55
    have G4x0_55 : Fld Z h55 b3 "com/example/rallypoint/rallypoint/protocol/MultiRequest$Op" "op" "Lcom/example/rallypoint/rallypoint/protocol/OpCode;" .null := G4x0_54.keep Kc55 (ninS ne_b3_b5 (ninS ne_b3_b53 nin0))
    have G4x1_55 : Fld Z h55 b3 "com/example/rallypoint/rallypoint/protocol/MultiRequest$Op" "body" "Lcom/example/rallypoint/rallypoint/protocol/RequestBody;" .null := G4x1_54.keep Kc55 (ninS ne_b3_b5 (ninS ne_b3_b53 nin0))
    have A5_55 : Exa Z h55 b5 "java/util/ArrayList" := A5_54.keep Kc55
    have Zn55 : n0 ≤ h55.size := Nat.le_trans Zn54 Kc55.1
    refine OGo.st (T' := T55) (g' := (mkF m 84 #[.val (.long p0), .second, .val (.long p1), .second, .val (.long p2), .second, .val (.long p3), .second, .val (.long p4), .second, .val (.int p5), .val (.int (3 : Int32)), .val (.ref b1), .val (.ref b3), .val (.ref b5), .unset, .unset, .unset, .unset, .unset, .unset] [(.int (1 : Int32))])) (fun _ k => st55.trans k) ?_
    refine OGo.st (T' := T55) (g' := (mkF m 85 #[.val (.long p0), .second, .val (.long p1), .second, .val (.long p2), .second, .val (.long p3), .second, .val (.long p4), .second, .val (.int p5), .val (.int (3 : Int32)), .val (.ref b1), .val (.ref b3), .val (.ref b5), .unset, .unset, .unset, .unset, .unset, .unset] [])) (fun _ k => (XS.pop X55.here hx rfl (hb hby at_84) rfl rfl k)) ?_
    obtain ⟨T56, h56, X56, e56, E56, A56, D56, -, st56⟩ := newO X55 hx hZ hown (hw _ (List.mem_of_getElem? (i := 77) rfl)) (hw _ (List.mem_of_getElem? (i := 78) rfl)) (hw _ (List.mem_of_getElem? (i := 79) rfl)) e55 (g := (mkF m 85 #[.val (.long p0), .second, .val (.long p1), .second, .val (.long p2), .second, .val (.long p3), .second, .val (.long p4), .second, .val (.int p5), .val (.int (3 : Int32)), .val (.ref b1), .val (.ref b3), .val (.ref b5), .unset, .unset, .unset, .unset, .unset, .unset] [])) rfl (hb hby at_85) (by decide) (by decide)
    obtain ⟨b56, g56⟩ : ∃ z, z = h55.size := ⟨_, rfl⟩
    rw [← g56] at A56 D56 st56
    have ne_ed_b56 : ed ≠ b56 := Nat.ne_of_lt (Nat.lt_of_lt_of_le (A_ed.ext OLD_55.2).lt (Nat.le_of_eq g56.symm))
    have ne_b1_b56 : b1 ≠ b56 := Nat.ne_of_lt (Nat.lt_of_lt_of_le A1_55.lt (Nat.le_of_eq g56.symm))
    have ne_b3_b56 : b3 ≠ b56 := Nat.ne_of_lt (Nat.lt_of_lt_of_le A3_55.lt (Nat.le_of_eq g56.symm))
    have ne_b5_b56 : b5 ≠ b56 := Nat.ne_of_lt (Nat.lt_of_lt_of_le A5_55.lt (Nat.le_of_eq g56.symm))
    have ne_b53_b56 : b53 ≠ b56 := Nat.ne_of_lt (Nat.lt_of_lt_of_le G55x3.lt (Nat.le_of_eq g56.symm))
    have g_b56 : n0 ≤ b56 := Nat.le_trans Zn55 (Nat.le_of_eq g56.symm)
    have F_zxid_b56_56 : Fld Z h56 b56 "com/example/rallypoint/rallypoint/server/LogEntry$TreeChanged" "zxid" "J" (.long (0 : Int64)) := D56 (Or.inr (hw _ (List.mem_of_getElem? (i := 85) rfl))) (ty := .long) (by decide)
    have F_time_b56_56 : Fld Z h56 b56 "com/example/rallypoint/rallypoint/server/LogEntry$TreeChanged" "time" "J" (.long (0 : Int64)) := D56 (Or.inr (hw _ (List.mem_of_getElem? (i := 87) rfl))) (ty := .long) (by decide)
    have F_session_b56_56 : Fld Z h56 b56 "com/example/rallypoint/rallypoint/server/LogEntry$TreeChanged" "session" "J" (.long (0 : Int64)) := D56 (Or.inr (hw _ (List.mem_of_getElem? (i := 89) rfl))) (ty := .long) (by decide)
    have F_ops_b56_56 : Fld Z h56 b56 "com/example/rallypoint/rallypoint/server/LogEntry$TreeChanged" "ops" "Ljava/util/List;" .null := D56 (Or.inr (hw _ (List.mem_of_getElem? (i := 91) rfl))) (ty := (.object "java/util/List")) (by decide)
    have OLD_56 : Old Z n0 h56 := OLD_55.ext E56
    have A1_56 : Exa Z h56 b1 "com/example/rallypoint/rallypoint/protocol/MultiRequest$Op" := A1_55.ext E56
    have G2x0_56 : Fld Z h56 b1 "com/example/rallypoint/rallypoint/protocol/MultiRequest$Op" "op" "Lcom/example/rallypoint/rallypoint/protocol/OpCode;" .null := G2x0_55.ext E56
    have G2x1_56 : Fld Z h56 b1 "com/example/rallypoint/rallypoint/protocol/MultiRequest$Op" "body" "Lcom/example/rallypoint/rallypoint/protocol/RequestBody;" .null := G2x1_55.ext E56
    have A3_56 : Exa Z h56 b3 "com/example/rallypoint/rallypoint/protocol/MultiRequest$Op" := A3_55.ext E56
    have G4x0_56 : Fld Z h56 b3 "com/example/rallypoint/rallypoint/protocol/MultiRequest$Op" "op" "Lcom/example/rallypoint/rallypoint/protocol/OpCode;" .null := G4x0_55.ext E56
    have G4x1_56 : Fld Z h56 b3 "com/example/rallypoint/rallypoint/protocol/MultiRequest$Op" "body" "Lcom/example/rallypoint/rallypoint/protocol/RequestBody;" .null := G4x1_55.ext E56
    have A5_56 : Exa Z h56 b5 "java/util/ArrayList" := A5_55.ext E56
    have G55x0_56 : Fld Z h56 b5 "java/util/AbstractList" "modCount" "I" (.int ((((0 : Int32) + (1 : Int32)) + (1 : Int32)) + (1 : Int32))) := G55x0.ext E56
    have G55x1_56 : Fld Z h56 b5 "java/util/ArrayList" "elementData" "[Ljava/lang/Object;" (.ref b53) := G55x1.ext E56
    have G55x2_56 : Fld Z h56 b5 "java/util/ArrayList" "size" "I" (.int (3 : Int32)) := G55x2.ext E56
    have G55x3_56 : OArrR Z h56 b53 10 (own_L Value.null ([(.ref b1), (.ref b3), (.ref b1), .null, .null, .null, .null, .null, .null, .null] : List Value)) := G55x3.ext E56
    have Zn56 : n0 ≤ h56.size := Nat.le_trans Zn55 E56.1
    have X56 : Stand p l e room_1 s m _ below meth c T56 _ 5 21 := X56
    refine OGo.st (T' := T56) (g' := (mkF m 88 #[.val (.long p0), .second, .val (.long p1), .second, .val (.long p2), .second, .val (.long p3), .second, .val (.long p4), .second, .val (.int p5), .val (.int (3 : Int32)), .val (.ref b1), .val (.ref b3), .val (.ref b5), .unset, .unset, .unset, .unset, .unset, .unset] [(.ref b56)])) (fun _ k => st56 _ k) ?_
    refine OGo.st (T' := T56) (g' := (mkF m 95 #[.val (.long p0), .second, .val (.long p1), .second, .val (.long p2), .second, .val (.long p3), .second, .val (.long p4), .second, .val (.int p5), .val (.int (3 : Int32)), .val (.ref b1), .val (.ref b3), .val (.ref b5), .unset, .unset, .unset, .unset, .unset, .unset] [(.ref b5), (.long p2), (.long p1), (.long p0), (.ref b56), (.ref b56)])) (fun _ k => (XS.dup X56.here hx rfl (hb hby at_88) rfl rfl (XS.lloadN X56.here hx rfl (hb hby at_89) rfl (XS.lloadN X56.here hx rfl (hb hby at_90) rfl (XS.lload X56.here hx rfl (hb hby at_91) rfl (XS.aload X56.here hx rfl (hb hby at_93) rfl rfl k)))))) ?_
    obtain ⟨_, _, ⟨T57, L57, k57, n57⟩, -, X57, ⟨Lc57, hQ57, l57, y57, z57⟩, st57⟩ := X56.specialBack hx (y := (⟨"com/example/rallypoint/rallypoint/server/LogEntry$TreeChanged", "<init>", "(JJJLjava/util/List;)V"⟩ : MethodName)) rfl hown (mvT hZ (hw _ (List.mem_of_getElem? (i := 80) rfl))) (mvT hZ (hw _ (List.mem_of_getElem? (i := 81) rfl))) (mvT hZ (hw _ (List.mem_of_getElem? (i := 82) rfl))) (by decide) (backOf (W := 1) (rmTi l Z a0 hw [] (b56) ((0 : Int64)) ((0 : Int64)) ((0 : Int64)) (.null) (p0) (p1) (p2) (b5) h56 n0 Zn56 (A56) (F_zxid_b56_56) (F_time_b56_56) (F_session_b56_56) (F_ops_b56_56) (g_b56)) hZ (hw _ (List.mem_of_getElem? (i := 82) rfl)) (hw _ (List.mem_of_getElem? (i := 79) rfl)) (by decide) (by decide)) (g := (mkF m 95 #[.val (.long p0), .second, .val (.long p1), .second, .val (.long p2), .second, .val (.long p3), .second, .val (.long p4), .second, .val (.int p5), .val (.int (3 : Int32)), .val (.ref b1), .val (.ref b3), .val (.ref b5), .unset, .unset, .unset, .unset, .unset, .unset] [(.ref b5), (.long p2), (.long p1), (.long p0), (.ref b56), (.ref b56)])) rfl (by rw [hml]; rfl) (Steps.refl _) (a := b56) (argsL := [(.long p0), (.long p1), (.long p2), (.ref b5)]) (rest := [(.ref b56)]) (lenOf own_pd11 rfl) rfl (by show 2 * 0 + _ ≤ _; exact Nat.le_of_eq rfl) (hb hby at_95) (fun _ _ => ⟨rfl, e56, (by decide : 5 + 0 ≤ _), (by decide : 21 + 0 ≤ _)⟩)
    dsimp only [Pt.U, Pt.locs, Pt.cells, Pt.slots] at X57 l57 y57 z57 st57 hQ57
    subst l57 y57 z57
    have X57 : Stand p l e room_1 s m _ below meth c T57 _ 5 21 := X57
    obtain ⟨h57, e57⟩ : ∃ z, T57.heap = z := ⟨_, rfl⟩
    rw [e57] at hQ57
    obtain ⟨rfl, Nq57, Kc57, G57x0, G57x1, G57x2, G57x3⟩ := hQ57
    have N57 := Fr.app N55 Nq57
    have OLD_57 : Old Z n0 h57 := OLD_56.keep Kc57 (allS g_b56 all0)
    have A1_57 : Exa Z h57 b1 "com/example/rallypoint/rallypoint/protocol/MultiRequest$Op" := A1_56.keep Kc57
    have G2x0_57 : Fld Z h57 b1 "com/example/rallypoint/rallypoint/protocol/MultiRequest$Op" "op" "Lcom/example/rallypoint/rallypoint/protocol/OpCode;" .null := G2x0_56.keep Kc57 (ninS ne_b1_b56 nin0)
    have G2x1_57 : Fld Z h57 b1 "com/example/rallypoint/rallypoint/protocol/MultiRequest$Op" "body" "Lcom/example/rallypoint/rallypoint/protocol/RequestBody;" .null := G2x1_56.keep Kc57 (ninS ne_b1_b56 nin0)
    have A3_57 : Exa Z h57 b3 "com/example/rallypoint/rallypoint/protocol/MultiRequest$Op" := A3_56.keep Kc57
    have G4x0_57 : Fld Z h57 b3 "com/example/rallypoint/rallypoint/protocol/MultiRequest$Op" "op" "Lcom/example/rallypoint/rallypoint/protocol/OpCode;" .null := G4x0_56.keep Kc57 (ninS ne_b3_b56 nin0)
    have G4x1_57 : Fld Z h57 b3 "com/example/rallypoint/rallypoint/protocol/MultiRequest$Op" "body" "Lcom/example/rallypoint/rallypoint/protocol/RequestBody;" .null := G4x1_56.keep Kc57 (ninS ne_b3_b56 nin0)
    have A5_57 : Exa Z h57 b5 "java/util/ArrayList" := A5_56.keep Kc57
    have G55x0_57 : Fld Z h57 b5 "java/util/AbstractList" "modCount" "I" (.int ((((0 : Int32) + (1 : Int32)) + (1 : Int32)) + (1 : Int32))) := G55x0_56.keep Kc57 (ninS ne_b5_b56 nin0)
    have G55x1_57 : Fld Z h57 b5 "java/util/ArrayList" "elementData" "[Ljava/lang/Object;" (.ref b53) := G55x1_56.keep Kc57 (ninS ne_b5_b56 nin0)
    have G55x2_57 : Fld Z h57 b5 "java/util/ArrayList" "size" "I" (.int (3 : Int32)) := G55x2_56.keep Kc57 (ninS ne_b5_b56 nin0)
    have G55x3_57 : OArrR Z h57 b53 10 (own_L Value.null ([(.ref b1), (.ref b3), (.ref b1), .null, .null, .null, .null, .null, .null, .null] : List Value)) := G55x3_56.keep Kc57 (ninS ne_b53_b56 nin0)
    have A56_57 : Exa Z h57 b56 "com/example/rallypoint/rallypoint/server/LogEntry$TreeChanged" := A56.keep Kc57
    have Zn57 : n0 ≤ h57.size := Nat.le_trans Zn56 Kc57.1
    refine OGo.st (T' := T57) (g' := (mkF m 98 #[.val (.long p0), .second, .val (.long p1), .second, .val (.long p2), .second, .val (.long p3), .second, .val (.long p4), .second, .val (.int p5), .val (.int (3 : Int32)), .val (.ref b1), .val (.ref b3), .val (.ref b5), .unset, .unset, .unset, .unset, .unset, .unset] [(.ref b56)])) (fun _ k => st57.trans k) ?_
    refine OGo.st (T' := T57) (g' := (mkF m 106 #[.val (.long p0), .second, .val (.long p1), .second, .val (.long p2), .second, .val (.long p3), .second, .val (.long p4), .second, .val (.int p5), .val (.int (3 : Int32)), .val (.ref b1), .val (.ref b3), .val (.ref b5), .val (.ref b56), .unset, .unset, .unset, .unset, .unset] [(.long p4), (.long p3), (.ref b56)])) (fun _ k => (XS.astore X57.here hx rfl (hb hby at_98) rfl rfl (l' := #[.val (.long p0), .second, .val (.long p1), .second, .val (.long p2), .second, .val (.long p3), .second, .val (.long p4), .second, .val (.int p5), .val (.int (3 : Int32)), .val (.ref b1), .val (.ref b3), .val (.ref b5), .val (.ref b56), .unset, .unset, .unset, .unset, .unset]) rfl (XS.aload X57.here hx rfl (hb hby at_100) rfl rfl (XS.lload X57.here hx rfl (hb hby at_102) rfl (XS.lload X57.here hx rfl (hb hby at_104) rfl k))))) ?_
    obtain ⟨cq58, kq58, q58a, q58b, q58c⟩ := isOf hZ e57 A56_57
    obtain ⟨_, _, ⟨T58, L58, k58, n58⟩, -, X58, ⟨Lc58, hQ58, l58, y58, z58⟩, st58⟩ := X57.virtualBack hx (y := (⟨"com/example/rallypoint/rallypoint/server/LogEntry$TreeChanged", "stamped", "(JJ)Lcom/example/rallypoint/rallypoint/server/LogEntry$TreeChanged;"⟩ : MethodName)) (z := (⟨"com/example/rallypoint/rallypoint/server/LogEntry$TreeChanged", "stamped", "(JJ)Lcom/example/rallypoint/rallypoint/server/LogEntry$TreeChanged;"⟩ : MethodName)) hown (mvT hZ (hw _ (List.mem_of_getElem? (i := 92) rfl))) (mvT hZ (hw _ (List.mem_of_getElem? (i := 93) rfl))) (notFace_of_selects (args := #[]) (mvT hZ (hw _ (List.mem_of_getElem? (i := 95) rfl)))) (mvT hZ (hw _ (List.mem_of_getElem? (i := 95) rfl))) (mvT hZ (hw _ (List.mem_of_getElem? (i := 94) rfl))) (by decide) (backOf (W := 0) (rmTs l Z a0 hw [] (b56) (p2) (p3) (p4) (b5) h57 n0 Zn57 (A56_57) (G57x2) (G57x3)) hZ (hw _ (List.mem_of_getElem? (i := 96) rfl)) (hw _ (List.mem_of_getElem? (i := 79) rfl)) (by decide) (by decide)) q58a q58c (g := (mkF m 106 #[.val (.long p0), .second, .val (.long p1), .second, .val (.long p2), .second, .val (.long p3), .second, .val (.long p4), .second, .val (.int p5), .val (.int (3 : Int32)), .val (.ref b1), .val (.ref b3), .val (.ref b5), .val (.ref b56), .unset, .unset, .unset, .unset, .unset] [(.long p4), (.long p3), (.ref b56)])) rfl (by rw [hml]; rfl) (Steps.refl _) (argsL := [(.long p3), (.long p4)]) (rest := []) (lenOf own_pd9 rfl) rfl (by show 2 * 0 + _ ≤ _; exact Nat.le_of_eq rfl) (hb hby at_106) (fun _ _ => ⟨rfl, e57, (by decide : 5 + 1 ≤ _), (by decide : 21 + 4 ≤ _)⟩)
    dsimp only [Pt.U, Pt.locs, Pt.cells, Pt.slots] at X58 l58 y58 z58 st58 hQ58
    subst l58 y58 z58
    have X58 : Stand p l e room_1 s m _ below meth c T58 _ 6 25 := X58
    obtain ⟨h58, e58⟩ : ∃ z, T58.heap = z := ⟨_, rfl⟩
    rw [e58] at hQ58
    obtain ⟨b58, rfl, Nq58, Kc58, sz_b58, G58x0, G58x1, G58x2, G58x3, G58x4⟩ := hQ58
    have N58 := Fr.app N57 Nq58
    have ne_ed_b58 : ed ≠ b58 := Nat.ne_of_lt (Nat.lt_of_lt_of_le (A_ed.ext OLD_57.2).lt sz_b58)
    have ne_b1_b58 : b1 ≠ b58 := Nat.ne_of_lt (Nat.lt_of_lt_of_le A1_57.lt sz_b58)
    have ne_b3_b58 : b3 ≠ b58 := Nat.ne_of_lt (Nat.lt_of_lt_of_le A3_57.lt sz_b58)
    have ne_b5_b58 : b5 ≠ b58 := Nat.ne_of_lt (Nat.lt_of_lt_of_le A5_57.lt sz_b58)
    have ne_b53_b58 : b53 ≠ b58 := Nat.ne_of_lt (Nat.lt_of_lt_of_le G55x3_57.lt sz_b58)
    have ne_b56_b58 : b56 ≠ b58 := Nat.ne_of_lt (Nat.lt_of_lt_of_le A56_57.lt sz_b58)
    have g_b58 : n0 ≤ b58 := Nat.le_trans Zn57 sz_b58
    have OLD_58 : Old Z n0 h58 := OLD_57.keep Kc58 all0
    have A1_58 : Exa Z h58 b1 "com/example/rallypoint/rallypoint/protocol/MultiRequest$Op" := A1_57.keep Kc58
    have G2x0_58 : Fld Z h58 b1 "com/example/rallypoint/rallypoint/protocol/MultiRequest$Op" "op" "Lcom/example/rallypoint/rallypoint/protocol/OpCode;" .null := G2x0_57.keep Kc58 nin0
    have G2x1_58 : Fld Z h58 b1 "com/example/rallypoint/rallypoint/protocol/MultiRequest$Op" "body" "Lcom/example/rallypoint/rallypoint/protocol/RequestBody;" .null := G2x1_57.keep Kc58 nin0
    have A3_58 : Exa Z h58 b3 "com/example/rallypoint/rallypoint/protocol/MultiRequest$Op" := A3_57.keep Kc58
    have G4x0_58 : Fld Z h58 b3 "com/example/rallypoint/rallypoint/protocol/MultiRequest$Op" "op" "Lcom/example/rallypoint/rallypoint/protocol/OpCode;" .null := G4x0_57.keep Kc58 nin0
    have G4x1_58 : Fld Z h58 b3 "com/example/rallypoint/rallypoint/protocol/MultiRequest$Op" "body" "Lcom/example/rallypoint/rallypoint/protocol/RequestBody;" .null := G4x1_57.keep Kc58 nin0
    have A5_58 : Exa Z h58 b5 "java/util/ArrayList" := A5_57.keep Kc58
    have G55x0_58 : Fld Z h58 b5 "java/util/AbstractList" "modCount" "I" (.int ((((0 : Int32) + (1 : Int32)) + (1 : Int32)) + (1 : Int32))) := G55x0_57.keep Kc58 nin0
    have G55x1_58 : Fld Z h58 b5 "java/util/ArrayList" "elementData" "[Ljava/lang/Object;" (.ref b53) := G55x1_57.keep Kc58 nin0
    have G55x2_58 : Fld Z h58 b5 "java/util/ArrayList" "size" "I" (.int (3 : Int32)) := G55x2_57.keep Kc58 nin0
    have G55x3_58 : OArrR Z h58 b53 10 (own_L Value.null ([(.ref b1), (.ref b3), (.ref b1), .null, .null, .null, .null, .null, .null, .null] : List Value)) := G55x3_57.keep Kc58 nin0
    have A56_58 : Exa Z h58 b56 "com/example/rallypoint/rallypoint/server/LogEntry$TreeChanged" := A56_57.keep Kc58
    have G57x0_58 : Fld Z h58 b56 "com/example/rallypoint/rallypoint/server/LogEntry$TreeChanged" "zxid" "J" (.long p0) := G57x0.keep Kc58 nin0
    have G57x1_58 : Fld Z h58 b56 "com/example/rallypoint/rallypoint/server/LogEntry$TreeChanged" "time" "J" (.long p1) := G57x1.keep Kc58 nin0
    have G57x2_58 : Fld Z h58 b56 "com/example/rallypoint/rallypoint/server/LogEntry$TreeChanged" "session" "J" (.long p2) := G57x2.keep Kc58 nin0
    have G57x3_58 : Fld Z h58 b56 "com/example/rallypoint/rallypoint/server/LogEntry$TreeChanged" "ops" "Ljava/util/List;" (.ref b5) := G57x3.keep Kc58 nin0
    have Zn58 : n0 ≤ h58.size := Nat.le_trans Zn57 Kc58.1
    refine OGo.st (T' := T58) (g' := (mkF m 109 #[.val (.long p0), .second, .val (.long p1), .second, .val (.long p2), .second, .val (.long p3), .second, .val (.long p4), .second, .val (.int p5), .val (.int (3 : Int32)), .val (.ref b1), .val (.ref b3), .val (.ref b5), .val (.ref b56), .unset, .unset, .unset, .unset, .unset] [(.ref b58)])) (fun _ k => st58.trans k) ?_
    refine OGo.st (T' := T58) (g' := (mkF m 113 #[.val (.long p0), .second, .val (.long p1), .second, .val (.long p2), .second, .val (.long p3), .second, .val (.long p4), .second, .val (.int p5), .val (.int (3 : Int32)), .val (.ref b1), .val (.ref b3), .val (.ref b5), .val (.ref b56), .val (.ref b58), .unset, .unset, .unset, .unset] [(.ref b58)])) (fun _ k => (XS.astore X58.here hx rfl (hb hby at_109) rfl rfl (l' := #[.val (.long p0), .second, .val (.long p1), .second, .val (.long p2), .second, .val (.long p3), .second, .val (.long p4), .second, .val (.int p5), .val (.int (3 : Int32)), .val (.ref b1), .val (.ref b3), .val (.ref b5), .val (.ref b56), .val (.ref b58), .unset, .unset, .unset, .unset]) rfl (XS.aload X58.here hx rfl (hb hby at_111) rfl rfl k))) ?_
    obtain ⟨cq59, kq59, q59a, q59b, q59c⟩ := isOf hZ e58 G58x0
    obtain ⟨_, _, ⟨T59, L59, k59, n59⟩, -, X59, ⟨Lc59, hQ59, l59, y59, z59⟩, st59⟩ := X58.virtualBack hx (y := (⟨"com/example/rallypoint/rallypoint/server/LogEntry$TreeChanged", "ops", "()Ljava/util/List;"⟩ : MethodName)) (z := (⟨"com/example/rallypoint/rallypoint/server/LogEntry$TreeChanged", "ops", "()Ljava/util/List;"⟩ : MethodName)) hown (mvT hZ (hw _ (List.mem_of_getElem? (i := 99) rfl))) (mvT hZ (hw _ (List.mem_of_getElem? (i := 100) rfl))) (notFace_of_selects (args := #[]) (mvT hZ (hw _ (List.mem_of_getElem? (i := 102) rfl)))) (mvT hZ (hw _ (List.mem_of_getElem? (i := 102) rfl))) (mvT hZ (hw _ (List.mem_of_getElem? (i := 101) rfl))) (by decide) (backOf (W := 0) (rmT_ops l Z a0 hw [] (b58) (b5) h58 n0 Zn58 (G58x4)) hZ (hw _ (List.mem_of_getElem? (i := 103) rfl)) (hw _ (List.mem_of_getElem? (i := 79) rfl)) (by decide) (by decide)) q59a q59c (g := (mkF m 113 #[.val (.long p0), .second, .val (.long p1), .second, .val (.long p2), .second, .val (.long p3), .second, .val (.long p4), .second, .val (.int p5), .val (.int (3 : Int32)), .val (.ref b1), .val (.ref b3), .val (.ref b5), .val (.ref b56), .val (.ref b58), .unset, .unset, .unset, .unset] [(.ref b58)])) rfl (by rw [hml]; rfl) (Steps.refl _) (argsL := []) (rest := []) (lenOf own_pd2 rfl) rfl (by show 2 * 0 + _ ≤ _; exact Nat.le_of_eq rfl) (hb hby at_113) (fun _ _ => ⟨rfl, e58, (by decide : 6 + 0 ≤ _), (by decide : 25 + 0 ≤ _)⟩)
    dsimp only [Pt.U, Pt.locs, Pt.cells, Pt.slots] at X59 l59 y59 z59 st59 hQ59
    subst l59 y59 z59
    have X59 : Stand p l e room_1 s m _ below meth c T59 _ 6 25 := X59
    obtain ⟨rfl, Nq59, e59⟩ := hQ59
    have N59 := Fr.app N58 Nq59
    refine OGo.st (T' := T59) (g' := (mkF m 116 #[.val (.long p0), .second, .val (.long p1), .second, .val (.long p2), .second, .val (.long p3), .second, .val (.long p4), .second, .val (.int p5), .val (.int (3 : Int32)), .val (.ref b1), .val (.ref b3), .val (.ref b5), .val (.ref b56), .val (.ref b58), .unset, .unset, .unset, .unset] [(.ref b5)])) (fun _ k => st59.trans k) ?_
    refine OGo.st (T' := T59) (g' := (mkF m 120 #[.val (.long p0), .second, .val (.long p1), .second, .val (.long p2), .second, .val (.long p3), .second, .val (.long p4), .second, .val (.int p5), .val (.int (3 : Int32)), .val (.ref b1), .val (.ref b3), .val (.ref b5), .val (.ref b56), .val (.ref b58), .val (.ref b5), .unset, .unset, .unset] [(.ref b58)])) (fun _ k => (XS.astore X59.here hx rfl (hb hby at_116) rfl rfl (l' := #[.val (.long p0), .second, .val (.long p1), .second, .val (.long p2), .second, .val (.long p3), .second, .val (.long p4), .second, .val (.int p5), .val (.int (3 : Int32)), .val (.ref b1), .val (.ref b3), .val (.ref b5), .val (.ref b56), .val (.ref b58), .val (.ref b5), .unset, .unset, .unset]) rfl (XS.aload X59.here hx rfl (hb hby at_118) rfl rfl k))) ?_
    obtain ⟨cq60, kq60, q60a, q60b, q60c⟩ := isOf hZ e59 G58x0
    obtain ⟨_, _, ⟨T60, L60, k60, n60⟩, -, X60, ⟨Lc60, hQ60, l60, y60, z60⟩, st60⟩ := X59.virtualBack hx (y := (⟨"com/example/rallypoint/rallypoint/server/LogEntry$TreeChanged", "zxid", "()J"⟩ : MethodName)) (z := (⟨"com/example/rallypoint/rallypoint/server/LogEntry$TreeChanged", "zxid", "()J"⟩ : MethodName)) hown (mvT hZ (hw _ (List.mem_of_getElem? (i := 104) rfl))) (mvT hZ (hw _ (List.mem_of_getElem? (i := 105) rfl))) (notFace_of_selects (args := #[]) (mvT hZ (hw _ (List.mem_of_getElem? (i := 107) rfl)))) (mvT hZ (hw _ (List.mem_of_getElem? (i := 107) rfl))) (mvT hZ (hw _ (List.mem_of_getElem? (i := 106) rfl))) (by decide) (backOf (W := 0) (rmT_zxid l Z a0 hw [] (b58) (p3) h58 n0 Zn58 (G58x1)) hZ (hw _ (List.mem_of_getElem? (i := 108) rfl)) (hw _ (List.mem_of_getElem? (i := 79) rfl)) (by decide) (by decide)) q60a q60c (g := (mkF m 120 #[.val (.long p0), .second, .val (.long p1), .second, .val (.long p2), .second, .val (.long p3), .second, .val (.long p4), .second, .val (.int p5), .val (.int (3 : Int32)), .val (.ref b1), .val (.ref b3), .val (.ref b5), .val (.ref b56), .val (.ref b58), .val (.ref b5), .unset, .unset, .unset] [(.ref b58)])) rfl (by rw [hml]; rfl) (Steps.refl _) (argsL := []) (rest := []) (lenOf own_pd1 rfl) rfl (by show 2 * 0 + _ ≤ _; exact Nat.le_of_eq rfl) (hb hby at_120) (fun _ _ => ⟨rfl, e59, (by decide : 6 + 0 ≤ _), (by decide : 25 + 0 ≤ _)⟩)
    dsimp only [Pt.U, Pt.locs, Pt.cells, Pt.slots] at X60 l60 y60 z60 st60 hQ60
    subst l60 y60 z60
    have X60 : Stand p l e room_1 s m _ below meth c T60 _ 6 25 := X60
    obtain ⟨rfl, Nq60, e60⟩ := hQ60
    have N60 := Fr.app N59 Nq60
    refine OGo.st (T' := T60) (g' := (mkF m 123 #[.val (.long p0), .second, .val (.long p1), .second, .val (.long p2), .second, .val (.long p3), .second, .val (.long p4), .second, .val (.int p5), .val (.int (3 : Int32)), .val (.ref b1), .val (.ref b3), .val (.ref b5), .val (.ref b56), .val (.ref b58), .val (.ref b5), .unset, .unset, .unset] [(.long p3)])) (fun _ k => st60.trans k) ?_
    refine OGo.st (T' := T60) (g' := (mkF m 131 #[.val (.long p0), .second, .val (.long p1), .second, .val (.long p2), .second, .val (.long p3), .second, .val (.long p4), .second, .val (.int p5), .val (.int (3 : Int32)), .val (.ref b1), .val (.ref b3), .val (.ref b5), .val (.ref b56), .val (.ref b58), .val (.ref b5), .unset, .unset, .unset] [(.ref b58)])) (fun _ k => (XS.lload X60.here hx rfl (hb hby at_123) rfl (XS.lcmp X60.here hx rfl (hb hby at_125) rfl (XS.ifNo X60.here hx rfl (hb hby at_126) rfl ((if0 _ _).trans (teq ((lw_eq p3 p3).mpr (rfl : p3 = p3))).2) (XS.aload X60.here hx rfl (hb hby at_129) rfl rfl k))))) ?_
    obtain ⟨cq61, kq61, q61a, q61b, q61c⟩ := isOf hZ e60 G58x0
    obtain ⟨_, _, ⟨T61, L61, k61, n61⟩, -, X61, ⟨Lc61, hQ61, l61, y61, z61⟩, st61⟩ := X60.virtualBack hx (y := (⟨"com/example/rallypoint/rallypoint/server/LogEntry$TreeChanged", "time", "()J"⟩ : MethodName)) (z := (⟨"com/example/rallypoint/rallypoint/server/LogEntry$TreeChanged", "time", "()J"⟩ : MethodName)) hown (mvT hZ (hw _ (List.mem_of_getElem? (i := 109) rfl))) (mvT hZ (hw _ (List.mem_of_getElem? (i := 110) rfl))) (notFace_of_selects (args := #[]) (mvT hZ (hw _ (List.mem_of_getElem? (i := 112) rfl)))) (mvT hZ (hw _ (List.mem_of_getElem? (i := 112) rfl))) (mvT hZ (hw _ (List.mem_of_getElem? (i := 111) rfl))) (by decide) (backOf (W := 0) (rmT_time l Z a0 hw [] (b58) (p4) h58 n0 Zn58 (G58x2)) hZ (hw _ (List.mem_of_getElem? (i := 113) rfl)) (hw _ (List.mem_of_getElem? (i := 79) rfl)) (by decide) (by decide)) q61a q61c (g := (mkF m 131 #[.val (.long p0), .second, .val (.long p1), .second, .val (.long p2), .second, .val (.long p3), .second, .val (.long p4), .second, .val (.int p5), .val (.int (3 : Int32)), .val (.ref b1), .val (.ref b3), .val (.ref b5), .val (.ref b56), .val (.ref b58), .val (.ref b5), .unset, .unset, .unset] [(.ref b58)])) rfl (by rw [hml]; rfl) (Steps.refl _) (argsL := []) (rest := []) (lenOf own_pd1 rfl) rfl (by show 2 * 0 + _ ≤ _; exact Nat.le_of_eq rfl) (hb hby at_131) (fun _ _ => ⟨rfl, e60, (by decide : 6 + 0 ≤ _), (by decide : 25 + 0 ≤ _)⟩)
    dsimp only [Pt.U, Pt.locs, Pt.cells, Pt.slots] at X61 l61 y61 z61 st61 hQ61
    subst l61 y61 z61
    have X61 : Stand p l e room_1 s m _ below meth c T61 _ 6 25 := X61
    obtain ⟨rfl, Nq61, e61⟩ := hQ61
    have N61 := Fr.app N60 Nq61
    refine OGo.st (T' := T61) (g' := (mkF m 134 #[.val (.long p0), .second, .val (.long p1), .second, .val (.long p2), .second, .val (.long p3), .second, .val (.long p4), .second, .val (.int p5), .val (.int (3 : Int32)), .val (.ref b1), .val (.ref b3), .val (.ref b5), .val (.ref b56), .val (.ref b58), .val (.ref b5), .unset, .unset, .unset] [(.long p4)])) (fun _ k => st61.trans k) ?_
    refine OGo.st (T' := T61) (g' := (mkF m 142 #[.val (.long p0), .second, .val (.long p1), .second, .val (.long p2), .second, .val (.long p3), .second, .val (.long p4), .second, .val (.int p5), .val (.int (3 : Int32)), .val (.ref b1), .val (.ref b3), .val (.ref b5), .val (.ref b56), .val (.ref b58), .val (.ref b5), .unset, .unset, .unset] [(.ref b58)])) (fun _ k => (XS.lload X61.here hx rfl (hb hby at_134) rfl (XS.lcmp X61.here hx rfl (hb hby at_136) rfl (XS.ifNo X61.here hx rfl (hb hby at_137) rfl ((if0 _ _).trans (teq ((lw_eq p4 p4).mpr (rfl : p4 = p4))).2) (XS.aload X61.here hx rfl (hb hby at_140) rfl rfl k))))) ?_
    obtain ⟨cq62, kq62, q62a, q62b, q62c⟩ := isOf hZ e61 G58x0
    obtain ⟨_, _, ⟨T62, L62, k62, n62⟩, -, X62, ⟨Lc62, hQ62, l62, y62, z62⟩, st62⟩ := X61.virtualBack hx (y := (⟨"com/example/rallypoint/rallypoint/server/LogEntry$TreeChanged", "session", "()J"⟩ : MethodName)) (z := (⟨"com/example/rallypoint/rallypoint/server/LogEntry$TreeChanged", "session", "()J"⟩ : MethodName)) hown (mvT hZ (hw _ (List.mem_of_getElem? (i := 114) rfl))) (mvT hZ (hw _ (List.mem_of_getElem? (i := 115) rfl))) (notFace_of_selects (args := #[]) (mvT hZ (hw _ (List.mem_of_getElem? (i := 117) rfl)))) (mvT hZ (hw _ (List.mem_of_getElem? (i := 117) rfl))) (mvT hZ (hw _ (List.mem_of_getElem? (i := 116) rfl))) (by decide) (backOf (W := 0) (rmT_session l Z a0 hw [] (b58) (p2) h58 n0 Zn58 (G58x3)) hZ (hw _ (List.mem_of_getElem? (i := 118) rfl)) (hw _ (List.mem_of_getElem? (i := 79) rfl)) (by decide) (by decide)) q62a q62c (g := (mkF m 142 #[.val (.long p0), .second, .val (.long p1), .second, .val (.long p2), .second, .val (.long p3), .second, .val (.long p4), .second, .val (.int p5), .val (.int (3 : Int32)), .val (.ref b1), .val (.ref b3), .val (.ref b5), .val (.ref b56), .val (.ref b58), .val (.ref b5), .unset, .unset, .unset] [(.ref b58)])) rfl (by rw [hml]; rfl) (Steps.refl _) (argsL := []) (rest := []) (lenOf own_pd1 rfl) rfl (by show 2 * 0 + _ ≤ _; exact Nat.le_of_eq rfl) (hb hby at_142) (fun _ _ => ⟨rfl, e61, (by decide : 6 + 0 ≤ _), (by decide : 25 + 0 ≤ _)⟩)
    dsimp only [Pt.U, Pt.locs, Pt.cells, Pt.slots] at X62 l62 y62 z62 st62 hQ62
    subst l62 y62 z62
    have X62 : Stand p l e room_1 s m _ below meth c T62 _ 6 25 := X62
    obtain ⟨rfl, Nq62, e62⟩ := hQ62
    have N62 := Fr.app N61 Nq62
    refine OGo.st (T' := T62) (g' := (mkF m 145 #[.val (.long p0), .second, .val (.long p1), .second, .val (.long p2), .second, .val (.long p3), .second, .val (.long p4), .second, .val (.int p5), .val (.int (3 : Int32)), .val (.ref b1), .val (.ref b3), .val (.ref b5), .val (.ref b56), .val (.ref b58), .val (.ref b5), .unset, .unset, .unset] [(.long p2)])) (fun _ k => st62.trans k) ?_
    refine OGo.st (T' := T62) (g' := (mkF m 158 #[.val (.long p0), .second, .val (.long p1), .second, .val (.long p2), .second, .val (.long p3), .second, .val (.long p4), .second, .val (.int p5), .val (.int (3 : Int32)), .val (.ref b1), .val (.ref b3), .val (.ref b5), .val (.ref b56), .val (.ref b58), .val (.ref b5), .val (.int (1 : Int32)), .unset, .unset] [])) (fun _ k => (XS.lload X62.here hx rfl (hb hby at_145) rfl (XS.lcmp X62.here hx rfl (hb hby at_147) rfl (XS.ifNo X62.here hx rfl (hb hby at_148) rfl ((if0 _ _).trans (teq ((lw_eq p2 p2).mpr (rfl : p2 = p2))).2) (XS.iconst X62.here hx rfl (hb hby at_151) (XS.goto X62.here hx rfl (pc0 := 152) (pc' := 156) rfl (hb hby at_152) (by decide) (by decide) (XS.istore X62.here hx rfl (hb hby at_156) rfl (l' := #[.val (.long p0), .second, .val (.long p1), .second, .val (.long p2), .second, .val (.long p3), .second, .val (.long p4), .second, .val (.int p5), .val (.int (3 : Int32)), .val (.ref b1), .val (.ref b3), .val (.ref b5), .val (.ref b56), .val (.ref b58), .val (.ref b5), .val (.int (1 : Int32)), .unset, .unset]) rfl k))))))) ?_
    refine OGo.st (T' := T62) (g' := (mkF m 160 #[.val (.long p0), .second, .val (.long p1), .second, .val (.long p2), .second, .val (.long p3), .second, .val (.long p4), .second, .val (.int p5), .val (.int (3 : Int32)), .val (.ref b1), .val (.ref b3), .val (.ref b5), .val (.ref b56), .val (.ref b58), .val (.ref b5), .val (.int (1 : Int32)), .unset, .unset] [(.ref b5)])) (fun _ k => (XS.aload X62.here hx rfl (hb hby at_158) rfl rfl k)) ?_
    obtain ⟨cq63, kq63, q63a, q63b, q63c⟩ := isOf hZ e62 A5_58
    obtain ⟨_, _, ⟨T63, L63, k63, n63⟩, -, X63, ⟨Lc63, hQ63, l63, y63, z63⟩, st63⟩ := X62.interfaceBack hx (xi := (⟨"java/util/List", "size", "()I"⟩ : MethodName)) (y := (⟨"java/util/ArrayList", "size", "()I"⟩ : MethodName)) hown (mvT hZ (hw _ (List.mem_of_getElem? (i := 119) rfl))) (mvT hZ (hw _ (List.mem_of_getElem? (i := 120) rfl))) (mvT hZ (hw _ (List.mem_of_getElem? (i := 121) rfl))) (mvT hZ (hw _ (List.mem_of_getElem? (i := 122) rfl))) (mvT hZ (hw _ (List.mem_of_getElem? (i := 123) rfl))) (mvT hZ (hw _ (List.mem_of_getElem? (i := 124) rfl))) (mvT hZ (hw _ (List.mem_of_getElem? (i := 125) rfl))) (mvT hZ (hw _ (List.mem_of_getElem? (i := 49) rfl))) (by decide) (backOf (W := 0) (rmSz l Z a0 hw [] (b5) ((3 : Int32)) h58 n0 Zn58 (G55x2_58)) hZ (hw _ (List.mem_of_getElem? (i := 126) rfl)) (hw _ (List.mem_of_getElem? (i := 20) rfl)) (by decide) (by decide)) q63a q63b q63c (g := (mkF m 160 #[.val (.long p0), .second, .val (.long p1), .second, .val (.long p2), .second, .val (.long p3), .second, .val (.long p4), .second, .val (.int p5), .val (.int (3 : Int32)), .val (.ref b1), .val (.ref b3), .val (.ref b5), .val (.ref b56), .val (.ref b58), .val (.ref b5), .val (.int (1 : Int32)), .unset, .unset] [(.ref b5)])) rfl (by rw [hml]; rfl) (Steps.refl _) (argsL := []) (rest := []) (lenOf own_pd0 rfl) rfl (by show 2 * 0 + _ ≤ _; exact Nat.le_of_eq rfl) (hb hby at_160) (fun _ _ => ⟨rfl, e62, (by decide : 6 + 0 ≤ _), (by decide : 25 + 0 ≤ _)⟩)
    dsimp only [Pt.U, Pt.locs, Pt.cells, Pt.slots] at X63 l63 y63 z63 st63 hQ63
    subst l63 y63 z63
    have X63 : Stand p l e room_1 s m _ below meth c T63 _ 6 25 := X63
    obtain ⟨rfl, Nq63, e63⟩ := hQ63
    have N63 := Fr.app N62 Nq63
    refine OGo.st (T' := T63) (g' := (mkF m 165 #[.val (.long p0), .second, .val (.long p1), .second, .val (.long p2), .second, .val (.long p3), .second, .val (.long p4), .second, .val (.int p5), .val (.int (3 : Int32)), .val (.ref b1), .val (.ref b3), .val (.ref b5), .val (.ref b56), .val (.ref b58), .val (.ref b5), .val (.int (1 : Int32)), .unset, .unset] [(.int (3 : Int32))])) (fun _ k => st63.trans k) ?_
    refine OGo.st (T' := T63) (g' := (mkF m 178 #[.val (.long p0), .second, .val (.long p1), .second, .val (.long p2), .second, .val (.long p3), .second, .val (.long p4), .second, .val (.int p5), .val (.int (3 : Int32)), .val (.ref b1), .val (.ref b3), .val (.ref b5), .val (.ref b56), .val (.ref b58), .val (.ref b5), .val (.int (1 : Int32)), .unset, .unset] [(.ref b5)])) (fun _ k => (XS.iload X63.here hx rfl (hb hby at_165) rfl (XS.icmpNo X63.here hx rfl (hb hby at_167) rfl (teq (by decide : (3 : Int32) = (3 : Int32))).2 (XS.iload X63.here hx rfl (hb hby at_170) rfl (XS.iconst X63.here hx rfl (hb hby at_172) (XS.icmpNo X63.here hx rfl (hb hby at_173) rfl (flt (by decide : ¬ ((3 : Int32) < (1 : Int32)))).1 (XS.aload X63.here hx rfl (hb hby at_176) rfl rfl k))))))) ?_
    refine OGo.st (T' := T63) (g' := (mkF m 179 #[.val (.long p0), .second, .val (.long p1), .second, .val (.long p2), .second, .val (.long p3), .second, .val (.long p4), .second, .val (.int p5), .val (.int (3 : Int32)), .val (.ref b1), .val (.ref b3), .val (.ref b5), .val (.ref b56), .val (.ref b58), .val (.ref b5), .val (.int (1 : Int32)), .unset, .unset] [(.int (0 : Int32)), (.ref b5)])) (fun _ k => (XS.iconst X63.here hx rfl (hb hby at_178) k)) ?_
    obtain ⟨cq64, kq64, q64a, q64b, q64c⟩ := isOf hZ e63 A5_58
    obtain ⟨_, _, ⟨T64, L64, k64, n64⟩, -, X64, ⟨Lc64, hQ64, l64, y64, z64⟩, st64⟩ := X63.interfaceBack hx (xi := (⟨"java/util/List", "get", "(I)Ljava/lang/Object;"⟩ : MethodName)) (y := (⟨"java/util/ArrayList", "get", "(I)Ljava/lang/Object;"⟩ : MethodName)) hown (mvT hZ (hw _ (List.mem_of_getElem? (i := 127) rfl))) (mvT hZ (hw _ (List.mem_of_getElem? (i := 128) rfl))) (mvT hZ (hw _ (List.mem_of_getElem? (i := 129) rfl))) (mvT hZ (hw _ (List.mem_of_getElem? (i := 130) rfl))) (mvT hZ (hw _ (List.mem_of_getElem? (i := 131) rfl))) (mvT hZ (hw _ (List.mem_of_getElem? (i := 132) rfl))) (mvT hZ (hw _ (List.mem_of_getElem? (i := 133) rfl))) (mvT hZ (hw _ (List.mem_of_getElem? (i := 49) rfl))) (by decide) (backOf (W := 0) (rmGt l Z a0 hw [] (b5) ((3 : Int32)) ((0 : Int32)) (b53) (10) ((own_L Value.null ([(.ref b1), (.ref b3), (.ref b1), .null, .null, .null, .null, .null, .null, .null] : List Value))) (0) (b1) h58 n0 Zn58 (A5_58) (G55x1_58) (G55x2_58) (G55x3_58) (⟨by decide, by decide⟩) (by decide) (rfl) (by decide) (by decide)) hZ (hw _ (List.mem_of_getElem? (i := 134) rfl)) (hw _ (List.mem_of_getElem? (i := 20) rfl)) (by decide) (by decide)) q64a q64b q64c (g := (mkF m 179 #[.val (.long p0), .second, .val (.long p1), .second, .val (.long p2), .second, .val (.long p3), .second, .val (.long p4), .second, .val (.int p5), .val (.int (3 : Int32)), .val (.ref b1), .val (.ref b3), .val (.ref b5), .val (.ref b56), .val (.ref b58), .val (.ref b5), .val (.int (1 : Int32)), .unset, .unset] [(.int (0 : Int32)), (.ref b5)])) rfl (by rw [hml]; rfl) (Steps.refl _) (argsL := [(.int (0 : Int32))]) (rest := []) (lenOf own_pd5 rfl) rfl (by show 2 * 0 + _ ≤ _; exact Nat.le_of_eq rfl) (hb hby at_179) (fun _ _ => ⟨rfl, e63, (by decide : 6 + 0 ≤ _), (by decide : 25 + 0 ≤ _)⟩)
    dsimp only [Pt.U, Pt.locs, Pt.cells, Pt.slots] at X64 l64 y64 z64 st64 hQ64
    subst l64 y64 z64
    have X64 : Stand p l e room_1 s m _ below meth c T64 _ 6 25 := X64
    obtain ⟨rfl, Nq64, e64⟩ := hQ64
    have N64 := Fr.app N63 Nq64
    refine OGo.st (T' := T64) (g' := (mkF m 184 #[.val (.long p0), .second, .val (.long p1), .second, .val (.long p2), .second, .val (.long p3), .second, .val (.long p4), .second, .val (.int p5), .val (.int (3 : Int32)), .val (.ref b1), .val (.ref b3), .val (.ref b5), .val (.ref b56), .val (.ref b58), .val (.ref b5), .val (.int (1 : Int32)), .unset, .unset] [(.ref b1)])) (fun _ k => st64.trans k) ?_
    refine OGo.st (T' := T64) (g' := (mkF m 186 #[.val (.long p0), .second, .val (.long p1), .second, .val (.long p2), .second, .val (.long p3), .second, .val (.long p4), .second, .val (.int p5), .val (.int (3 : Int32)), .val (.ref b1), .val (.ref b3), .val (.ref b5), .val (.ref b56), .val (.ref b58), .val (.ref b5), .val (.int (1 : Int32)), .unset, .unset] [(.ref b1), (.ref b1)])) (fun _ k => (XS.aload X64.here hx rfl (hb hby at_184) rfl rfl k)) ?_
    refine OGo.st (T' := T64) (g' := (mkF m 198 #[.val (.long p0), .second, .val (.long p1), .second, .val (.long p2), .second, .val (.long p3), .second, .val (.long p4), .second, .val (.int p5), .val (.int (3 : Int32)), .val (.ref b1), .val (.ref b3), .val (.ref b5), .val (.ref b56), .val (.ref b58), .val (.ref b5), .val (.int (1 : Int32)), .unset, .unset] [(.int (1 : Int32)), (.ref b5)])) (fun _ k => (Jvm.RoadKit.acmp (g := (mkF m 186 #[.val (.long p0), .second, .val (.long p1), .second, .val (.long p2), .second, .val (.long p3), .second, .val (.long p4), .second, .val (.int p5), .val (.int (3 : Int32)), .val (.ref b1), .val (.ref b3), .val (.ref b5), .val (.ref b56), .val (.ref b58), .val (.ref b5), .val (.int (1 : Int32)), .unset, .unset] [(.ref b1), (.ref b1)])) X64 hx rfl rfl rfl (pc0 := 186) (pc' := 189) (same := true) rfl (hb hby at_186) rfl (decide_eq_true rfl) (by decide) (by decide) (XS.iload X64.here hx rfl (hb hby at_189) rfl (XS.iconst X64.here hx rfl (hb hby at_191) (XS.icmpNo X64.here hx rfl (hb hby at_192) rfl (flt (by decide : ¬ ((3 : Int32) < (2 : Int32)))).1 (XS.aload X64.here hx rfl (hb hby at_195) rfl rfl (XS.iconst X64.here hx rfl (hb hby at_197) k))))))) ?_
    obtain ⟨cq65, kq65, q65a, q65b, q65c⟩ := isOf hZ e64 A5_58
    obtain ⟨_, _, ⟨T65, L65, k65, n65⟩, -, X65, ⟨Lc65, hQ65, l65, y65, z65⟩, st65⟩ := X64.interfaceBack hx (xi := (⟨"java/util/List", "get", "(I)Ljava/lang/Object;"⟩ : MethodName)) (y := (⟨"java/util/ArrayList", "get", "(I)Ljava/lang/Object;"⟩ : MethodName)) hown (mvT hZ (hw _ (List.mem_of_getElem? (i := 127) rfl))) (mvT hZ (hw _ (List.mem_of_getElem? (i := 128) rfl))) (mvT hZ (hw _ (List.mem_of_getElem? (i := 129) rfl))) (mvT hZ (hw _ (List.mem_of_getElem? (i := 130) rfl))) (mvT hZ (hw _ (List.mem_of_getElem? (i := 131) rfl))) (mvT hZ (hw _ (List.mem_of_getElem? (i := 132) rfl))) (mvT hZ (hw _ (List.mem_of_getElem? (i := 133) rfl))) (mvT hZ (hw _ (List.mem_of_getElem? (i := 49) rfl))) (by decide) (backOf (W := 0) (rmGt l Z a0 hw [] (b5) ((3 : Int32)) ((1 : Int32)) (b53) (10) ((own_L Value.null ([(.ref b1), (.ref b3), (.ref b1), .null, .null, .null, .null, .null, .null, .null] : List Value))) (1) (b3) h58 n0 Zn58 (A5_58) (G55x1_58) (G55x2_58) (G55x3_58) (⟨by decide, by decide⟩) (by decide) (rfl) (by decide) (by decide)) hZ (hw _ (List.mem_of_getElem? (i := 134) rfl)) (hw _ (List.mem_of_getElem? (i := 20) rfl)) (by decide) (by decide)) q65a q65b q65c (g := (mkF m 198 #[.val (.long p0), .second, .val (.long p1), .second, .val (.long p2), .second, .val (.long p3), .second, .val (.long p4), .second, .val (.int p5), .val (.int (3 : Int32)), .val (.ref b1), .val (.ref b3), .val (.ref b5), .val (.ref b56), .val (.ref b58), .val (.ref b5), .val (.int (1 : Int32)), .unset, .unset] [(.int (1 : Int32)), (.ref b5)])) rfl (by rw [hml]; rfl) (Steps.refl _) (argsL := [(.int (1 : Int32))]) (rest := []) (lenOf own_pd5 rfl) rfl (by show 2 * 0 + _ ≤ _; exact Nat.le_of_eq rfl) (hb hby at_198) (fun _ _ => ⟨rfl, e64, (by decide : 6 + 0 ≤ _), (by decide : 25 + 0 ≤ _)⟩)
    dsimp only [Pt.U, Pt.locs, Pt.cells, Pt.slots] at X65 l65 y65 z65 st65 hQ65
    subst l65 y65 z65
    have X65 : Stand p l e room_1 s m _ below meth c T65 _ 6 25 := X65
    obtain ⟨rfl, Nq65, e65⟩ := hQ65
    have N65 := Fr.app N64 Nq65
    refine OGo.st (T' := T65) (g' := (mkF m 203 #[.val (.long p0), .second, .val (.long p1), .second, .val (.long p2), .second, .val (.long p3), .second, .val (.long p4), .second, .val (.int p5), .val (.int (3 : Int32)), .val (.ref b1), .val (.ref b3), .val (.ref b5), .val (.ref b56), .val (.ref b58), .val (.ref b5), .val (.int (1 : Int32)), .unset, .unset] [(.ref b3)])) (fun _ k => st65.trans k) ?_
    refine OGo.st (T' := T65) (g' := (mkF m 205 #[.val (.long p0), .second, .val (.long p1), .second, .val (.long p2), .second, .val (.long p3), .second, .val (.long p4), .second, .val (.int p5), .val (.int (3 : Int32)), .val (.ref b1), .val (.ref b3), .val (.ref b5), .val (.ref b56), .val (.ref b58), .val (.ref b5), .val (.int (1 : Int32)), .unset, .unset] [(.ref b3), (.ref b3)])) (fun _ k => (XS.aload X65.here hx rfl (hb hby at_203) rfl rfl k)) ?_
    refine OGo.st (T' := T65) (g' := (mkF m 217 #[.val (.long p0), .second, .val (.long p1), .second, .val (.long p2), .second, .val (.long p3), .second, .val (.long p4), .second, .val (.int p5), .val (.int (3 : Int32)), .val (.ref b1), .val (.ref b3), .val (.ref b5), .val (.ref b56), .val (.ref b58), .val (.ref b5), .val (.int (1 : Int32)), .unset, .unset] [(.int (2 : Int32)), (.ref b5)])) (fun _ k => (Jvm.RoadKit.acmp (g := (mkF m 205 #[.val (.long p0), .second, .val (.long p1), .second, .val (.long p2), .second, .val (.long p3), .second, .val (.long p4), .second, .val (.int p5), .val (.int (3 : Int32)), .val (.ref b1), .val (.ref b3), .val (.ref b5), .val (.ref b56), .val (.ref b58), .val (.ref b5), .val (.int (1 : Int32)), .unset, .unset] [(.ref b3), (.ref b3)])) X65 hx rfl rfl rfl (pc0 := 205) (pc' := 208) (same := true) rfl (hb hby at_205) rfl (decide_eq_true rfl) (by decide) (by decide) (XS.iload X65.here hx rfl (hb hby at_208) rfl (XS.iconst X65.here hx rfl (hb hby at_210) (XS.icmpNo X65.here hx rfl (hb hby at_211) rfl (flt (by decide : ¬ ((3 : Int32) < (3 : Int32)))).1 (XS.aload X65.here hx rfl (hb hby at_214) rfl rfl (XS.iconst X65.here hx rfl (hb hby at_216) k))))))) ?_
    obtain ⟨cq66, kq66, q66a, q66b, q66c⟩ := isOf hZ e65 A5_58
    obtain ⟨_, _, ⟨T66, L66, k66, n66⟩, -, X66, ⟨Lc66, hQ66, l66, y66, z66⟩, st66⟩ := X65.interfaceBack hx (xi := (⟨"java/util/List", "get", "(I)Ljava/lang/Object;"⟩ : MethodName)) (y := (⟨"java/util/ArrayList", "get", "(I)Ljava/lang/Object;"⟩ : MethodName)) hown (mvT hZ (hw _ (List.mem_of_getElem? (i := 127) rfl))) (mvT hZ (hw _ (List.mem_of_getElem? (i := 128) rfl))) (mvT hZ (hw _ (List.mem_of_getElem? (i := 129) rfl))) (mvT hZ (hw _ (List.mem_of_getElem? (i := 130) rfl))) (mvT hZ (hw _ (List.mem_of_getElem? (i := 131) rfl))) (mvT hZ (hw _ (List.mem_of_getElem? (i := 132) rfl))) (mvT hZ (hw _ (List.mem_of_getElem? (i := 133) rfl))) (mvT hZ (hw _ (List.mem_of_getElem? (i := 49) rfl))) (by decide) (backOf (W := 0) (rmGt l Z a0 hw [] (b5) ((3 : Int32)) ((2 : Int32)) (b53) (10) ((own_L Value.null ([(.ref b1), (.ref b3), (.ref b1), .null, .null, .null, .null, .null, .null, .null] : List Value))) (2) (b1) h58 n0 Zn58 (A5_58) (G55x1_58) (G55x2_58) (G55x3_58) (⟨by decide, by decide⟩) (by decide) (rfl) (by decide) (by decide)) hZ (hw _ (List.mem_of_getElem? (i := 134) rfl)) (hw _ (List.mem_of_getElem? (i := 20) rfl)) (by decide) (by decide)) q66a q66b q66c (g := (mkF m 217 #[.val (.long p0), .second, .val (.long p1), .second, .val (.long p2), .second, .val (.long p3), .second, .val (.long p4), .second, .val (.int p5), .val (.int (3 : Int32)), .val (.ref b1), .val (.ref b3), .val (.ref b5), .val (.ref b56), .val (.ref b58), .val (.ref b5), .val (.int (1 : Int32)), .unset, .unset] [(.int (2 : Int32)), (.ref b5)])) rfl (by rw [hml]; rfl) (Steps.refl _) (argsL := [(.int (2 : Int32))]) (rest := []) (lenOf own_pd5 rfl) rfl (by show 2 * 0 + _ ≤ _; exact Nat.le_of_eq rfl) (hb hby at_217) (fun _ _ => ⟨rfl, e65, (by decide : 6 + 0 ≤ _), (by decide : 25 + 0 ≤ _)⟩)
    dsimp only [Pt.U, Pt.locs, Pt.cells, Pt.slots] at X66 l66 y66 z66 st66 hQ66
    subst l66 y66 z66
    have X66 : Stand p l e room_1 s m _ below meth c T66 _ 6 25 := X66
    obtain ⟨rfl, Nq66, e66⟩ := hQ66
    have N66 := Fr.app N65 Nq66
    refine OGo.st (T' := T66) (g' := (mkF m 222 #[.val (.long p0), .second, .val (.long p1), .second, .val (.long p2), .second, .val (.long p3), .second, .val (.long p4), .second, .val (.int p5), .val (.int (3 : Int32)), .val (.ref b1), .val (.ref b3), .val (.ref b5), .val (.ref b56), .val (.ref b58), .val (.ref b5), .val (.int (1 : Int32)), .unset, .unset] [(.ref b1)])) (fun _ k => st66.trans k) ?_
    refine OGo.st (T' := T66) (g' := (mkF m 224 #[.val (.long p0), .second, .val (.long p1), .second, .val (.long p2), .second, .val (.long p3), .second, .val (.long p4), .second, .val (.int p5), .val (.int (3 : Int32)), .val (.ref b1), .val (.ref b3), .val (.ref b5), .val (.ref b56), .val (.ref b58), .val (.ref b5), .val (.int (1 : Int32)), .unset, .unset] [(.ref b1), (.ref b1)])) (fun _ k => (XS.aload X66.here hx rfl (hb hby at_222) rfl rfl k)) ?_
    refine OGo.st (T' := T66) (g' := (mkF m 236 #[.val (.long p0), .second, .val (.long p1), .second, .val (.long p2), .second, .val (.long p3), .second, .val (.long p4), .second, .val (.int p5), .val (.int (3 : Int32)), .val (.ref b1), .val (.ref b3), .val (.ref b5), .val (.ref b56), .val (.ref b58), .val (.ref b5), .val (.int (1 : Int32)), .val (.int (1 : Int32)), .unset] [(.ref b56)])) (fun _ k => (Jvm.RoadKit.acmp (g := (mkF m 224 #[.val (.long p0), .second, .val (.long p1), .second, .val (.long p2), .second, .val (.long p3), .second, .val (.long p4), .second, .val (.int p5), .val (.int (3 : Int32)), .val (.ref b1), .val (.ref b3), .val (.ref b5), .val (.ref b56), .val (.ref b58), .val (.ref b5), .val (.int (1 : Int32)), .unset, .unset] [(.ref b1), (.ref b1)])) X66 hx rfl rfl rfl (pc0 := 224) (pc' := 227) (same := true) rfl (hb hby at_224) rfl (decide_eq_true rfl) (by decide) (by decide) (XS.iconst X66.here hx rfl (hb hby at_227) (XS.goto X66.here hx rfl (pc0 := 228) (pc' := 232) rfl (hb hby at_228) (by decide) (by decide) (XS.istore X66.here hx rfl (hb hby at_232) rfl (l' := #[.val (.long p0), .second, .val (.long p1), .second, .val (.long p2), .second, .val (.long p3), .second, .val (.long p4), .second, .val (.int p5), .val (.int (3 : Int32)), .val (.ref b1), .val (.ref b3), .val (.ref b5), .val (.ref b56), .val (.ref b58), .val (.ref b5), .val (.int (1 : Int32)), .val (.int (1 : Int32)), .unset]) rfl (XS.aload X66.here hx rfl (hb hby at_234) rfl rfl k)))))) ?_
    obtain ⟨cq67, kq67, q67a, q67b, q67c⟩ := isOf hZ e66 A56_58
    obtain ⟨_, _, ⟨T67, L67, k67, n67⟩, -, X67, ⟨Lc67, hQ67, l67, y67, z67⟩, st67⟩ := X66.virtualBack hx (y := (⟨"com/example/rallypoint/rallypoint/server/LogEntry$TreeChanged", "zxid", "()J"⟩ : MethodName)) (z := (⟨"com/example/rallypoint/rallypoint/server/LogEntry$TreeChanged", "zxid", "()J"⟩ : MethodName)) hown (mvT hZ (hw _ (List.mem_of_getElem? (i := 104) rfl))) (mvT hZ (hw _ (List.mem_of_getElem? (i := 105) rfl))) (notFace_of_selects (args := #[]) (mvT hZ (hw _ (List.mem_of_getElem? (i := 107) rfl)))) (mvT hZ (hw _ (List.mem_of_getElem? (i := 107) rfl))) (mvT hZ (hw _ (List.mem_of_getElem? (i := 106) rfl))) (by decide) (backOf (W := 0) (rmT_zxid l Z a0 hw [] (b56) (p0) h58 n0 Zn58 (G57x0_58)) hZ (hw _ (List.mem_of_getElem? (i := 108) rfl)) (hw _ (List.mem_of_getElem? (i := 79) rfl)) (by decide) (by decide)) q67a q67c (g := (mkF m 236 #[.val (.long p0), .second, .val (.long p1), .second, .val (.long p2), .second, .val (.long p3), .second, .val (.long p4), .second, .val (.int p5), .val (.int (3 : Int32)), .val (.ref b1), .val (.ref b3), .val (.ref b5), .val (.ref b56), .val (.ref b58), .val (.ref b5), .val (.int (1 : Int32)), .val (.int (1 : Int32)), .unset] [(.ref b56)])) rfl (by rw [hml]; rfl) (Steps.refl _) (argsL := []) (rest := []) (lenOf own_pd1 rfl) rfl (by show 2 * 0 + _ ≤ _; exact Nat.le_of_eq rfl) (hb hby at_236) (fun _ _ => ⟨rfl, e66, (by decide : 6 + 0 ≤ _), (by decide : 25 + 0 ≤ _)⟩)
    dsimp only [Pt.U, Pt.locs, Pt.cells, Pt.slots] at X67 l67 y67 z67 st67 hQ67
    subst l67 y67 z67
    have X67 : Stand p l e room_1 s m _ below meth c T67 _ 6 25 := X67
    obtain ⟨rfl, Nq67, e67⟩ := hQ67
    have N67 := Fr.app N66 Nq67
    refine OGo.st (T' := T67) (g' := (mkF m 239 #[.val (.long p0), .second, .val (.long p1), .second, .val (.long p2), .second, .val (.long p3), .second, .val (.long p4), .second, .val (.int p5), .val (.int (3 : Int32)), .val (.ref b1), .val (.ref b3), .val (.ref b5), .val (.ref b56), .val (.ref b58), .val (.ref b5), .val (.int (1 : Int32)), .val (.int (1 : Int32)), .unset] [(.long p0)])) (fun _ k => st67.trans k) ?_
    refine OGo.st (T' := T67) (g' := (mkF m 246 #[.val (.long p0), .second, .val (.long p1), .second, .val (.long p2), .second, .val (.long p3), .second, .val (.long p4), .second, .val (.int p5), .val (.int (3 : Int32)), .val (.ref b1), .val (.ref b3), .val (.ref b5), .val (.ref b56), .val (.ref b58), .val (.ref b5), .val (.int (1 : Int32)), .val (.int (1 : Int32)), .unset] [(.ref b56)])) (fun _ k => (XS.lloadN X67.here hx rfl (hb hby at_239) rfl (XS.lcmp X67.here hx rfl (hb hby at_240) rfl (XS.ifNo X67.here hx rfl (hb hby at_241) rfl ((if0 _ _).trans (teq ((lw_eq p0 p0).mpr (rfl : p0 = p0))).2) (XS.aload X67.here hx rfl (hb hby at_244) rfl rfl k))))) ?_
    obtain ⟨cq68, kq68, q68a, q68b, q68c⟩ := isOf hZ e67 A56_58
    obtain ⟨_, _, ⟨T68, L68, k68, n68⟩, -, X68, ⟨Lc68, hQ68, l68, y68, z68⟩, st68⟩ := X67.virtualBack hx (y := (⟨"com/example/rallypoint/rallypoint/server/LogEntry$TreeChanged", "time", "()J"⟩ : MethodName)) (z := (⟨"com/example/rallypoint/rallypoint/server/LogEntry$TreeChanged", "time", "()J"⟩ : MethodName)) hown (mvT hZ (hw _ (List.mem_of_getElem? (i := 109) rfl))) (mvT hZ (hw _ (List.mem_of_getElem? (i := 110) rfl))) (notFace_of_selects (args := #[]) (mvT hZ (hw _ (List.mem_of_getElem? (i := 112) rfl)))) (mvT hZ (hw _ (List.mem_of_getElem? (i := 112) rfl))) (mvT hZ (hw _ (List.mem_of_getElem? (i := 111) rfl))) (by decide) (backOf (W := 0) (rmT_time l Z a0 hw [] (b56) (p1) h58 n0 Zn58 (G57x1_58)) hZ (hw _ (List.mem_of_getElem? (i := 113) rfl)) (hw _ (List.mem_of_getElem? (i := 79) rfl)) (by decide) (by decide)) q68a q68c (g := (mkF m 246 #[.val (.long p0), .second, .val (.long p1), .second, .val (.long p2), .second, .val (.long p3), .second, .val (.long p4), .second, .val (.int p5), .val (.int (3 : Int32)), .val (.ref b1), .val (.ref b3), .val (.ref b5), .val (.ref b56), .val (.ref b58), .val (.ref b5), .val (.int (1 : Int32)), .val (.int (1 : Int32)), .unset] [(.ref b56)])) rfl (by rw [hml]; rfl) (Steps.refl _) (argsL := []) (rest := []) (lenOf own_pd1 rfl) rfl (by show 2 * 0 + _ ≤ _; exact Nat.le_of_eq rfl) (hb hby at_246) (fun _ _ => ⟨rfl, e67, (by decide : 6 + 0 ≤ _), (by decide : 25 + 0 ≤ _)⟩)
    dsimp only [Pt.U, Pt.locs, Pt.cells, Pt.slots] at X68 l68 y68 z68 st68 hQ68
    subst l68 y68 z68
    have X68 : Stand p l e room_1 s m _ below meth c T68 _ 6 25 := X68
    obtain ⟨rfl, Nq68, e68⟩ := hQ68
    have N68 := Fr.app N67 Nq68
    refine OGo.st (T' := T68) (g' := (mkF m 249 #[.val (.long p0), .second, .val (.long p1), .second, .val (.long p2), .second, .val (.long p3), .second, .val (.long p4), .second, .val (.int p5), .val (.int (3 : Int32)), .val (.ref b1), .val (.ref b3), .val (.ref b5), .val (.ref b56), .val (.ref b58), .val (.ref b5), .val (.int (1 : Int32)), .val (.int (1 : Int32)), .unset] [(.long p1)])) (fun _ k => st68.trans k) ?_
    refine OGo.st (T' := T68) (g' := (mkF m 256 #[.val (.long p0), .second, .val (.long p1), .second, .val (.long p2), .second, .val (.long p3), .second, .val (.long p4), .second, .val (.int p5), .val (.int (3 : Int32)), .val (.ref b1), .val (.ref b3), .val (.ref b5), .val (.ref b56), .val (.ref b58), .val (.ref b5), .val (.int (1 : Int32)), .val (.int (1 : Int32)), .unset] [(.ref b56)])) (fun _ k => (XS.lloadN X68.here hx rfl (hb hby at_249) rfl (XS.lcmp X68.here hx rfl (hb hby at_250) rfl (XS.ifNo X68.here hx rfl (hb hby at_251) rfl ((if0 _ _).trans (teq ((lw_eq p1 p1).mpr (rfl : p1 = p1))).2) (XS.aload X68.here hx rfl (hb hby at_254) rfl rfl k))))) ?_
    obtain ⟨cq69, kq69, q69a, q69b, q69c⟩ := isOf hZ e68 A56_58
    obtain ⟨_, _, ⟨T69, L69, k69, n69⟩, -, X69, ⟨Lc69, hQ69, l69, y69, z69⟩, st69⟩ := X68.virtualBack hx (y := (⟨"com/example/rallypoint/rallypoint/server/LogEntry$TreeChanged", "session", "()J"⟩ : MethodName)) (z := (⟨"com/example/rallypoint/rallypoint/server/LogEntry$TreeChanged", "session", "()J"⟩ : MethodName)) hown (mvT hZ (hw _ (List.mem_of_getElem? (i := 114) rfl))) (mvT hZ (hw _ (List.mem_of_getElem? (i := 115) rfl))) (notFace_of_selects (args := #[]) (mvT hZ (hw _ (List.mem_of_getElem? (i := 117) rfl)))) (mvT hZ (hw _ (List.mem_of_getElem? (i := 117) rfl))) (mvT hZ (hw _ (List.mem_of_getElem? (i := 116) rfl))) (by decide) (backOf (W := 0) (rmT_session l Z a0 hw [] (b56) (p2) h58 n0 Zn58 (G57x2_58)) hZ (hw _ (List.mem_of_getElem? (i := 118) rfl)) (hw _ (List.mem_of_getElem? (i := 79) rfl)) (by decide) (by decide)) q69a q69c (g := (mkF m 256 #[.val (.long p0), .second, .val (.long p1), .second, .val (.long p2), .second, .val (.long p3), .second, .val (.long p4), .second, .val (.int p5), .val (.int (3 : Int32)), .val (.ref b1), .val (.ref b3), .val (.ref b5), .val (.ref b56), .val (.ref b58), .val (.ref b5), .val (.int (1 : Int32)), .val (.int (1 : Int32)), .unset] [(.ref b56)])) rfl (by rw [hml]; rfl) (Steps.refl _) (argsL := []) (rest := []) (lenOf own_pd1 rfl) rfl (by show 2 * 0 + _ ≤ _; exact Nat.le_of_eq rfl) (hb hby at_256) (fun _ _ => ⟨rfl, e68, (by decide : 6 + 0 ≤ _), (by decide : 25 + 0 ≤ _)⟩)
    dsimp only [Pt.U, Pt.locs, Pt.cells, Pt.slots] at X69 l69 y69 z69 st69 hQ69
    subst l69 y69 z69
    have X69 : Stand p l e room_1 s m _ below meth c T69 _ 6 25 := X69
    obtain ⟨rfl, Nq69, e69⟩ := hQ69
    have N69 := Fr.app N68 Nq69
    refine OGo.st (T' := T69) (g' := (mkF m 259 #[.val (.long p0), .second, .val (.long p1), .second, .val (.long p2), .second, .val (.long p3), .second, .val (.long p4), .second, .val (.int p5), .val (.int (3 : Int32)), .val (.ref b1), .val (.ref b3), .val (.ref b5), .val (.ref b56), .val (.ref b58), .val (.ref b5), .val (.int (1 : Int32)), .val (.int (1 : Int32)), .unset] [(.long p2)])) (fun _ k => st69.trans k) ?_
    refine OGo.st (T' := T69) (g' := (mkF m 267 #[.val (.long p0), .second, .val (.long p1), .second, .val (.long p2), .second, .val (.long p3), .second, .val (.long p4), .second, .val (.int p5), .val (.int (3 : Int32)), .val (.ref b1), .val (.ref b3), .val (.ref b5), .val (.ref b56), .val (.ref b58), .val (.ref b5), .val (.int (1 : Int32)), .val (.int (1 : Int32)), .unset] [(.ref b56)])) (fun _ k => (XS.lload X69.here hx rfl (hb hby at_259) rfl (XS.lcmp X69.here hx rfl (hb hby at_261) rfl (XS.ifNo X69.here hx rfl (hb hby at_262) rfl ((if0 _ _).trans (teq ((lw_eq p2 p2).mpr (rfl : p2 = p2))).2) (XS.aload X69.here hx rfl (hb hby at_265) rfl rfl k))))) ?_
    obtain ⟨cq70, kq70, q70a, q70b, q70c⟩ := isOf hZ e69 A56_58
    obtain ⟨_, _, ⟨T70, L70, k70, n70⟩, -, X70, ⟨Lc70, hQ70, l70, y70, z70⟩, st70⟩ := X69.virtualBack hx (y := (⟨"com/example/rallypoint/rallypoint/server/LogEntry$TreeChanged", "ops", "()Ljava/util/List;"⟩ : MethodName)) (z := (⟨"com/example/rallypoint/rallypoint/server/LogEntry$TreeChanged", "ops", "()Ljava/util/List;"⟩ : MethodName)) hown (mvT hZ (hw _ (List.mem_of_getElem? (i := 99) rfl))) (mvT hZ (hw _ (List.mem_of_getElem? (i := 100) rfl))) (notFace_of_selects (args := #[]) (mvT hZ (hw _ (List.mem_of_getElem? (i := 102) rfl)))) (mvT hZ (hw _ (List.mem_of_getElem? (i := 102) rfl))) (mvT hZ (hw _ (List.mem_of_getElem? (i := 101) rfl))) (by decide) (backOf (W := 0) (rmT_ops l Z a0 hw [] (b56) (b5) h58 n0 Zn58 (G57x3_58)) hZ (hw _ (List.mem_of_getElem? (i := 103) rfl)) (hw _ (List.mem_of_getElem? (i := 79) rfl)) (by decide) (by decide)) q70a q70c (g := (mkF m 267 #[.val (.long p0), .second, .val (.long p1), .second, .val (.long p2), .second, .val (.long p3), .second, .val (.long p4), .second, .val (.int p5), .val (.int (3 : Int32)), .val (.ref b1), .val (.ref b3), .val (.ref b5), .val (.ref b56), .val (.ref b58), .val (.ref b5), .val (.int (1 : Int32)), .val (.int (1 : Int32)), .unset] [(.ref b56)])) rfl (by rw [hml]; rfl) (Steps.refl _) (argsL := []) (rest := []) (lenOf own_pd2 rfl) rfl (by show 2 * 0 + _ ≤ _; exact Nat.le_of_eq rfl) (hb hby at_267) (fun _ _ => ⟨rfl, e69, (by decide : 6 + 0 ≤ _), (by decide : 25 + 0 ≤ _)⟩)
    dsimp only [Pt.U, Pt.locs, Pt.cells, Pt.slots] at X70 l70 y70 z70 st70 hQ70
    subst l70 y70 z70
    have X70 : Stand p l e room_1 s m _ below meth c T70 _ 6 25 := X70
    obtain ⟨rfl, Nq70, e70⟩ := hQ70
    have N70 := Fr.app N69 Nq70
    refine OGo.st (T' := T70) (g' := (mkF m 270 #[.val (.long p0), .second, .val (.long p1), .second, .val (.long p2), .second, .val (.long p3), .second, .val (.long p4), .second, .val (.int p5), .val (.int (3 : Int32)), .val (.ref b1), .val (.ref b3), .val (.ref b5), .val (.ref b56), .val (.ref b58), .val (.ref b5), .val (.int (1 : Int32)), .val (.int (1 : Int32)), .unset] [(.ref b5)])) (fun _ k => st70.trans k) ?_
    refine OGo.st (T' := T70) (g' := (mkF m 272 #[.val (.long p0), .second, .val (.long p1), .second, .val (.long p2), .second, .val (.long p3), .second, .val (.long p4), .second, .val (.int p5), .val (.int (3 : Int32)), .val (.ref b1), .val (.ref b3), .val (.ref b5), .val (.ref b56), .val (.ref b58), .val (.ref b5), .val (.int (1 : Int32)), .val (.int (1 : Int32)), .unset] [(.ref b5), (.ref b5)])) (fun _ k => (XS.aload X70.here hx rfl (hb hby at_270) rfl rfl k)) ?_
    refine OGo.st (T' := T70) (g' := (mkF m 277 #[.val (.long p0), .second, .val (.long p1), .second, .val (.long p2), .second, .val (.long p3), .second, .val (.long p4), .second, .val (.int p5), .val (.int (3 : Int32)), .val (.ref b1), .val (.ref b3), .val (.ref b5), .val (.ref b56), .val (.ref b58), .val (.ref b5), .val (.int (1 : Int32)), .val (.int (1 : Int32)), .unset] [(.ref b5)])) (fun _ k => (Jvm.RoadKit.acmp (g := (mkF m 272 #[.val (.long p0), .second, .val (.long p1), .second, .val (.long p2), .second, .val (.long p3), .second, .val (.long p4), .second, .val (.int p5), .val (.int (3 : Int32)), .val (.ref b1), .val (.ref b3), .val (.ref b5), .val (.ref b56), .val (.ref b58), .val (.ref b5), .val (.int (1 : Int32)), .val (.int (1 : Int32)), .unset] [(.ref b5), (.ref b5)])) X70 hx rfl rfl rfl (pc0 := 272) (pc' := 275) (same := true) rfl (hb hby at_272) rfl (decide_eq_true rfl) (by decide) (by decide) (XS.aload X70.here hx rfl (hb hby at_275) rfl rfl k))) ?_
    obtain ⟨cq71, kq71, q71a, q71b, q71c⟩ := isOf hZ e70 A5_58
    obtain ⟨_, _, ⟨T71, L71, k71, n71⟩, -, X71, ⟨Lc71, hQ71, l71, y71, z71⟩, st71⟩ := X70.interfaceBack hx (xi := (⟨"java/util/List", "size", "()I"⟩ : MethodName)) (y := (⟨"java/util/ArrayList", "size", "()I"⟩ : MethodName)) hown (mvT hZ (hw _ (List.mem_of_getElem? (i := 119) rfl))) (mvT hZ (hw _ (List.mem_of_getElem? (i := 120) rfl))) (mvT hZ (hw _ (List.mem_of_getElem? (i := 121) rfl))) (mvT hZ (hw _ (List.mem_of_getElem? (i := 122) rfl))) (mvT hZ (hw _ (List.mem_of_getElem? (i := 123) rfl))) (mvT hZ (hw _ (List.mem_of_getElem? (i := 124) rfl))) (mvT hZ (hw _ (List.mem_of_getElem? (i := 125) rfl))) (mvT hZ (hw _ (List.mem_of_getElem? (i := 49) rfl))) (by decide) (backOf (W := 0) (rmSz l Z a0 hw [] (b5) ((3 : Int32)) h58 n0 Zn58 (G55x2_58)) hZ (hw _ (List.mem_of_getElem? (i := 126) rfl)) (hw _ (List.mem_of_getElem? (i := 20) rfl)) (by decide) (by decide)) q71a q71b q71c (g := (mkF m 277 #[.val (.long p0), .second, .val (.long p1), .second, .val (.long p2), .second, .val (.long p3), .second, .val (.long p4), .second, .val (.int p5), .val (.int (3 : Int32)), .val (.ref b1), .val (.ref b3), .val (.ref b5), .val (.ref b56), .val (.ref b58), .val (.ref b5), .val (.int (1 : Int32)), .val (.int (1 : Int32)), .unset] [(.ref b5)])) rfl (by rw [hml]; rfl) (Steps.refl _) (argsL := []) (rest := []) (lenOf own_pd0 rfl) rfl (by show 2 * 0 + _ ≤ _; exact Nat.le_of_eq rfl) (hb hby at_277) (fun _ _ => ⟨rfl, e70, (by decide : 6 + 0 ≤ _), (by decide : 25 + 0 ≤ _)⟩)
    dsimp only [Pt.U, Pt.locs, Pt.cells, Pt.slots] at X71 l71 y71 z71 st71 hQ71
    subst l71 y71 z71
    have X71 : Stand p l e room_1 s m _ below meth c T71 _ 6 25 := X71
    obtain ⟨rfl, Nq71, e71⟩ := hQ71
    have N71 := Fr.app N70 Nq71
    refine OGo.st (T' := T71) (g' := (mkF m 282 #[.val (.long p0), .second, .val (.long p1), .second, .val (.long p2), .second, .val (.long p3), .second, .val (.long p4), .second, .val (.int p5), .val (.int (3 : Int32)), .val (.ref b1), .val (.ref b3), .val (.ref b5), .val (.ref b56), .val (.ref b58), .val (.ref b5), .val (.int (1 : Int32)), .val (.int (1 : Int32)), .unset] [(.int (3 : Int32))])) (fun _ k => st71.trans k) ?_
    refine OGo.st (T' := T71) (g' := (mkF m 296 #[.val (.long p0), .second, .val (.long p1), .second, .val (.long p2), .second, .val (.long p3), .second, .val (.long p4), .second, .val (.int p5), .val (.int (3 : Int32)), .val (.ref b1), .val (.ref b3), .val (.ref b5), .val (.ref b56), .val (.ref b58), .val (.ref b5), .val (.int (1 : Int32)), .val (.int (1 : Int32)), .val (.int (1 : Int32))] [(.int (1 : Int32))])) (fun _ k => (XS.iload X71.here hx rfl (hb hby at_282) rfl (XS.icmpNo X71.here hx rfl (hb hby at_284) rfl (teq (by decide : (3 : Int32) = (3 : Int32))).2 (XS.iconst X71.here hx rfl (hb hby at_287) (XS.goto X71.here hx rfl (pc0 := 288) (pc' := 292) rfl (hb hby at_288) (by decide) (by decide) (XS.istore X71.here hx rfl (hb hby at_292) rfl (l' := #[.val (.long p0), .second, .val (.long p1), .second, .val (.long p2), .second, .val (.long p3), .second, .val (.long p4), .second, .val (.int p5), .val (.int (3 : Int32)), .val (.ref b1), .val (.ref b3), .val (.ref b5), .val (.ref b56), .val (.ref b58), .val (.ref b5), .val (.int (1 : Int32)), .val (.int (1 : Int32)), .val (.int (1 : Int32))]) rfl (XS.iload X71.here hx rfl (hb hby at_294) rfl k))))))) ?_
    refine OGo.st (T' := T71) (g' := (mkF m 310 #[.val (.long p0), .second, .val (.long p1), .second, .val (.long p2), .second, .val (.long p3), .second, .val (.long p4), .second, .val (.int p5), .val (.int (3 : Int32)), .val (.ref b1), .val (.ref b3), .val (.ref b5), .val (.ref b56), .val (.ref b58), .val (.ref b5), .val (.int (1 : Int32)), .val (.int (1 : Int32)), .val (.int (1 : Int32))] [(.int (1 : Int32))])) (fun _ k => (XS.ifNo X71.here hx rfl (hb hby at_296) rfl ((if0 _ _).trans (feq (by decide : ¬ ((1 : Int32) = (0 : Int32)))).1) (XS.iload X71.here hx rfl (hb hby at_299) rfl (XS.ifNo X71.here hx rfl (hb hby at_301) rfl ((if0 _ _).trans (feq (by decide : ¬ ((1 : Int32) = (0 : Int32)))).1) (XS.iload X71.here hx rfl (hb hby at_304) rfl (XS.ifNo X71.here hx rfl (hb hby at_306) rfl ((if0 _ _).trans (feq (by decide : ¬ ((1 : Int32) = (0 : Int32)))).1) (XS.iconst X71.here hx rfl (hb hby at_309) k))))))) ?_
    refine OGo.st (T' := T71) (g' := (mkF m 314 #[.val (.long p0), .second, .val (.long p1), .second, .val (.long p2), .second, .val (.long p3), .second, .val (.long p4), .second, .val (.int p5), .val (.int (3 : Int32)), .val (.ref b1), .val (.ref b3), .val (.ref b5), .val (.ref b56), .val (.ref b58), .val (.ref b5), .val (.int (1 : Int32)), .val (.int (1 : Int32)), .val (.int (1 : Int32))] [(.int (1 : Int32))])) (fun _ k => (XS.goto X71.here hx rfl (pc0 := 310) (pc' := 314) rfl (hb hby at_310) (by decide) (by decide) k)) ?_
    exact OGo.ret X71 hx hlk Bd.returns rfl (own_rI (Or.inr (Or.inl rfl))) (hb hby at_314) (by decide) (by decide) e71 (⟨rfl, N71⟩)
set_option maxRecDepth 65536 in
set_option maxHeartbeats 40000000 in
theorem comes_1 {Post : Tables → Env → Array Value → State → Outcome → State → Prop} (hpost : ∀ tb e args s v u, (limb_1_1.after args s (.returned v) u = true ∧ limb_1_2.after args s (.returned v) u = true ∧ True) → FrameEnd s (.returned v) u (Jvm.fieldLocs frame_1_writes args s ++ Jvm.arrayLocs frame_1_arrays args s ++ Jvm.staticLocs frame_1_statics s) 24 128 → Post tb e args s (.returned v) u) :
    ArmFor flags0 classFile x code maxLocals ret World_1 tables_1 room_1 Calls_1 rest_1 Pre_1 Post := by
  intro l hfl _ _ p e ha hc hk s m args below hf hA hF happ hP
  obtain ⟨hcalls, hrest, hpre⟩ := hP
  obtain ⟨-, -, -, hnamed, -, -, -, hat⟩ := (Spec.applies_iff hf).mp happ
  obtain ⟨hg, hn⟩ := and_e (Cond.before_iff.mp (show (Jvm.Cond.and given_1 narrow_1).before args s = true from hpre))
  obtain ⟨q0, r0⟩ := and_e hg
  obtain ⟨q1, r1⟩ := and_e r0
  obtain ⟨q2, r2⟩ := and_e r1
  obtain ⟨q3, r3⟩ := and_e r2
  obtain ⟨q4, r4⟩ := and_e r3
  obtain ⟨q5, r5⟩ := and_e r4
  obtain ⟨w0, w1, w2, w3, w4, w5, rfl⟩ : ∃ w0 w1 w2 w3 w4 w5 : Value, args = #[w0, w1, w2, w3, w4, w5] := by
    have hs : args.size = 6 := by simpa [Cond.value, given_1] using q0
    obtain ⟨L⟩ := args
    match L, hs with
    | [w0, w1, w2, w3, w4, w5], _ => exact ⟨w0, w1, w2, w3, w4, w5, rfl⟩
  have hw := fun d (hd : d ∈ tables_1) => atoms_spec (ws := Jvm.Cond.code x code maxLocals ret :: tables_1) hat d (List.mem_cons_of_mem _ hd)
  obtain ⟨i0, ei0⟩ := isL_v q1
  obtain rfl : w0 = (.long i0) := Option.some.inj ei0
  obtain ⟨i1, ei1⟩ := isL_v q2
  obtain rfl : w1 = (.long i1) := Option.some.inj ei1
  obtain ⟨i2, ei2⟩ := isL_v q3
  obtain rfl : w2 = (.long i2) := Option.some.inj ei2
  obtain ⟨i3, ei3⟩ := isL_v q4
  obtain rfl : w3 = (.long i3) := Option.some.inj ei3
  obtain ⟨i4, ei4⟩ := isL_v q5
  obtain rfl : w4 = (.long i4) := Option.some.inj ei4
  obtain ⟨i5, ei5⟩ := is_v r5
  obtain rfl : w5 = (.int i5) := Option.some.inj ei5
  obtain ⟨hsets, hown0⟩ := atoms_of _ (rest_1_c_eq ▸ (show rest_1_c.before _ s = true from hrest))
  obtain ⟨ed, hed⟩ := arr_v (Cond.before_iff.mp (hsets _ (List.mem_of_getElem? (i := 6) rfl)))
  obtain ⟨ced, Aed⟩ := Arr.start hed (Cond.before_iff.mp (hsets _ (List.mem_of_getElem? (i := 6) rfl)))
  have S_ed : Sta s s.heap "java/util/ArrayList" "DEFAULTCAPACITY_EMPTY_ELEMENTDATA" "[Ljava/lang/Object;" (.ref ed) := Sta.start hed (Or.inr ⟨hw _ (List.mem_of_getElem? (i := 20) rfl), hsets _ (List.mem_of_getElem? (i := 2) rfl)⟩)
  have hl8 := Cond.before_iff.mp (hsets _ (List.mem_of_getElem? (i := 8) rfl))
  obtain ⟨lx, ly, hlx, hly, -, -⟩ := cmp_v (Or.inl hl8)
  obtain rfl : Value.int 0 = ly := Option.some.inj hly
  have hlx0 : lx = .int 0 := by
    obtain ⟨_, _, _, _, rfl⟩ := Term.length_spec hlx
    have q := hl8
    simp [Cond.value, hlx, hly] at q
    rw [q]
  have hz : ced.slots.size = 0 := own_len0 (by rw [hlx, hlx0]) hed (Aed.fin (Vm.Alike.refl _))
  have A_ed : OArr s s.heap ed (.object "java/lang/Object") 0 (fun _ => .null) := ⟨ced, Aed, hz, by decide, fun j hj => absurd hj (Nat.not_lt_zero _)⟩
  obtain ⟨n, o, h1, h2, h3, _, L, rfl, ⟨rfl, N⟩, hq⟩ := rm0 l s _ hw tables_1 i0 i1 i2 i3 i4 i5 ed s.heap s.heap.size (Nat.le_refl _) (Old.start s) S_ed A_ed p e ha hc hk s m _ below hf ((Spec.applies_iff_loose hf).mp happ).1 ⟨rfl, State.Warmed39.refl s, rfl⟩ trivial
  refine ⟨n, _, h1, h2, h3, hpost _ _ _ _ _ _ ⟨Cond.after_iff.mpr rfl, Cond.after_iff.mpr (eq_i res_at (Term.int_eval (1)) rfl), trivial⟩ ⟨hq.1, hq.2.1, (hq.2.2.sift fun y hy => Or.inr (N y hy)).mono (by decide) (by decide)⟩⟩
theorem main_1_1 : Claimed_1_1 := comes_1 fun _ _ _ _ _ _ h hF => ⟨h.1, hF⟩
theorem main_1_2 : Claimed_1_2 := comes_1 fun _ _ _ _ _ _ h hF => ⟨h.2.1, hF⟩
end Jvm.Pilot.@@N@@
namespace Jvm.Pilot.@@N@@
open Jvm Jvm.ClassFile Sem Op Lib Jvm.Free Jvm.Stand Jvm.Pilot.@@N@@.Jvm.D
/-! MADE BY PROGRAM (witnessworld.py) out of the Statement's table words and the real class files: 25 classes; the members and pool entries that the words name. The judged class is class 1, her method 1. -/
namespace start1
open Jvm.ClassFile
def u (s : String) : CpInfo := .utf8 (stringToUtf16 s)
/-- a pool by its gaps: so many unusable entries, then the entry; so many at the end -/
def gap : Nat → List CpInfo → List CpInfo
  | 0, r => r
  | n + 1, r => .unusable :: gap n r
def poolList (es : List (Nat × CpInfo)) (last : Nat) : List CpInfo := es.foldr (fun e r => gap e.1 (e.2 :: r)) (gap last [])
def pool (es : List (Nat × CpInfo)) (last : Nat) : Array CpInfo := ⟨poolList es last⟩
def fileOf (pool : Array CpInfo) (this : Nat) (attrs : Array Attribute := #[]) (ms : Array MethodInfo := #[]) (fl : Nat := 33) (sup : Nat := 0) (ifs : Array Nat := #[]) (fds : Array FieldInfo := #[]) : ClassFile where
  minorVersion := 0
  majorVersion := 65
  constantPool := pool
  accessFlags := fl
  thisClass := this
  superClass := sup
  interfaces := ifs
  fields := fds
  methods := ms
  attributes := attrs
def plain (name : String) (sup : Option ClassId) : Class where
  name := name
  kind := .ordinary
  loader := none
  accessFlags := 33
  super := sup
  interfaces := #[]
  cf := none
  fields := #[]
  methods := #[]
  instanceTypes := #[]
  staticTypes := #[]
  resolved := #[]
  callSites := []
  init := .initialized
  statics := none
  mirror := none

def pool0 : Array CpInfo := pool [(5, u "<init>"), (0, u "()V"), (1, .class_ 10), (1, u "java/lang/Object")] 113

def k0c0 : Code := { maxStack := 0, maxLocals := 1, code := object_method_1_code, exceptionTable := #[], attributes := #[] }
def k0m0 : Method := { name := "<init>", desc := "()V", sig := { parameters := [], returnType := none }, accessFlags := 1, code := some k0c0 }
/-- java/lang/Object -/
def k0 : Class := { plain "java/lang/Object" none with
  accessFlags := 33
  interfaces := #[]
  cf := some (fileOf pool0 8 #[] #[{ accessFlags := 1, nameIndex := 5, descriptorIndex := 6, attributes := #[] }] 33 0 #[] #[])
  fields := #[]
  methods := #[k0m0]
  instanceTypes := #[]
  staticTypes := #[]
  resolved := Array.replicate 124 none
  statics := none }

def pool1 : Array CpInfo := pool [(2, .class_ 4), (0, .nameAndType 5 6), (0, u "java/lang/Object"), (0, u "<init>"), (0, u "()V"), (0, .class_ 8), (0, u "com/example/rallypoint/rallypoint/protocol/MultiRequest$Op"), (0, .methodref 7 10), (0, .nameAndType 5 11), (0, u "(Lcom/example/rallypoint/rallypoint/protocol/OpCode;Lcom/example/rallypoint/rallypoint/protocol/RequestBody;)V"), (0, .class_ 13), (0, u "java/util/ArrayList"), (0, .methodref 12 3), (0, .interfaceMethodref 16 17), (0, .class_ 18), (0, .nameAndType 19 20), (0, u "java/util/List"), (0, u "add"), (0, u "(Ljava/lang/Object;)Z"), (0, .class_ 22), (0, u "com/example/rallypoint/rallypoint/server/LogEntry$TreeChanged"), (0, .methodref 21 24), (0, .nameAndType 5 25), (0, u "(JJJLjava/util/List;)V"), (0, .methodref 21 27), (0, .nameAndType 28 29), (0, u "stamped"), (0, u "(JJ)Lcom/example/rallypoint/rallypoint/server/LogEntry$TreeChanged;"), (0, .methodref 21 31), (0, .nameAndType 32 33), (0, u "ops"), (0, u "()Ljava/util/List;"), (0, .methodref 21 35), (0, .nameAndType 36 37), (0, u "zxid"), (0, u "()J"), (0, .methodref 21 39), (0, .nameAndType 40 37), (0, u "time"), (0, .methodref 21 42), (0, .nameAndType 43 37), (0, u "session"), (0, .interfaceMethodref 16 45), (0, .nameAndType 46 47), (0, u "size"), (0, u "()I"), (0, .interfaceMethodref 16 49), (0, .nameAndType 50 51), (0, u "get"), (0, u "(I)Ljava/lang/Object;"), (0, .class_ 53), (0, u "com/example/rallypoint/rallypoint/server/TreeChangedStampedPinLaw"), (2, u "law"), (0, u "(JJJJJI)Z")] 10

def k1m0 : Method := { name := "<init>", desc := "()V", sig := { parameters := [], returnType := none }, accessFlags := 1, code := none }
def k1c1 : Code := { maxStack := 9, maxLocals := 21, code := code, exceptionTable := #[], attributes := #[] }
def k1m1 : Method := { name := "law", desc := "(JJJJJI)Z", sig := { parameters := [.long, .long, .long, .long, .long, .int], returnType := some .boolean }, accessFlags := 9, code := some k1c1 }
/-- com/example/rallypoint/rallypoint/server/TreeChangedStampedPinLaw -/
def k1 : Class := { plain "com/example/rallypoint/rallypoint/server/TreeChangedStampedPinLaw" (some 0) with
  accessFlags := 49
  interfaces := #[]
  cf := some (fileOf pool1 52 #[] #[{ accessFlags := 1, nameIndex := 5, descriptorIndex := 6, attributes := #[] }, { accessFlags := 9, nameIndex := 56, descriptorIndex := 57, attributes := #[] }] 49 2 #[] #[])
  fields := #[]
  methods := #[k1m0, k1m1]
  instanceTypes := #[]
  staticTypes := #[]
  resolved := Array.replicate 68 none
  statics := none }

def pool2 : Array CpInfo := pool [(1, .methodref 2 3), (0, .class_ 4), (0, .nameAndType 5 6), (0, u "java/lang/Object"), (0, u "<init>"), (0, u "()V"), (0, .class_ 8), (0, u "java/lang/Record")] 13

def k2c0 : Code := { maxStack := 1, maxLocals := 1, code := jdk_30_method_1_code, exceptionTable := #[], attributes := #[] }
def k2m0 : Method := { name := "<init>", desc := "()V", sig := { parameters := [], returnType := none }, accessFlags := 4, code := some k2c0 }
/-- java/lang/Record -/
def k2 : Class := { plain "java/lang/Record" (some 0) with
  accessFlags := 1057
  interfaces := #[]
  cf := some (fileOf pool2 7 #[] #[{ accessFlags := 4, nameIndex := 5, descriptorIndex := 6, attributes := #[] }] 1057 2 #[] #[])
  fields := #[]
  methods := #[k2m0]
  instanceTypes := #[]
  staticTypes := #[]
  resolved := Array.replicate 22 none
  statics := none }

def pool3 : Array CpInfo := pool [(1, .methodref 2 3), (0, .class_ 4), (0, .nameAndType 5 6), (0, u "java/lang/Record"), (0, u "<init>"), (0, u "()V"), (0, .fieldref 8 9), (0, .class_ 10), (0, .nameAndType 11 12), (0, u "com/example/rallypoint/rallypoint/protocol/MultiRequest$Op"), (0, u "op"), (0, u "Lcom/example/rallypoint/rallypoint/protocol/OpCode;"), (0, .fieldref 8 14), (0, .nameAndType 15 16), (0, u "body"), (0, u "Lcom/example/rallypoint/rallypoint/protocol/RequestBody;"), (37, .class_ 56), (1, u "com/example/rallypoint/rallypoint/protocol/MultiRequest"), (4, u "(Lcom/example/rallypoint/rallypoint/protocol/OpCode;Lcom/example/rallypoint/rallypoint/protocol/RequestBody;)V")] 49

def k3c0 : Code := { maxStack := 2, maxLocals := 3, code := prog_23_method_1_code, exceptionTable := #[], attributes := #[] }
def k3m0 : Method := { name := "<init>", desc := "(Lcom/example/rallypoint/rallypoint/protocol/OpCode;Lcom/example/rallypoint/rallypoint/protocol/RequestBody;)V", sig := { parameters := [(.object "com/example/rallypoint/rallypoint/protocol/OpCode"), (.object "com/example/rallypoint/rallypoint/protocol/RequestBody")], returnType := none }, accessFlags := 1, code := some k3c0 }
/-- com/example/rallypoint/rallypoint/protocol/MultiRequest$Op -/
def k3 : Class := { plain "com/example/rallypoint/rallypoint/protocol/MultiRequest$Op" (some 2) with
  accessFlags := 49
  interfaces := #[]
  cf := some (fileOf pool3 8 #[.nestHost 54] #[{ accessFlags := 1, nameIndex := 5, descriptorIndex := 61, attributes := #[] }] 49 2 #[] #[{ accessFlags := 18, nameIndex := 11, descriptorIndex := 12, attributes := #[] }, { accessFlags := 18, nameIndex := 15, descriptorIndex := 16, attributes := #[] }])
  fields := #[{ name := "op", type := (.object "com/example/rallypoint/rallypoint/protocol/OpCode"), accessFlags := 18, slot := 0, constantValue := 0 }, { name := "body", type := (.object "com/example/rallypoint/rallypoint/protocol/RequestBody"), accessFlags := 18, slot := 1, constantValue := 0 }]
  methods := #[k3m0]
  instanceTypes := #[(.object "com/example/rallypoint/rallypoint/protocol/OpCode"), (.object "com/example/rallypoint/rallypoint/protocol/RequestBody")]
  staticTypes := #[]
  resolved := Array.replicate 111 none
  statics := none }

def pool4 : Array CpInfo := pool [(8, .class_ 10), (1, u "java/lang/Iterable"), (24, .class_ 36), (0, u "java/lang/Object")] 25

/-- java/lang/Iterable -/
def k4 : Class := { plain "java/lang/Iterable" (some 0) with
  accessFlags := 1537
  interfaces := #[]
  cf := some (fileOf pool4 8 #[] #[] 1537 35 #[] #[])
  fields := #[]
  methods := #[]
  instanceTypes := #[]
  staticTypes := #[]
  resolved := Array.replicate 62 none
  statics := none }

def pool5 : Array CpInfo := pool [(10, .class_ 12), (1, u "java/util/Collection"), (47, .class_ 61), (0, u "java/lang/Object"), (0, .class_ 63), (0, u "java/lang/Iterable")] 51

/-- java/util/Collection -/
def k5 : Class := { plain "java/util/Collection" (some 0) with
  accessFlags := 1537
  interfaces := #[4]
  cf := some (fileOf pool5 10 #[] #[] 1537 60 #[62] #[])
  fields := #[]
  methods := #[]
  instanceTypes := #[]
  staticTypes := #[]
  resolved := Array.replicate 115 none
  statics := none }

def pool6 : Array CpInfo := pool [(1, .methodref 2 3), (0, .class_ 4), (0, .nameAndType 5 6), (0, u "java/lang/Object"), (0, u "<init>"), (0, u "()V"), (1, .class_ 10), (1, u "java/util/AbstractCollection"), (66, .class_ 78), (0, u "java/util/Collection")] 81

def k6c0 : Code := { maxStack := 1, maxLocals := 1, code := jdk_22_method_1_code, exceptionTable := #[], attributes := #[] }
def k6m0 : Method := { name := "<init>", desc := "()V", sig := { parameters := [], returnType := none }, accessFlags := 4, code := some k6c0 }
/-- java/util/AbstractCollection -/
def k6 : Class := { plain "java/util/AbstractCollection" (some 0) with
  accessFlags := 1057
  interfaces := #[5]
  cf := some (fileOf pool6 8 #[] #[{ accessFlags := 4, nameIndex := 5, descriptorIndex := 6, attributes := #[] }] 1057 2 #[77] #[])
  fields := #[]
  methods := #[k6m0]
  instanceTypes := #[]
  staticTypes := #[]
  resolved := Array.replicate 160 none
  statics := none }

def pool7 : Array CpInfo := pool [(8, .class_ 10), (1, u "java/util/SequencedCollection"), (15, .class_ 27), (0, u "java/lang/Object"), (0, .class_ 29), (0, u "java/util/Collection")] 27

/-- java/util/SequencedCollection -/
def k7 : Class := { plain "java/util/SequencedCollection" (some 0) with
  accessFlags := 1537
  interfaces := #[5]
  cf := some (fileOf pool7 8 #[] #[] 1537 26 #[28] #[])
  fields := #[]
  methods := #[]
  instanceTypes := #[]
  staticTypes := #[]
  resolved := Array.replicate 57 none
  statics := none }

def pool8 : Array CpInfo := pool [(8, .class_ 10), (1, u "java/util/List"), (49, u "add"), (3, u "(Ljava/lang/Object;)Z"), (10, u "get"), (0, u "(I)Ljava/lang/Object;"), (2, u "size"), (0, u "()I"), (22, .class_ 104), (0, u "java/lang/Object"), (15, .class_ 121), (0, u "java/util/SequencedCollection")] 129

def k8m0 : Method := { name := "size", desc := "()I", sig := { parameters := [], returnType := some .int }, accessFlags := 1025, code := none }
def k8m1 : Method := { name := "add", desc := "(Ljava/lang/Object;)Z", sig := { parameters := [(.object "java/lang/Object")], returnType := some .boolean }, accessFlags := 1025, code := none }
def k8m2 : Method := { name := "get", desc := "(I)Ljava/lang/Object;", sig := { parameters := [.int], returnType := some (.object "java/lang/Object") }, accessFlags := 1025, code := none }
/-- java/util/List -/
def k8 : Class := { plain "java/util/List" (some 0) with
  accessFlags := 1537
  interfaces := #[7]
  cf := some (fileOf pool8 8 #[] #[{ accessFlags := 1025, nameIndex := 79, descriptorIndex := 80, attributes := #[] }, { accessFlags := 1025, nameIndex := 60, descriptorIndex := 64, attributes := #[] }, { accessFlags := 1025, nameIndex := 75, descriptorIndex := 76, attributes := #[] }] 1537 103 #[120] #[])
  fields := #[]
  methods := #[k8m0, k8m1, k8m2]
  instanceTypes := #[]
  staticTypes := #[]
  resolved := Array.replicate 251 none
  statics := none }

def pool9 : Array CpInfo := pool [(1, .methodref 2 3), (0, .class_ 4), (0, .nameAndType 5 6), (0, u "java/util/AbstractCollection"), (0, u "<init>"), (0, u "()V"), (0, .fieldref 8 9), (0, .class_ 10), (0, .nameAndType 11 12), (0, u "java/util/AbstractList"), (0, u "modCount"), (0, u "I"), (64, .class_ 78), (0, u "java/util/AbstractList$Itr"), (3, .class_ 83), (0, u "java/util/AbstractList$ListItr"), (9, .class_ 94), (0, u "java/util/AbstractList$RandomAccessSubList"), (3, .class_ 99), (0, u "java/util/AbstractList$SubList"), (33, .class_ 134), (0, u "java/util/List"), (73, .class_ 209), (0, u "java/util/AbstractList$SubList$1"), (0, .class_ 211), (0, u "java/util/AbstractList$RandomAccessSpliterator")] 6

def k9c0 : Code := { maxStack := 2, maxLocals := 1, code := jdk_39_method_1_code, exceptionTable := #[], attributes := #[] }
def k9m0 : Method := { name := "<init>", desc := "()V", sig := { parameters := [], returnType := none }, accessFlags := 4, code := some k9c0 }
/-- java/util/AbstractList -/
def k9 : Class := { plain "java/util/AbstractList" (some 6) with
  accessFlags := 1057
  interfaces := #[8]
  cf := some (fileOf pool9 8 #[.nestMembers #[93, 98, 208, 210, 82, 77]] #[{ accessFlags := 4, nameIndex := 5, descriptorIndex := 6, attributes := #[] }] 1057 2 #[133] #[{ accessFlags := 132, nameIndex := 11, descriptorIndex := 12, attributes := #[] }])
  fields := #[{ name := "modCount", type := .int, accessFlags := 132, slot := 0, constantValue := 0 }]
  methods := #[k9m0]
  instanceTypes := #[.int]
  staticTypes := #[]
  resolved := Array.replicate 218 none
  statics := none }

def pool10 : Array CpInfo := pool [(1, .class_ 2), (0, u "java/util/RandomAccess"), (0, .class_ 4), (0, u "java/lang/Object")] 2

/-- java/util/RandomAccess -/
def k10 : Class := { plain "java/util/RandomAccess" (some 0) with
  accessFlags := 1537
  interfaces := #[]
  cf := some (fileOf pool10 1 #[] #[] 1537 3 #[] #[])
  fields := #[]
  methods := #[]
  instanceTypes := #[]
  staticTypes := #[]
  resolved := Array.replicate 7 none
  statics := none }

def pool11 : Array CpInfo := pool [(1, .class_ 2), (0, u "java/lang/Cloneable"), (0, .class_ 4), (0, u "java/lang/Object")] 2

/-- java/lang/Cloneable -/
def k11 : Class := { plain "java/lang/Cloneable" (some 0) with
  accessFlags := 1537
  interfaces := #[]
  cf := some (fileOf pool11 1 #[] #[] 1537 3 #[] #[])
  fields := #[]
  methods := #[]
  instanceTypes := #[]
  staticTypes := #[]
  resolved := Array.replicate 7 none
  statics := none }

def pool12 : Array CpInfo := pool [(1, .class_ 2), (0, u "java/io/Serializable"), (0, .class_ 4), (0, u "java/lang/Object")] 2

/-- java/io/Serializable -/
def k12 : Class := { plain "java/io/Serializable" (some 0) with
  accessFlags := 1537
  interfaces := #[]
  cf := some (fileOf pool12 1 #[] #[] 1537 3 #[] #[])
  fields := #[]
  methods := #[]
  instanceTypes := #[]
  staticTypes := #[]
  resolved := Array.replicate 7 none
  statics := none }

def pool13 : Array CpInfo := pool [(1, .methodref 2 3), (0, .class_ 4), (0, .nameAndType 5 6), (0, u "java/util/AbstractList"), (0, u "<init>"), (0, u "()V"), (0, .class_ 8), (0, u "java/lang/Object"), (0, .fieldref 10 11), (0, .class_ 12), (0, .nameAndType 13 14), (0, u "java/util/ArrayList"), (0, u "elementData"), (0, u "[Ljava/lang/Object;"), (2, u "EMPTY_ELEMENTDATA"), (21, .fieldref 10 40), (0, .nameAndType 41 14), (0, u "DEFAULTCAPACITY_EMPTY_ELEMENTDATA"), (5, u "()[Ljava/lang/Object;"), (0, .fieldref 10 49), (0, .nameAndType 50 51), (0, u "size"), (0, u "I"), (11, .fieldref 10 64), (0, .nameAndType 65 51), (0, u "modCount"), (3, .methodref 10 70), (0, .nameAndType 71 72), (0, u "grow"), (0, u "(I)[Ljava/lang/Object;"), (6, .methodref 80 81), (0, .class_ 82), (0, .nameAndType 83 84), (0, u "java/lang/Math"), (0, u "max"), (0, u "(II)I"), (11, u "(Ljava/lang/Object;)Z"), (21, .methodref 119 120), (0, .class_ 121), (0, .nameAndType 122 84), (0, u "java/util/Objects"), (0, u "checkIndex"), (0, .methodref 10 124), (0, .nameAndType 13 125), (0, u "(I)Ljava/lang/Object;"), (3, .methodref 10 130), (0, .nameAndType 71 47), (0, .methodref 10 132), (0, .nameAndType 133 134), (0, u "add"), (0, u "(Ljava/lang/Object;[Ljava/lang/Object;I)V"), (13, .class_ 149), (0, u "java/util/List"), (36, u "()I"), (75, .class_ 263), (0, u "java/util/ArrayList$ListItr"), (3, .class_ 268), (0, u "java/util/ArrayList$Itr"), (7, .class_ 277), (0, u "java/util/ArrayList$SubList"), (12, .class_ 291), (0, u "java/util/ArrayList$ArrayListSpliterator"), (37, .class_ 330), (0, u "java/util/RandomAccess"), (0, .class_ 332), (0, u "java/lang/Cloneable"), (0, .class_ 334), (0, u "java/io/Serializable"), (0, u "serialVersionUID"), (0, u "J"), (3, u "DEFAULT_CAPACITY"), (40, u "get"), (118, .class_ 501), (0, u "java/util/ArrayList$SubList$2"), (0, .class_ 503), (0, u "java/util/ArrayList$SubList$1")] 5

def k13c0 : Code := { maxStack := 2, maxLocals := 1, code := jdk_38_method_2_code, exceptionTable := #[], attributes := #[] }
def k13m0 : Method := { name := "<init>", desc := "()V", sig := { parameters := [], returnType := none }, accessFlags := 1, code := some k13c0 }
def k13c1 : Code := { maxStack := 4, maxLocals := 4, code := jdk_38_method_6_code, exceptionTable := #[], attributes := #[] }
def k13m1 : Method := { name := "grow", desc := "(I)[Ljava/lang/Object;", sig := { parameters := [.int], returnType := some (.array (.object "java/lang/Object")) }, accessFlags := 2, code := some k13c1 }
def k13c2 : Code := { maxStack := 3, maxLocals := 1, code := jdk_38_method_7_code, exceptionTable := #[], attributes := #[] }
def k13m2 : Method := { name := "grow", desc := "()[Ljava/lang/Object;", sig := { parameters := [], returnType := some (.array (.object "java/lang/Object")) }, accessFlags := 2, code := some k13c2 }
def k13c3 : Code := { maxStack := 1, maxLocals := 1, code := jdk_38_method_8_code, exceptionTable := #[], attributes := #[] }
def k13m3 : Method := { name := "size", desc := "()I", sig := { parameters := [], returnType := some .int }, accessFlags := 1, code := some k13c3 }
def k13c4 : Code := { maxStack := 2, maxLocals := 2, code := jdk_38_method_18_code, exceptionTable := #[], attributes := #[] }
def k13m4 : Method := { name := "elementData", desc := "(I)Ljava/lang/Object;", sig := { parameters := [.int], returnType := some (.object "java/lang/Object") }, accessFlags := 0, code := some k13c4 }
def k13c5 : Code := { maxStack := 2, maxLocals := 2, code := jdk_38_method_20_code, exceptionTable := #[], attributes := #[] }
def k13m5 : Method := { name := "get", desc := "(I)Ljava/lang/Object;", sig := { parameters := [.int], returnType := some (.object "java/lang/Object") }, accessFlags := 1, code := some k13c5 }
def k13c6 : Code := { maxStack := 3, maxLocals := 4, code := jdk_38_method_24_code, exceptionTable := #[], attributes := #[] }
def k13m6 : Method := { name := "add", desc := "(Ljava/lang/Object;[Ljava/lang/Object;I)V", sig := { parameters := [(.object "java/lang/Object"), (.array (.object "java/lang/Object")), .int], returnType := none }, accessFlags := 2, code := some k13c6 }
def k13c7 : Code := { maxStack := 4, maxLocals := 2, code := jdk_38_method_25_code, exceptionTable := #[], attributes := #[] }
def k13m7 : Method := { name := "add", desc := "(Ljava/lang/Object;)Z", sig := { parameters := [(.object "java/lang/Object")], returnType := some .boolean }, accessFlags := 1, code := some k13c7 }
/-- java/util/ArrayList -/
def k13 : Class := { plain "java/util/ArrayList" (some 9) with
  accessFlags := 33
  interfaces := #[8, 10, 11, 12]
  cf := some (fileOf pool13 10 #[.nestMembers #[290, 276, 500, 502, 262, 267]] #[{ accessFlags := 1, nameIndex := 5, descriptorIndex := 6, attributes := #[] }, { accessFlags := 2, nameIndex := 71, descriptorIndex := 72, attributes := #[] }, { accessFlags := 2, nameIndex := 71, descriptorIndex := 47, attributes := #[] }, { accessFlags := 1, nameIndex := 50, descriptorIndex := 186, attributes := #[] }, { accessFlags := 0, nameIndex := 13, descriptorIndex := 125, attributes := #[] }, { accessFlags := 1, nameIndex := 381, descriptorIndex := 125, attributes := #[] }, { accessFlags := 2, nameIndex := 133, descriptorIndex := 134, attributes := #[] }, { accessFlags := 1, nameIndex := 133, descriptorIndex := 96, attributes := #[] }] 33 2 #[148, 329, 331, 333] #[{ accessFlags := 26, nameIndex := 335, descriptorIndex := 336, attributes := #[] }, { accessFlags := 26, nameIndex := 340, descriptorIndex := 51, attributes := #[] }, { accessFlags := 26, nameIndex := 17, descriptorIndex := 14, attributes := #[] }, { accessFlags := 26, nameIndex := 41, descriptorIndex := 14, attributes := #[] }, { accessFlags := 128, nameIndex := 13, descriptorIndex := 14, attributes := #[] }, { accessFlags := 2, nameIndex := 50, descriptorIndex := 51, attributes := #[] }])
  fields := #[{ name := "serialVersionUID", type := .long, accessFlags := 26, slot := 0, constantValue := 0 }, { name := "DEFAULT_CAPACITY", type := .int, accessFlags := 26, slot := 1, constantValue := 0 }, { name := "EMPTY_ELEMENTDATA", type := (.array (.object "java/lang/Object")), accessFlags := 26, slot := 2, constantValue := 0 }, { name := "DEFAULTCAPACITY_EMPTY_ELEMENTDATA", type := (.array (.object "java/lang/Object")), accessFlags := 26, slot := 3, constantValue := 0 }, { name := "elementData", type := (.array (.object "java/lang/Object")), accessFlags := 128, slot := 1, constantValue := 0 }, { name := "size", type := .int, accessFlags := 2, slot := 2, constantValue := 0 }]
  methods := #[k13m0, k13m1, k13m2, k13m3, k13m4, k13m5, k13m6, k13m7]
  instanceTypes := #[.int, (.array (.object "java/lang/Object")), .int]
  staticTypes := #[.long, .int, (.array (.object "java/lang/Object")), (.array (.object "java/lang/Object"))]
  resolved := Array.replicate 509 none
  statics := some 0 }

def pool14 : Array CpInfo := pool [(1, .class_ 2), (0, u "java/lang/Math"), (1, .class_ 6), (1, u "java/lang/Object"), (0, u "<init>"), (0, u "()V"), (89, .class_ 100), (1, u "java/lang/Math$RandomNumberGeneratorHolder"), (71, u "negativeZeroFloatBits"), (0, u "J"), (2, u "negativeZeroDoubleBits"), (21, u "max"), (46, u "$assertionsDisabled"), (0, u "Z"), (88, u "(II)I"), (2, u "twoToTheDoubleScaleDown"), (0, u "D"), (4, u "twoToTheDoubleScaleUp"), (9, u "E"), (3, u "PI"), (2, u "TAU"), (2, u "DEGREES_TO_RADIANS"), (0, u "RADIANS_TO_DEGREES")] 94

def k14m0 : Method := { name := "<init>", desc := "()V", sig := { parameters := [], returnType := none }, accessFlags := 2, code := none }
def k14c1 : Code := { maxStack := 2, maxLocals := 2, code := jdk_29_method_65_code, exceptionTable := #[], attributes := #[] }
def k14m1 : Method := { name := "max", desc := "(II)I", sig := { parameters := [.int, .int], returnType := some .int }, accessFlags := 9, code := some k14c1 }
/-- java/lang/Math -/
def k14 : Class := { plain "java/lang/Math" (some 0) with
  accessFlags := 49
  interfaces := #[]
  cf := some (fileOf pool14 1 #[.nestMembers #[98]] #[{ accessFlags := 2, nameIndex := 7, descriptorIndex := 8, attributes := #[] }, { accessFlags := 9, nameIndex := 198, descriptorIndex := 335, attributes := #[] }] 49 4 #[] #[{ accessFlags := 25, nameIndex := 354, descriptorIndex := 339, attributes := #[] }, { accessFlags := 25, nameIndex := 358, descriptorIndex := 339, attributes := #[] }, { accessFlags := 25, nameIndex := 361, descriptorIndex := 339, attributes := #[] }, { accessFlags := 26, nameIndex := 364, descriptorIndex := 339, attributes := #[] }, { accessFlags := 26, nameIndex := 365, descriptorIndex := 339, attributes := #[] }, { accessFlags := 26, nameIndex := 172, descriptorIndex := 173, attributes := #[] }, { accessFlags := 26, nameIndex := 176, descriptorIndex := 173, attributes := #[] }, { accessFlags := 8, nameIndex := 344, descriptorIndex := 339, attributes := #[] }, { accessFlags := 8, nameIndex := 338, descriptorIndex := 339, attributes := #[] }, { accessFlags := 4120, nameIndex := 245, descriptorIndex := 246, attributes := #[] }])
  fields := #[{ name := "E", type := .double, accessFlags := 25, slot := 0, constantValue := 0 }, { name := "PI", type := .double, accessFlags := 25, slot := 1, constantValue := 0 }, { name := "TAU", type := .double, accessFlags := 25, slot := 2, constantValue := 0 }, { name := "DEGREES_TO_RADIANS", type := .double, accessFlags := 26, slot := 3, constantValue := 0 }, { name := "RADIANS_TO_DEGREES", type := .double, accessFlags := 26, slot := 4, constantValue := 0 }, { name := "negativeZeroFloatBits", type := .long, accessFlags := 26, slot := 5, constantValue := 0 }, { name := "negativeZeroDoubleBits", type := .long, accessFlags := 26, slot := 6, constantValue := 0 }, { name := "twoToTheDoubleScaleUp", type := .double, accessFlags := 8, slot := 7, constantValue := 0 }, { name := "twoToTheDoubleScaleDown", type := .double, accessFlags := 8, slot := 8, constantValue := 0 }, { name := "$assertionsDisabled", type := .boolean, accessFlags := 4120, slot := 9, constantValue := 0 }]
  methods := #[k14m0, k14m1]
  instanceTypes := #[]
  staticTypes := #[.double, .double, .double, .double, .double, .long, .long, .double, .double, .boolean]
  resolved := Array.replicate 460 none
  statics := none }

def pool15 : Array CpInfo := pool [(11, .class_ 12), (0, u "com/example/rallypoint/rallypoint/server/LogEntry$SessionOpened"), (13, .class_ 27), (0, u "com/example/rallypoint/rallypoint/server/LogEntry$SessionResumed"), (3, .class_ 32), (0, u "com/example/rallypoint/rallypoint/server/LogEntry$SessionEnded"), (3, .class_ 37), (0, u "com/example/rallypoint/rallypoint/server/LogEntry$EpochAccepted"), (3, .class_ 42), (0, u "com/example/rallypoint/rallypoint/server/LogEntry$TreeChanged"), (26, .class_ 70), (0, u "com/example/rallypoint/rallypoint/server/LogEntry"), (0, .class_ 72), (0, u "java/lang/Object"), (11, .class_ 85), (0, u "com/example/rallypoint/rallypoint/server/LogEntry$Txn")] 24

/-- com/example/rallypoint/rallypoint/server/LogEntry -/
def k15 : Class := { plain "com/example/rallypoint/rallypoint/server/LogEntry" (some 0) with
  accessFlags := 1536
  interfaces := #[]
  cf := some (fileOf pool15 69 #[.nestMembers #[36, 41, 31, 26, 11, 84]] #[] 1536 71 #[] #[])
  fields := #[]
  methods := #[]
  instanceTypes := #[]
  staticTypes := #[]
  resolved := Array.replicate 110 none
  statics := none }

def pool16 : Array CpInfo := pool [(1, .class_ 2), (0, u "com/example/rallypoint/rallypoint/server/LogEntry$Txn"), (0, .class_ 4), (0, u "java/lang/Object"), (0, .class_ 6), (0, u "com/example/rallypoint/rallypoint/server/LogEntry")] 22

/-- com/example/rallypoint/rallypoint/server/LogEntry$Txn -/
def k16 : Class := { plain "com/example/rallypoint/rallypoint/server/LogEntry$Txn" (some 0) with
  accessFlags := 1537
  interfaces := #[15]
  cf := some (fileOf pool16 1 #[.nestHost 5] #[] 1537 3 #[5] #[])
  fields := #[]
  methods := #[]
  instanceTypes := #[]
  staticTypes := #[]
  resolved := Array.replicate 29 none
  statics := none }

def pool17 : Array CpInfo := pool [(1, .methodref 2 3), (0, .class_ 4), (0, .nameAndType 5 6), (0, u "java/lang/Record"), (0, u "<init>"), (0, u "()V"), (0, .fieldref 8 9), (0, .class_ 10), (0, .nameAndType 11 12), (0, u "com/example/rallypoint/rallypoint/server/LogEntry$TreeChanged"), (0, u "zxid"), (0, u "J"), (0, .fieldref 8 14), (0, .nameAndType 15 12), (0, u "time"), (0, .fieldref 8 17), (0, .nameAndType 18 12), (0, u "session"), (0, .fieldref 8 20), (0, .nameAndType 21 22), (0, u "ops"), (0, u "Ljava/util/List;"), (0, .methodref 8 24), (0, .nameAndType 5 25), (0, u "(JJJLjava/util/List;)V"), (26, u "stamped"), (0, u "(JJ)Lcom/example/rallypoint/rallypoint/server/LogEntry$TreeChanged;"), (12, .class_ 67), (0, u "com/example/rallypoint/rallypoint/server/LogEntry$Txn"), (2, u "KIND"), (0, u "I"), (10, u "()J"), (0, u "()Ljava/util/List;"), (5, .class_ 90), (0, u "com/example/rallypoint/rallypoint/server/LogEntry")] 26

def k17c0 : Code := { maxStack := 3, maxLocals := 8, code := prog_59_method_1_code, exceptionTable := #[], attributes := #[] }
def k17m0 : Method := { name := "<init>", desc := "(JJJLjava/util/List;)V", sig := { parameters := [.long, .long, .long, (.object "java/util/List")], returnType := none }, accessFlags := 1, code := some k17c0 }
def k17c1 : Code := { maxStack := 9, maxLocals := 5, code := prog_59_method_2_code, exceptionTable := #[], attributes := #[] }
def k17m1 : Method := { name := "stamped", desc := "(JJ)Lcom/example/rallypoint/rallypoint/server/LogEntry$TreeChanged;", sig := { parameters := [.long, .long], returnType := some (.object "com/example/rallypoint/rallypoint/server/LogEntry$TreeChanged") }, accessFlags := 1, code := some k17c1 }
def k17c2 : Code := { maxStack := 2, maxLocals := 1, code := prog_59_method_7_code, exceptionTable := #[], attributes := #[] }
def k17m2 : Method := { name := "zxid", desc := "()J", sig := { parameters := [], returnType := some .long }, accessFlags := 1, code := some k17c2 }
def k17c3 : Code := { maxStack := 2, maxLocals := 1, code := prog_59_method_8_code, exceptionTable := #[], attributes := #[] }
def k17m3 : Method := { name := "time", desc := "()J", sig := { parameters := [], returnType := some .long }, accessFlags := 1, code := some k17c3 }
def k17c4 : Code := { maxStack := 2, maxLocals := 1, code := prog_59_method_9_code, exceptionTable := #[], attributes := #[] }
def k17m4 : Method := { name := "session", desc := "()J", sig := { parameters := [], returnType := some .long }, accessFlags := 1, code := some k17c4 }
def k17c5 : Code := { maxStack := 1, maxLocals := 1, code := prog_59_method_10_code, exceptionTable := #[], attributes := #[] }
def k17m5 : Method := { name := "ops", desc := "()Ljava/util/List;", sig := { parameters := [], returnType := some (.object "java/util/List") }, accessFlags := 1, code := some k17c5 }
/-- com/example/rallypoint/rallypoint/server/LogEntry$TreeChanged -/
def k17 : Class := { plain "com/example/rallypoint/rallypoint/server/LogEntry$TreeChanged" (some 2) with
  accessFlags := 49
  interfaces := #[16]
  cf := some (fileOf pool17 8 #[.nestHost 89] #[{ accessFlags := 1, nameIndex := 5, descriptorIndex := 25, attributes := #[] }, { accessFlags := 1, nameIndex := 52, descriptorIndex := 53, attributes := #[] }, { accessFlags := 1, nameIndex := 11, descriptorIndex := 82, attributes := #[] }, { accessFlags := 1, nameIndex := 15, descriptorIndex := 82, attributes := #[] }, { accessFlags := 1, nameIndex := 18, descriptorIndex := 82, attributes := #[] }, { accessFlags := 1, nameIndex := 21, descriptorIndex := 83, attributes := #[] }] 49 2 #[66] #[{ accessFlags := 18, nameIndex := 11, descriptorIndex := 12, attributes := #[] }, { accessFlags := 18, nameIndex := 15, descriptorIndex := 12, attributes := #[] }, { accessFlags := 18, nameIndex := 18, descriptorIndex := 12, attributes := #[] }, { accessFlags := 18, nameIndex := 21, descriptorIndex := 22, attributes := #[] }, { accessFlags := 24, nameIndex := 70, descriptorIndex := 71, attributes := #[] }])
  fields := #[{ name := "zxid", type := .long, accessFlags := 18, slot := 0, constantValue := 0 }, { name := "time", type := .long, accessFlags := 18, slot := 1, constantValue := 0 }, { name := "session", type := .long, accessFlags := 18, slot := 2, constantValue := 0 }, { name := "ops", type := (.object "java/util/List"), accessFlags := 18, slot := 3, constantValue := 0 }, { name := "KIND", type := .int, accessFlags := 24, slot := 0, constantValue := 0 }]
  methods := #[k17m0, k17m1, k17m2, k17m3, k17m4, k17m5]
  instanceTypes := #[.long, .long, .long, (.object "java/util/List")]
  staticTypes := #[.int]
  resolved := Array.replicate 117 none
  statics := none }

def pool18 : Array CpInfo := pool [(2, .class_ 4), (1, u "java/lang/Object"), (0, u "<init>"), (0, u "()V"), (35, .class_ 44), (1, u "java/util/Objects"), (60, .methodref 106 107), (0, .class_ 108), (0, .nameAndType 109 110), (0, u "jdk/internal/util/Preconditions"), (0, u "checkIndex"), (0, u "(IILjava/util/function/BiFunction;)I"), (60, u "(II)I")] 12

def k18m0 : Method := { name := "<init>", desc := "()V", sig := { parameters := [], returnType := none }, accessFlags := 2, code := none }
def k18c1 : Code := { maxStack := 3, maxLocals := 2, code := jdk_31_method_17_code, exceptionTable := #[], attributes := #[] }
def k18m1 : Method := { name := "checkIndex", desc := "(II)I", sig := { parameters := [.int, .int], returnType := some .int }, accessFlags := 9, code := some k18c1 }
/-- java/util/Objects -/
def k18 : Class := { plain "java/util/Objects" (some 0) with
  accessFlags := 49
  interfaces := #[]
  cf := some (fileOf pool18 42 #[] #[{ accessFlags := 2, nameIndex := 5, descriptorIndex := 6, attributes := #[] }, { accessFlags := 9, nameIndex := 109, descriptorIndex := 171, attributes := #[] }] 49 2 #[] #[])
  fields := #[]
  methods := #[k18m0, k18m1]
  instanceTypes := #[]
  staticTypes := #[]
  resolved := Array.replicate 184 none
  statics := none }

def pool19 : Array CpInfo := pool [(2, .class_ 4), (1, u "java/lang/Object"), (0, u "<init>"), (0, u "()V"), (17, .class_ 26), (1, u "jdk/internal/util/Preconditions"), (6, u "checkIndex"), (21, .class_ 56), (0, u "jdk/internal/util/Preconditions$4"), (57, .class_ 115), (0, u "jdk/internal/util/Preconditions$1"), (7, u "SIOOBE_FORMATTER"), (0, u "Ljava/util/function/BiFunction;"), (0, .class_ 126), (0, u "jdk/internal/util/Preconditions$2"), (3, u "AIOOBE_FORMATTER"), (0, .class_ 132), (0, u "jdk/internal/util/Preconditions$3"), (3, u "IOOBE_FORMATTER"), (41, u "(IILjava/util/function/BiFunction;)I")] 15

def k19m0 : Method := { name := "<init>", desc := "()V", sig := { parameters := [], returnType := none }, accessFlags := 1, code := none }
def k19c1 : Code := { maxStack := 3, maxLocals := 3, code := jdk_41_method_11_code, exceptionTable := #[], attributes := #[] }
def k19m1 : Method := { name := "checkIndex", desc := "(IILjava/util/function/BiFunction;)I", sig := { parameters := [.int, .int, (.object "java/util/function/BiFunction")], returnType := some .int }, accessFlags := 9, code := some k19c1 }
/-- jdk/internal/util/Preconditions -/
def k19 : Class := { plain "jdk/internal/util/Preconditions" (some 0) with
  accessFlags := 33
  interfaces := #[]
  cf := some (fileOf pool19 24 #[.nestMembers #[55, 131, 125, 114]] #[{ accessFlags := 1, nameIndex := 5, descriptorIndex := 6, attributes := #[] }, { accessFlags := 9, nameIndex := 33, descriptorIndex := 178, attributes := #[] }] 33 2 #[] #[{ accessFlags := 25, nameIndex := 123, descriptorIndex := 124, attributes := #[] }, { accessFlags := 25, nameIndex := 130, descriptorIndex := 124, attributes := #[] }, { accessFlags := 25, nameIndex := 136, descriptorIndex := 124, attributes := #[] }])
  fields := #[{ name := "SIOOBE_FORMATTER", type := (.object "java/util/function/BiFunction"), accessFlags := 25, slot := 0, constantValue := 0 }, { name := "AIOOBE_FORMATTER", type := (.object "java/util/function/BiFunction"), accessFlags := 25, slot := 1, constantValue := 0 }, { name := "IOOBE_FORMATTER", type := (.object "java/util/function/BiFunction"), accessFlags := 25, slot := 2, constantValue := 0 }]
  methods := #[k19m0, k19m1]
  instanceTypes := #[]
  staticTypes := #[(.object "java/util/function/BiFunction"), (.object "java/util/function/BiFunction"), (.object "java/util/function/BiFunction")]
  resolved := Array.replicate 194 none
  statics := none }

/-- the primitive byte -/
def k20 : Class := { plain "byte" none with kind := .primitive 'B', accessFlags := 0x411 }
/-- [B -/
def k21 : Class := { plain "[B" (some 0) with kind := .array 20 .byte, interfaces := #[11, 12], accessFlags := 1041 }

/-- the primitive int -/
def k22 : Class := { plain "int" none with kind := .primitive 'I', accessFlags := 0x411 }
/-- [I -/
def k23 : Class := { plain "[I" (some 0) with kind := .array 22 .int, interfaces := #[11, 12], accessFlags := 1041 }

/-- [Ljava/lang/Object; -/
def k24 : Class := { plain "[Ljava/lang/Object;" (some 0) with kind := .array 0 (.object "java/lang/Object"), interfaces := #[11, 12], accessFlags := 1041 }

def heap : Heap := #[{ cls := 13, slots := #[.long 0, .int 0, .ref 1, .ref 2], vm := .statics 13 },
  { cls := 24, slots := #[], vm := .none },
  { cls := 24, slots := #[], vm := .none }]
def classes : Array Class := #[k0, k1, k2, k3, k4, k5, k6, k7, k8, k9, k10, k11, k12, k13, k14, k15, k16, k17, k18, k19, k20, k21, k22, k23, k24]
def interned : List (Array UInt16 × Addr) := []
def slotsUsed : Nat := 4
def theMethod : MethodId := ⟨1, 1⟩
def args0 : Array Value := #[.long 0, .long 1, .long 2, .long 3, .long 4, .int 5]
def aboutOver (below : List Frame) : State where
  vm := { classes := classes, interned := interned.toArray }
  heap := heap
  slotsUsed := slotsUsed
  threads := #[{ frames := .invoking theMethod args0 :: below }]
def below0 : List Frame := [.native { method := ⟨0, 0⟩, args := #[] }]
def about1 : State := aboutOver below0
def p0 : Program := .bare "" "" ""
def e0 : Env := launch0.env 0 0 0
theorem w_frames : about1.frames = Frame.invoking theMethod args0 :: below0 := rfl
set_option maxRecDepth 65536 in
theorem w_args : argsFit about1.vm theMethod args0 = true := by decide +kernel
set_option maxRecDepth 65536 in
theorem w_heap : heapFits about1 = true := by decide +kernel
set_option maxRecDepth 65536 in
theorem w_runnable : about1.curStatus? = some .runnable := by decide +kernel
set_option maxRecDepth 65536 in
theorem w_alone : about1.alone = true := by decide +kernel
set_option maxRecDepth 65536 in
theorem w_named : about1.methodNamed? x = some theMethod := by decide +kernel
set_option maxRecDepth 65536 in
theorem w_hears : about1.hears theMethod below0 = true := by decide +kernel
set_option maxRecDepth 65536 in
theorem w_ripe : about1.ripe theMethod args0 below0 = true := by decide +kernel
theorem w_running : about1.status = .running := rfl
set_option maxRecDepth 65536 in
theorem w_room : about1.hasRoom e0.platform room_1 = true :=
  launch0.hasRoom_least _ room_1 (by decide +kernel) (by decide +kernel) (by decide +kernel) (by decide +kernel) (by decide +kernel) (by decide +kernel)
theorem allAtoms_all (ts : List Jvm.Cond) (a : Array Jvm.Value) (st : Jvm.State) : (allAtoms ts).before a st = ts.all (fun c => c.before a st) := by
  induction ts with
  | nil => rfl
  | cons c t ih =>
    show (Jvm.Cond.and c (allAtoms t)).before a st = _
    rw [Jvm.Cond.before_and, ih, List.all_cons]
def words1 : List Jvm.Cond := Jvm.Cond.code x code maxLocals ret :: tables_1
/-- a 'code' word, met by the world's own term for the bytes: nothing is compared byte by byte -/
theorem code_word {y : MethodName} {bytes : ByteArray} {mx : Nat} {rt : Option FieldType} {a : Array Value} {s : State} {m : MethodId} {meth : Method} {c : Code} (h1 : s.methodNamed? y = some m) (h2 : s.vm.method? m = some meth) (h3 : meth.code = some c) (h4 : c.code = bytes)
    (h5 : (c.maxLocals == mx && c.exceptionTable.isEmpty && decide (c.maxStack ≤ mostOperands) && decide (meth.sig.returnType = rt) && !meth.locks && decide (parseMethodDescriptor y.desc = some meth.sig)) = true) : (Jvm.Cond.code y bytes mx rt).before a s = true := by
  simp only [Bool.and_eq_true, beq_iff_eq, Bool.not_eq_true', decide_eq_true_eq] at h5
  obtain ⟨⟨⟨⟨⟨g1, g2⟩, g3⟩, g4⟩, g5⟩, g6⟩ := h5
  simp [Cond.before, Cond.holds, Cond.value, h1, h2, h3, h4, g1, g2, g3, g4, g5, g6]
def isCode : Jvm.Cond → Bool
  | .code _ _ _ _ => true
  | _ => false
theorem all_split {L : List Jvm.Cond} {P : Jvm.Cond → Bool} (h1 : L.all (fun c => isCode c || P c) = true) (h2 : ∀ c ∈ L.filter isCode, P c = true) : L.all P = true := by
  refine List.all_eq_true.mpr fun c hc => ?_
  have h := List.all_eq_true.mp h1 c hc
  rcases Bool.eq_false_or_eq_true (isCode c) with hi | hi
  · exact h2 c (List.mem_filter.mpr ⟨hc, hi⟩)
  · simpa [hi] using h
set_option maxRecDepth 65536 in
theorem w_c0 : (Jvm.Cond.code x code maxLocals ret).before args0 about1 = true := code_word (m := ⟨1, 1⟩) (meth := k1m1) (c := k1c1) (by decide +kernel) rfl rfl rfl (by decide +kernel)
set_option maxRecDepth 65536 in
theorem w_c1 : (Jvm.Cond.code ({ cls := "com/example/rallypoint/rallypoint/protocol/MultiRequest$Op", name := "<init>", desc := "(Lcom/example/rallypoint/rallypoint/protocol/OpCode;Lcom/example/rallypoint/rallypoint/protocol/RequestBody;)V" } : Jvm.MethodName) prog_23_method_1_code (3 : Nat) (Option.none : Option Jvm.ClassFile.FieldType)).before args0 about1 = true := code_word (m := ⟨3, 0⟩) (meth := k3m0) (c := k3c0) (by decide +kernel) rfl rfl rfl (by decide +kernel)
set_option maxRecDepth 65536 in
theorem w_c2 : (Jvm.Cond.code ({ cls := "java/lang/Record", name := "<init>", desc := "()V" } : Jvm.MethodName) jdk_30_method_1_code (1 : Nat) (Option.none : Option Jvm.ClassFile.FieldType)).before args0 about1 = true := code_word (m := ⟨2, 0⟩) (meth := k2m0) (c := k2c0) (by decide +kernel) rfl rfl rfl (by decide +kernel)
set_option maxRecDepth 65536 in
theorem w_c3 : (Jvm.Cond.code ({ cls := "java/lang/Object", name := "<init>", desc := "()V" } : Jvm.MethodName) object_method_1_code (1 : Nat) (Option.none : Option Jvm.ClassFile.FieldType)).before args0 about1 = true := code_word (m := ⟨0, 0⟩) (meth := k0m0) (c := k0c0) (by decide +kernel) rfl rfl rfl (by decide +kernel)
set_option maxRecDepth 65536 in
theorem w_c4 : (Jvm.Cond.code ({ cls := "java/util/ArrayList", name := "<init>", desc := "()V" } : Jvm.MethodName) jdk_38_method_2_code (1 : Nat) (Option.none : Option Jvm.ClassFile.FieldType)).before args0 about1 = true := code_word (m := ⟨13, 0⟩) (meth := k13m0) (c := k13c0) (by decide +kernel) rfl rfl rfl (by decide +kernel)
set_option maxRecDepth 65536 in
theorem w_c5 : (Jvm.Cond.code ({ cls := "java/util/AbstractList", name := "<init>", desc := "()V" } : Jvm.MethodName) jdk_39_method_1_code (1 : Nat) (Option.none : Option Jvm.ClassFile.FieldType)).before args0 about1 = true := code_word (m := ⟨9, 0⟩) (meth := k9m0) (c := k9c0) (by decide +kernel) rfl rfl rfl (by decide +kernel)
set_option maxRecDepth 65536 in
theorem w_c6 : (Jvm.Cond.code ({ cls := "java/util/AbstractCollection", name := "<init>", desc := "()V" } : Jvm.MethodName) jdk_22_method_1_code (1 : Nat) (Option.none : Option Jvm.ClassFile.FieldType)).before args0 about1 = true := code_word (m := ⟨6, 0⟩) (meth := k6m0) (c := k6c0) (by decide +kernel) rfl rfl rfl (by decide +kernel)
set_option maxRecDepth 65536 in
theorem w_c7 : (Jvm.Cond.code ({ cls := "java/util/ArrayList", name := "add", desc := "(Ljava/lang/Object;)Z" } : Jvm.MethodName) jdk_38_method_25_code (2 : Nat) (Option.some Jvm.ClassFile.FieldType.boolean)).before args0 about1 = true := code_word (m := ⟨13, 7⟩) (meth := k13m7) (c := k13c7) (by decide +kernel) rfl rfl rfl (by decide +kernel)
set_option maxRecDepth 65536 in
theorem w_c8 : (Jvm.Cond.code ({ cls := "java/util/ArrayList", name := "add", desc := "(Ljava/lang/Object;[Ljava/lang/Object;I)V" } : Jvm.MethodName) jdk_38_method_24_code (4 : Nat) (Option.none : Option Jvm.ClassFile.FieldType)).before args0 about1 = true := code_word (m := ⟨13, 6⟩) (meth := k13m6) (c := k13c6) (by decide +kernel) rfl rfl rfl (by decide +kernel)
set_option maxRecDepth 65536 in
theorem w_c9 : (Jvm.Cond.code ({ cls := "java/util/ArrayList", name := "grow", desc := "()[Ljava/lang/Object;" } : Jvm.MethodName) jdk_38_method_7_code (1 : Nat) (Option.some (Jvm.ClassFile.FieldType.array (Jvm.ClassFile.FieldType.object "java/lang/Object")))).before args0 about1 = true := code_word (m := ⟨13, 2⟩) (meth := k13m2) (c := k13c2) (by decide +kernel) rfl rfl rfl (by decide +kernel)
set_option maxRecDepth 65536 in
theorem w_c10 : (Jvm.Cond.code ({ cls := "java/util/ArrayList", name := "grow", desc := "(I)[Ljava/lang/Object;" } : Jvm.MethodName) jdk_38_method_6_code (4 : Nat) (Option.some (Jvm.ClassFile.FieldType.array (Jvm.ClassFile.FieldType.object "java/lang/Object")))).before args0 about1 = true := code_word (m := ⟨13, 1⟩) (meth := k13m1) (c := k13c1) (by decide +kernel) rfl rfl rfl (by decide +kernel)
set_option maxRecDepth 65536 in
theorem w_c11 : (Jvm.Cond.code ({ cls := "java/lang/Math", name := "max", desc := "(II)I" } : Jvm.MethodName) jdk_29_method_65_code (2 : Nat) (Option.some Jvm.ClassFile.FieldType.int)).before args0 about1 = true := code_word (m := ⟨14, 1⟩) (meth := k14m1) (c := k14c1) (by decide +kernel) rfl rfl rfl (by decide +kernel)
set_option maxRecDepth 65536 in
theorem w_c12 : (Jvm.Cond.code ({ cls := "com/example/rallypoint/rallypoint/server/LogEntry$TreeChanged", name := "<init>", desc := "(JJJLjava/util/List;)V" } : Jvm.MethodName) prog_59_method_1_code (8 : Nat) (Option.none : Option Jvm.ClassFile.FieldType)).before args0 about1 = true := code_word (m := ⟨17, 0⟩) (meth := k17m0) (c := k17c0) (by decide +kernel) rfl rfl rfl (by decide +kernel)
set_option maxRecDepth 65536 in
theorem w_c13 : (Jvm.Cond.code ({ cls := "com/example/rallypoint/rallypoint/server/LogEntry$TreeChanged", name := "stamped", desc := "(JJ)Lcom/example/rallypoint/rallypoint/server/LogEntry$TreeChanged;" } : Jvm.MethodName) prog_59_method_2_code (5 : Nat) (Option.some (Jvm.ClassFile.FieldType.object "com/example/rallypoint/rallypoint/server/LogEntry$TreeChanged"))).before args0 about1 = true := code_word (m := ⟨17, 1⟩) (meth := k17m1) (c := k17c1) (by decide +kernel) rfl rfl rfl (by decide +kernel)
set_option maxRecDepth 65536 in
theorem w_c14 : (Jvm.Cond.code ({ cls := "com/example/rallypoint/rallypoint/server/LogEntry$TreeChanged", name := "ops", desc := "()Ljava/util/List;" } : Jvm.MethodName) prog_59_method_10_code (1 : Nat) (Option.some (Jvm.ClassFile.FieldType.object "java/util/List"))).before args0 about1 = true := code_word (m := ⟨17, 5⟩) (meth := k17m5) (c := k17c5) (by decide +kernel) rfl rfl rfl (by decide +kernel)
set_option maxRecDepth 65536 in
theorem w_c15 : (Jvm.Cond.code ({ cls := "com/example/rallypoint/rallypoint/server/LogEntry$TreeChanged", name := "zxid", desc := "()J" } : Jvm.MethodName) prog_59_method_7_code (1 : Nat) (Option.some Jvm.ClassFile.FieldType.long)).before args0 about1 = true := code_word (m := ⟨17, 2⟩) (meth := k17m2) (c := k17c2) (by decide +kernel) rfl rfl rfl (by decide +kernel)
set_option maxRecDepth 65536 in
theorem w_c16 : (Jvm.Cond.code ({ cls := "com/example/rallypoint/rallypoint/server/LogEntry$TreeChanged", name := "time", desc := "()J" } : Jvm.MethodName) prog_59_method_8_code (1 : Nat) (Option.some Jvm.ClassFile.FieldType.long)).before args0 about1 = true := code_word (m := ⟨17, 3⟩) (meth := k17m3) (c := k17c3) (by decide +kernel) rfl rfl rfl (by decide +kernel)
set_option maxRecDepth 65536 in
theorem w_c17 : (Jvm.Cond.code ({ cls := "com/example/rallypoint/rallypoint/server/LogEntry$TreeChanged", name := "session", desc := "()J" } : Jvm.MethodName) prog_59_method_9_code (1 : Nat) (Option.some Jvm.ClassFile.FieldType.long)).before args0 about1 = true := code_word (m := ⟨17, 4⟩) (meth := k17m4) (c := k17c4) (by decide +kernel) rfl rfl rfl (by decide +kernel)
set_option maxRecDepth 65536 in
theorem w_c18 : (Jvm.Cond.code ({ cls := "java/util/ArrayList", name := "size", desc := "()I" } : Jvm.MethodName) jdk_38_method_8_code (1 : Nat) (Option.some Jvm.ClassFile.FieldType.int)).before args0 about1 = true := code_word (m := ⟨13, 3⟩) (meth := k13m3) (c := k13c3) (by decide +kernel) rfl rfl rfl (by decide +kernel)
set_option maxRecDepth 65536 in
theorem w_c19 : (Jvm.Cond.code ({ cls := "java/util/ArrayList", name := "get", desc := "(I)Ljava/lang/Object;" } : Jvm.MethodName) jdk_38_method_20_code (2 : Nat) (Option.some (Jvm.ClassFile.FieldType.object "java/lang/Object"))).before args0 about1 = true := code_word (m := ⟨13, 5⟩) (meth := k13m5) (c := k13c5) (by decide +kernel) rfl rfl rfl (by decide +kernel)
set_option maxRecDepth 65536 in
theorem w_c20 : (Jvm.Cond.code ({ cls := "java/util/Objects", name := "checkIndex", desc := "(II)I" } : Jvm.MethodName) jdk_31_method_17_code (2 : Nat) (Option.some Jvm.ClassFile.FieldType.int)).before args0 about1 = true := code_word (m := ⟨18, 1⟩) (meth := k18m1) (c := k18c1) (by decide +kernel) rfl rfl rfl (by decide +kernel)
set_option maxRecDepth 65536 in
theorem w_c21 : (Jvm.Cond.code ({ cls := "jdk/internal/util/Preconditions", name := "checkIndex", desc := "(IILjava/util/function/BiFunction;)I" } : Jvm.MethodName) jdk_41_method_11_code (3 : Nat) (Option.some Jvm.ClassFile.FieldType.int)).before args0 about1 = true := code_word (m := ⟨19, 1⟩) (meth := k19m1) (c := k19c1) (by decide +kernel) rfl rfl rfl (by decide +kernel)
set_option maxRecDepth 65536 in
theorem w_c22 : (Jvm.Cond.code ({ cls := "java/util/ArrayList", name := "elementData", desc := "(I)Ljava/lang/Object;" } : Jvm.MethodName) jdk_38_method_18_code (2 : Nat) (Option.some (Jvm.ClassFile.FieldType.object "java/lang/Object"))).before args0 about1 = true := code_word (m := ⟨13, 4⟩) (meth := k13m4) (c := k13c4) (by decide +kernel) rfl rfl rfl (by decide +kernel)
def codes1 : List Jvm.Cond := [Jvm.Cond.code x code maxLocals ret, Jvm.Cond.code ({ cls := "com/example/rallypoint/rallypoint/protocol/MultiRequest$Op", name := "<init>", desc := "(Lcom/example/rallypoint/rallypoint/protocol/OpCode;Lcom/example/rallypoint/rallypoint/protocol/RequestBody;)V" } : Jvm.MethodName) prog_23_method_1_code (3 : Nat) (Option.none : Option Jvm.ClassFile.FieldType), Jvm.Cond.code ({ cls := "java/lang/Record", name := "<init>", desc := "()V" } : Jvm.MethodName) jdk_30_method_1_code (1 : Nat) (Option.none : Option Jvm.ClassFile.FieldType), Jvm.Cond.code ({ cls := "java/lang/Object", name := "<init>", desc := "()V" } : Jvm.MethodName) object_method_1_code (1 : Nat) (Option.none : Option Jvm.ClassFile.FieldType), Jvm.Cond.code ({ cls := "java/util/ArrayList", name := "<init>", desc := "()V" } : Jvm.MethodName) jdk_38_method_2_code (1 : Nat) (Option.none : Option Jvm.ClassFile.FieldType), Jvm.Cond.code ({ cls := "java/util/AbstractList", name := "<init>", desc := "()V" } : Jvm.MethodName) jdk_39_method_1_code (1 : Nat) (Option.none : Option Jvm.ClassFile.FieldType), Jvm.Cond.code ({ cls := "java/util/AbstractCollection", name := "<init>", desc := "()V" } : Jvm.MethodName) jdk_22_method_1_code (1 : Nat) (Option.none : Option Jvm.ClassFile.FieldType), Jvm.Cond.code ({ cls := "java/util/ArrayList", name := "add", desc := "(Ljava/lang/Object;)Z" } : Jvm.MethodName) jdk_38_method_25_code (2 : Nat) (Option.some Jvm.ClassFile.FieldType.boolean), Jvm.Cond.code ({ cls := "java/util/ArrayList", name := "add", desc := "(Ljava/lang/Object;[Ljava/lang/Object;I)V" } : Jvm.MethodName) jdk_38_method_24_code (4 : Nat) (Option.none : Option Jvm.ClassFile.FieldType), Jvm.Cond.code ({ cls := "java/util/ArrayList", name := "grow", desc := "()[Ljava/lang/Object;" } : Jvm.MethodName) jdk_38_method_7_code (1 : Nat) (Option.some (Jvm.ClassFile.FieldType.array (Jvm.ClassFile.FieldType.object "java/lang/Object"))), Jvm.Cond.code ({ cls := "java/util/ArrayList", name := "grow", desc := "(I)[Ljava/lang/Object;" } : Jvm.MethodName) jdk_38_method_6_code (4 : Nat) (Option.some (Jvm.ClassFile.FieldType.array (Jvm.ClassFile.FieldType.object "java/lang/Object"))), Jvm.Cond.code ({ cls := "java/lang/Math", name := "max", desc := "(II)I" } : Jvm.MethodName) jdk_29_method_65_code (2 : Nat) (Option.some Jvm.ClassFile.FieldType.int), Jvm.Cond.code ({ cls := "com/example/rallypoint/rallypoint/server/LogEntry$TreeChanged", name := "<init>", desc := "(JJJLjava/util/List;)V" } : Jvm.MethodName) prog_59_method_1_code (8 : Nat) (Option.none : Option Jvm.ClassFile.FieldType), Jvm.Cond.code ({ cls := "com/example/rallypoint/rallypoint/server/LogEntry$TreeChanged", name := "stamped", desc := "(JJ)Lcom/example/rallypoint/rallypoint/server/LogEntry$TreeChanged;" } : Jvm.MethodName) prog_59_method_2_code (5 : Nat) (Option.some (Jvm.ClassFile.FieldType.object "com/example/rallypoint/rallypoint/server/LogEntry$TreeChanged")), Jvm.Cond.code ({ cls := "com/example/rallypoint/rallypoint/server/LogEntry$TreeChanged", name := "ops", desc := "()Ljava/util/List;" } : Jvm.MethodName) prog_59_method_10_code (1 : Nat) (Option.some (Jvm.ClassFile.FieldType.object "java/util/List")), Jvm.Cond.code ({ cls := "com/example/rallypoint/rallypoint/server/LogEntry$TreeChanged", name := "zxid", desc := "()J" } : Jvm.MethodName) prog_59_method_7_code (1 : Nat) (Option.some Jvm.ClassFile.FieldType.long), Jvm.Cond.code ({ cls := "com/example/rallypoint/rallypoint/server/LogEntry$TreeChanged", name := "time", desc := "()J" } : Jvm.MethodName) prog_59_method_8_code (1 : Nat) (Option.some Jvm.ClassFile.FieldType.long), Jvm.Cond.code ({ cls := "com/example/rallypoint/rallypoint/server/LogEntry$TreeChanged", name := "session", desc := "()J" } : Jvm.MethodName) prog_59_method_9_code (1 : Nat) (Option.some Jvm.ClassFile.FieldType.long), Jvm.Cond.code ({ cls := "java/util/ArrayList", name := "size", desc := "()I" } : Jvm.MethodName) jdk_38_method_8_code (1 : Nat) (Option.some Jvm.ClassFile.FieldType.int), Jvm.Cond.code ({ cls := "java/util/ArrayList", name := "get", desc := "(I)Ljava/lang/Object;" } : Jvm.MethodName) jdk_38_method_20_code (2 : Nat) (Option.some (Jvm.ClassFile.FieldType.object "java/lang/Object")), Jvm.Cond.code ({ cls := "java/util/Objects", name := "checkIndex", desc := "(II)I" } : Jvm.MethodName) jdk_31_method_17_code (2 : Nat) (Option.some Jvm.ClassFile.FieldType.int), Jvm.Cond.code ({ cls := "jdk/internal/util/Preconditions", name := "checkIndex", desc := "(IILjava/util/function/BiFunction;)I" } : Jvm.MethodName) jdk_41_method_11_code (3 : Nat) (Option.some Jvm.ClassFile.FieldType.int), Jvm.Cond.code ({ cls := "java/util/ArrayList", name := "elementData", desc := "(I)Ljava/lang/Object;" } : Jvm.MethodName) jdk_38_method_18_code (2 : Nat) (Option.some (Jvm.ClassFile.FieldType.object "java/lang/Object"))]
set_option maxRecDepth 65536 in
theorem codes_eq : words1.filter isCode = codes1 := rfl
theorem w_codes : ∀ c ∈ words1.filter isCode, c.before args0 about1 = true := by
  rw [codes_eq]
  intro c hc
  simp only [codes1, List.mem_cons, List.not_mem_nil, or_false] at hc
  rcases hc with rfl | rfl | rfl | rfl | rfl | rfl | rfl | rfl | rfl | rfl | rfl | rfl | rfl | rfl | rfl | rfl | rfl | rfl | rfl | rfl | rfl | rfl | rfl
  · exact w_c0
  · exact w_c1
  · exact w_c2
  · exact w_c3
  · exact w_c4
  · exact w_c5
  · exact w_c6
  · exact w_c7
  · exact w_c8
  · exact w_c9
  · exact w_c10
  · exact w_c11
  · exact w_c12
  · exact w_c13
  · exact w_c14
  · exact w_c15
  · exact w_c16
  · exact w_c17
  · exact w_c18
  · exact w_c19
  · exact w_c20
  · exact w_c21
  · exact w_c22
set_option maxRecDepth 65536 in
theorem w_t1 : (words1.take 24).all (fun c => isCode c || c.before args0 about1) = true := by decide +kernel
set_option maxRecDepth 65536 in
theorem w_t2 : ((words1.drop 24).take 24).all (fun c => isCode c || c.before args0 about1) = true := by decide +kernel
set_option maxRecDepth 65536 in
theorem w_t3 : (((words1.drop 24).drop 24).take 24).all (fun c => isCode c || c.before args0 about1) = true := by decide +kernel
set_option maxRecDepth 65536 in
theorem w_t4 : ((((words1.drop 24).drop 24).drop 24).take 24).all (fun c => isCode c || c.before args0 about1) = true := by decide +kernel
set_option maxRecDepth 65536 in
theorem w_t5 : (((((words1.drop 24).drop 24).drop 24).drop 24).take 24).all (fun c => isCode c || c.before args0 about1) = true := by decide +kernel
set_option maxRecDepth 65536 in
theorem w_t6 : ((((((words1.drop 24).drop 24).drop 24).drop 24).drop 24).take 24).all (fun c => isCode c || c.before args0 about1) = true := by decide +kernel
set_option maxRecDepth 65536 in
theorem w_t7 : ((((((words1.drop 24).drop 24).drop 24).drop 24).drop 24).drop 24).all (fun c => isCode c || c.before args0 about1) = true := by decide +kernel
theorem w_tables : (allAtoms (Jvm.Cond.code x code maxLocals ret :: tables_1)).before args0 about1 = true := by
  rw [allAtoms_all]
  show words1.all (fun c => c.before args0 about1) = true
  refine all_split ?_ w_codes
  rw [← List.take_append_drop 24 words1, List.all_append, w_t1, ← List.take_append_drop 24 (words1.drop 24), List.all_append, w_t2, ← List.take_append_drop 24 ((words1.drop 24).drop 24), List.all_append, w_t3, ← List.take_append_drop 24 (((words1.drop 24).drop 24).drop 24), List.all_append, w_t4, ← List.take_append_drop 24 ((((words1.drop 24).drop 24).drop 24).drop 24), List.all_append, w_t5, ← List.take_append_drop 24 (((((words1.drop 24).drop 24).drop 24).drop 24).drop 24), List.all_append, w_t6, w_t7]
  rfl
set_option maxRecDepth 65536 in
theorem w_rest : rest_1_c.before args0 about1 = true := by decide +kernel
set_option maxRecDepth 65536 in
theorem w_case : (Jvm.Cond.and given_1 narrow_1).before args0 about1 = true := by decide +kernel
theorem w_applies : (headSpec (Jvm.Cond.code x code maxLocals ret :: tables_1) room_1).applies x e0.platform about1 = true :=
  (Spec.applies_iff w_frames).mpr ⟨w_running, w_runnable, w_alone, w_named, w_hears, w_ripe, w_room, w_tables⟩
theorem atStart : AtStart classFile x code maxLocals ret World_1 tables_1 room_1 Calls_1 rest_1 Pre_1 launch0 p0 e0 about1 theMethod args0 below0 :=
  ⟨lists_1, trivial, launch0.admits_env _ _ _, launch0.least_env, fairChoices_fair.cas, fairChoices_fair.clock, w_frames, w_args, w_heap, w_applies, trivial, w_rest, w_case⟩
end start1
theorem witness_1 : WitnessClaimed_1 := ⟨start1.p0, start1.e0, start1.about1, start1.theMethod, start1.args0, start1.below0, start1.atStart⟩
end Jvm.Pilot.@@N@@

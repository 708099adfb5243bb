import JvmDerived
import JvmDerived.Pilot.@@N@@Statement
import JvmDerived.Pilot.@@N@@Code
set_option linter.unusedVariables false
set_option linter.unusedSimpArgs false
namespace Jvm.Pilot.@@N@@
open Jvm Jvm.ClassFile Sem Op Lib Jvm.Free Jvm.Stand Jvm.LawKit Jvm.RoadKit Bundle Jvm.Pilot.@@N@@.Jvm.D
/-! ### own: what is left of a body's walk, as one word; each step goes back over it -/
def OGo (p : Program) (e : Env) (below : List Frame) (s : State) (Q : Option Value → Heap → List Loc → Prop) (C S : Nat) (T : State) (g : JFrame) : Prop :=
  ∃ s₂ o, Steps p.tables e below (T.setTop g) s₂ ∧ s₂.status = .running ∧ Ended s₂ below o ∧ ∃ v L, o = .returned v ∧ Q v s₂.heap L ∧ FrameEnd s o s₂ L C S
section Own
variable {p : Program} {l : Launch} {e : Env} {R : Room} {s s₁ : State} {m : MethodId} {args : Array Value} {below : List Frame} {meth : Method} {c : Code} {T T' : State} {locs : List Loc} {cells slots : Nat} {g g' : JFrame} {Q : Option Value → Heap → List Loc → Prop} {C S : Nat} {Z : State} {a0 : Array Value} {h h' : Heap}
theorem OGo.st (k : ∀ t, Steps p.tables e below (T'.setTop g') t → Steps p.tables e below (T.setTop g) t) (q : OGo p e below s Q C S T' g') : OGo p e below s Q C S T g := by
  obtain ⟨s₂, o, h1, h2⟩ := q
  exact ⟨s₂, o, k _ h1, h2⟩
theorem OGo.en {ml : Nat} (q : entryFrame m args ml = g) (k : OGo p e below s Q C S s₁ g) : ∃ s₂ o, Steps p.tables e below (s₁.setTop (entryFrame m args ml)) s₂ ∧ s₂.status = .running ∧ Ended s₂ below o ∧ ∃ v L, o = .returned v ∧ Q v s₂.heap L ∧ FrameEnd s o s₂ L C S := by
  rw [q]; exact k
theorem OGo.ret (X : Stand p l e R s m args below meth c T locs cells slots) (hx : p.tables.exec = Jvm.exec) (hlk : meth.locks = false) {pc : Nat} {Ls : Array Slot} {w : Value} {t : FieldType} {i : Instr} {rest : List Value} (hret : meth.sig.returnType = some t) (hn : narrow t w = w)
    (hi : (i = .ireturn ∧ (t = .int ∨ t = .boolean ∨ t = .byte ∨ t = .char ∨ t = .short) ∧ ∃ z, w = .int z) ∨ (i = .lreturn ∧ t = .long ∧ ∃ z, w = .long z) ∨ (i = .dreturn ∧ t = .double ∧ ∃ z, w = .double z) ∨ (i = .freturn ∧ t = .float ∧ ∃ z, w = .float z) ∨ (i = .areturn ∧ t.isReference = true ∧ w.isRef = true))
    (hd : decode c.code pc = .ok (i, 1)) (hC : cells ≤ C) (hS : slots ≤ S) (hh : T.heap = h) (hQ : Q (some w) h locs) : OGo p e below s Q C S T (mkF m pc Ls (w :: rest)) := by
  obtain ⟨fs, hr, hrun, hended, hW, hsame⟩ := X.leave (v := some w) (fun q => by rw [hret] at q; cases q) hlk
  subst hh
  exact ⟨_, _, retOut X hx hret hn hi hd hr, hrun, hended, _, _, rfl, hQ, ⟨_, rfl⟩, hW, hsame.mono hC hS⟩
theorem OGo.retV (X : Stand p l e R s m args below meth c T locs cells slots) (hx : p.tables.exec = Jvm.exec) (hlk : meth.locks = false) {pc : Nat} {Ls : Array Slot} (hret : meth.sig.returnType = none)
    (hd : decode c.code pc = .ok (.return_, 1)) (hC : cells ≤ C) (hS : slots ≤ S) (hh : T.heap = h) (hQ : Q none h locs) : OGo p e below s Q C S T (mkF m pc Ls []) := by
  obtain ⟨fs, hr, hrun, hended, hW, hsame⟩ := X.leave (v := none) (fun _ => rfl) hlk
  subst hh
  exact ⟨_, _, X.returnOut hx hret hd hr, hrun, hended, _, _, rfl, hQ, ⟨_, rfl⟩, hW, hsame.mono hC hS⟩
theorem own_rI {t : FieldType} {z : Int32} (ht : t = .int ∨ t = .boolean ∨ t = .byte ∨ t = .char ∨ t = .short) : ((Instr.ireturn = .ireturn ∧ (t = .int ∨ t = .boolean ∨ t = .byte ∨ t = .char ∨ t = .short) ∧ ∃ z', Value.int z = .int z') ∨ (Instr.ireturn = .lreturn ∧ t = .long ∧ ∃ z', Value.int z = .long z') ∨ (Instr.ireturn = .dreturn ∧ t = .double ∧ ∃ z', Value.int z = .double z') ∨ (Instr.ireturn = .freturn ∧ t = .float ∧ ∃ z', Value.int z = .float z') ∨ (Instr.ireturn = .areturn ∧ t.isReference = true ∧ (Value.int z).isRef = true)) := Or.inl ⟨rfl, ht, z, rfl⟩
theorem own_rJ {z : Int64} : ((Instr.lreturn = .ireturn ∧ (FieldType.long = .int ∨ FieldType.long = .boolean ∨ FieldType.long = .byte ∨ FieldType.long = .char ∨ FieldType.long = .short) ∧ ∃ z', Value.long z = .int z') ∨ (Instr.lreturn = .lreturn ∧ FieldType.long = .long ∧ ∃ z', Value.long z = .long z') ∨ (Instr.lreturn = .dreturn ∧ FieldType.long = .double ∧ ∃ z', Value.long z = .double z') ∨ (Instr.lreturn = .freturn ∧ FieldType.long = .float ∧ ∃ z', Value.long z = .float z') ∨ (Instr.lreturn = .areturn ∧ FieldType.long.isReference = true ∧ (Value.long z).isRef = true)) := Or.inr (Or.inl ⟨rfl, rfl, z, rfl⟩)
theorem own_rR {t : FieldType} {w : Value} (ht : t.isReference = true) (hw : w.isRef = true) : ((Instr.areturn = .ireturn ∧ (t = .int ∨ t = .boolean ∨ t = .byte ∨ t = .char ∨ t = .short) ∧ ∃ z', w = .int z') ∨ (Instr.areturn = .lreturn ∧ t = .long ∧ ∃ z', w = .long z') ∨ (Instr.areturn = .dreturn ∧ t = .double ∧ ∃ z', w = .double z') ∨ (Instr.areturn = .freturn ∧ t = .float ∧ ∃ z', w = .float z') ∨ (Instr.areturn = .areturn ∧ t.isReference = true ∧ w.isRef = true)) := Or.inr (Or.inr (Or.inr (Or.inr ⟨rfl, ht, hw⟩)))
/-! own: an array by its length and a function of the places -/
def own_ix (j : Int32) (i : Nat) : Prop := ¬ j < 0 ∧ j.toNatClampNeg = i
theorem own_ix_of {i : Nat} (hi : i < 2 ^ 31) : own_ix (Int32.ofNat i) i := by
  have q : (Int32.ofNat i).toInt = i := Int32.toInt_ofNat_of_lt hi
  refine ⟨fun w => ?_, ?_⟩
  · rw [Int32.lt_iff_toInt_lt, q, show (0 : Int32).toInt = 0 from rfl] at w; omega
  · rw [Int32.toNatClampNeg, q]; rfl
theorem own_len32 {n : Nat} : n.toInt32 = Int32.ofNat n := rfl
def own_upd {α : Type} (f : Nat → α) (i : Nat) (v : α) (j : Nat) : α := if j = i then v else f j
def own_L {α : Type} (d : α) (l : List α) (j : Nat) : α := l.getD j d
theorem own_L_set {α : Type} (d : α) (l : List α) (i : Nat) (v : α) (hi : i < l.length) (j : Nat) : own_upd (own_L d l) i v j = own_L d (l.set i v) j := by
  unfold own_upd own_L
  by_cases q : j = i
  · subst q; simp [List.getD_eq_getElem?_getD, hi]
  · simp [List.getD_eq_getElem?_getD, q, List.getElem?_set, Ne.symm q]
theorem own_L_rep {α : Type} (d : α) (n : Nat) (j : Nat) : d = own_L d (List.replicate n d) j := by
  unfold own_L
  rw [List.getD_eq_getElem?_getD, List.getElem?_replicate]
  split <;> rfl
theorem own_updI (f : Nat → Int32) (i : Nat) (x : Int32) (j : Nat) : own_upd (fun j => Value.int (f j)) i (.int x) j = Value.int (own_upd f i x j) := by unfold own_upd; split <;> rfl
theorem own_updJ (f : Nat → Int64) (i : Nat) (x : Int64) (j : Nat) : own_upd (fun j => Value.long (f j)) i (.long x) j = Value.long (own_upd f i x j) := by unfold own_upd; split <;> rfl
def OArr (Z : State) (h : Heap) (a : Addr) (ty : FieldType) (n : Nat) (f : Nat → Value) : Prop := ∃ cl : Cell, Arr Z h a cl ty ∧ cl.slots.size = n ∧ n < 2 ^ 31 ∧ ∀ j, j < n → cl.slots[j]? = some (f j)
variable {a b : Addr} {ty : FieldType} {n : Nat} {f f' : Nat → Value} {sl : Nat} {v : Value} {ws : List Addr}
theorem OArr.lt (F : OArr Z h a ty n f) : a < h.size := by obtain ⟨cl, A, -⟩ := F; exact A.lt
theorem OArr.ext (F : OArr Z h a ty n f) (E : Ext h h') : OArr Z h' a ty n f := by obtain ⟨cl, A, r⟩ := F; exact ⟨cl, A.ext E, r⟩
theorem OArr.other (F : OArr Z h a ty n f) (W : Wr h h' b sl v) (q : a ≠ b) : OArr Z h' a ty n f := by obtain ⟨cl, A, r⟩ := F; exact ⟨cl, A.other W q, r⟩
theorem OArr.keep (F : OArr Z h a ty n f) (K : Keep h h' ws) (q : a ∉ ws) : OArr Z h' a ty n f := by obtain ⟨cl, A, r⟩ := F; exact ⟨cl, ⟨K.2.1 a cl A.1 q, A.2⟩, r⟩
theorem OArr.cast (F : OArr Z h a ty n f) (q : ∀ j, j < n → f j = f' j) : OArr Z h a ty n f' := by obtain ⟨cl, A, r1, r2, r3⟩ := F; exact ⟨cl, A, r1, r2, fun j hj => by rw [r3 j hj, q j hj]⟩
theorem own_in {cl : Cell} {j : Int32} {i : Nat} (hs : cl.slots.size = n) (hj : own_ix j i) (hi : i < n) : ¬ (j < 0 ∨ cl.slots.size ≤ j.toNatClampNeg) := by
  rw [hs, hj.2]; exact fun q => q.elim hj.1 (fun q => absurd hi (Nat.not_lt.mpr q))
theorem OArr.wr (F : OArr Z h a ty n f) {j : Int32} {i : Nat} (hj : own_ix j i) (W : Wr h h' a j.toNatClampNeg v) : OArr Z h' a ty n (own_upd f i v) := by
  obtain ⟨cl, A, r1, r2, r3⟩ := F
  refine ⟨_, A.same W, by rw [sz_set, r1], r2, fun k hk => ?_⟩
  show (cl.slots.setIfInBounds _ v)[k]? = _
  rw [hj.2]
  unfold own_upd
  by_cases q : k = i
  · subst q; rw [if_pos rfl, Array.getElem?_setIfInBounds_self_of_lt (by omega)]
  · rw [if_neg q, Array.getElem?_setIfInBounds_ne (Ne.symm q)]; exact r3 k hk
theorem own_len (X : Stand p l e R s m args below meth c T locs cells slots) (hx : p.tables.exec = Jvm.exec) (hZ : Z.Warmed39 s.vm) (eT : T.heap = h) (F : OArr Z h a ty n f) (hg : g.method = m) {rest : List Value} (hs : g.stack = .ref a :: rest) (hd : decode c.code g.pc = .ok (.arraylength, 1)) :
    ∀ t, Steps p.tables e below (T.setTop { g with pc := g.pc + 1, stack := .int (Int32.ofNat n) :: rest }) t → Steps p.tables e below (T.setTop g) t := by
  obtain ⟨cl, A, r1, r2, r3⟩ := F
  subst r1
  exact X.arraylength hx (by rw [eT]; exact A.1) (State.isArrayOf_alike hZ.alike A.2.1) hg hs hd
theorem own_ldI (X : Stand p l e R s m args below meth c T locs cells slots) (hx : p.tables.exec = Jvm.exec) (hZ : Z.Warmed39 s.vm) (eT : T.heap = h) (F : OArr Z h a .int n f) {j : Int32} {i : Nat} (hj : own_ix j i) (hi : i < n) (hg : g.method = m) {rest : List Value} (hs : g.stack = .int j :: .ref a :: rest) (hd : decode c.code g.pc = .ok (.iaload, 1)) :
    ∀ t, Steps p.tables e below (T.setTop { g with pc := g.pc + 1, stack := f i :: rest }) t → Steps p.tables e below (T.setTop g) t := by
  obtain ⟨cl, A, r1, r2, r3⟩ := F
  exact X.iaload hx (by rw [eT]; exact A.1) (State.isArrayOf_alike hZ.alike A.2.1) A.2.2 (own_in r1 hj hi) (by rw [hj.2]; exact r3 i hi) hg hs hd
theorem own_ldJ (X : Stand p l e R s m args below meth c T locs cells slots) (hx : p.tables.exec = Jvm.exec) (hZ : Z.Warmed39 s.vm) (eT : T.heap = h) (F : OArr Z h a .long n f) {j : Int32} {i : Nat} (hj : own_ix j i) (hi : i < n) (hg : g.method = m) {rest : List Value} (hs : g.stack = .int j :: .ref a :: rest) (hd : decode c.code g.pc = .ok (.laload, 1)) :
    ∀ t, Steps p.tables e below (T.setTop { g with pc := g.pc + 1, stack := f i :: rest }) t → Steps p.tables e below (T.setTop g) t := by
  obtain ⟨cl, A, r1, r2, r3⟩ := F
  exact X.laload hx (by rw [eT]; exact A.1) (State.isArrayOf_alike hZ.alike A.2.1) A.2.2 (own_in r1 hj hi) (by rw [hj.2]; exact r3 i hi) hg hs hd
theorem own_ldB (X : Stand p l e R s m args below meth c T locs cells slots) (hx : p.tables.exec = Jvm.exec) (hZ : Z.Warmed39 s.vm) (eT : T.heap = h) (F : OArr Z h a .byte n f) {j : Int32} {i : Nat} (hj : own_ix j i) (hi : i < n) (hg : g.method = m) {rest : List Value} (hs : g.stack = .int j :: .ref a :: rest) (hd : decode c.code g.pc = .ok (.baload, 1)) :
    ∀ t, Steps p.tables e below (T.setTop { g with pc := g.pc + 1, stack := f i :: rest }) t → Steps p.tables e below (T.setTop g) t := by
  obtain ⟨cl, A, r1, r2, r3⟩ := F
  exact X.baloadBytes hx (by rw [eT]; exact A.1) (State.isArrayOf_alike hZ.alike A.2.1) A.2.2 (own_in r1 hj hi) (by rw [hj.2]; exact r3 i hi) hg hs hd
theorem own_stI (X : Stand p l e R s m args below meth c T locs cells slots) (hx : p.tables.exec = Jvm.exec) (hZ : Z.Warmed39 s.vm) (eT : T.heap = h) (F : OArr Z h a .int n f) {j x : Int32} {i : Nat} (hj : own_ix j i) (hi : i < n) (hg : g.method = m) {rest : List Value} (hs : g.stack = .int x :: .int j :: .ref a :: rest) (hd : decode c.code g.pc = .ok (.iastore, 1)) :
    ∃ T' h', Stand p l e R s m args below meth c T' (locs ++ [⟨a, j.toNatClampNeg⟩]) cells slots ∧ T'.heap = h' ∧ Wr h h' a j.toNatClampNeg (.int x) ∧ OArr Z h' a .int n (own_upd f i (.int x)) ∧ ∀ t, Steps p.tables e below (T'.setTop { g with pc := g.pc + 1, stack := rest }) t → Steps p.tables e below (T.setTop g) t := by
  obtain ⟨cl, A, r1, r2, r3⟩ := id F
  obtain ⟨T', h', X', e', W, st⟩ := stI X hx hZ eT A (own_in r1 hj hi) hg hs hd
  exact ⟨T', h', X', e', W, F.wr hj W, st⟩
theorem own_stJ (X : Stand p l e R s m args below meth c T locs cells slots) (hx : p.tables.exec = Jvm.exec) (hZ : Z.Warmed39 s.vm) (eT : T.heap = h) (F : OArr Z h a .long n f) {j : Int32} {x : Int64} {i : Nat} (hj : own_ix j i) (hi : i < n) (hg : g.method = m) {rest : List Value} (hs : g.stack = .long x :: .int j :: .ref a :: rest) (hd : decode c.code g.pc = .ok (.lastore, 1)) :
    ∃ T' h', Stand p l e R s m args below meth c T' (locs ++ [⟨a, j.toNatClampNeg⟩]) cells slots ∧ T'.heap = h' ∧ Wr h h' a j.toNatClampNeg (.long x) ∧ OArr Z h' a .long n (own_upd f i (.long x)) ∧ ∀ t, Steps p.tables e below (T'.setTop { g with pc := g.pc + 1, stack := rest }) t → Steps p.tables e below (T.setTop g) t := by
  obtain ⟨cl, A, r1, r2, r3⟩ := id F
  obtain ⟨T', h', X', e', W, st⟩ := stJ X hx hZ eT A (own_in r1 hj hi) hg hs hd
  exact ⟨T', h', X', e', W, F.wr hj W, st⟩
theorem own_newA (X : Stand p l e R s m args below meth c T locs cells slots) (hx : p.tables.exec = Jvm.exec) (hZ : Z.Warmed39 s.vm) {aty : ArrayType} (w : (Cond.arrayClass (newarray.typeOf aty)).before a0 Z = true) (eT : T.heap = h) (hg : g.method = m) (hd : decode c.code g.pc = .ok (.newarray aty, 2)) {z : Int32} {rest : List Value} (hs : g.stack = .int z :: rest)
    (hj : own_ix z n) {cap : Nat} (hcap : n ≤ cap) (hb : cap * 8 ≤ 536870912) (hc : cells + 1 ≤ R.cells) (hl : slots + cap ≤ R.slots) :
    ∃ T' h' b, b = h.size ∧ Stand p l e R s m args below meth c T' locs (cells + 1) (slots + cap) ∧ T'.heap = h' ∧ Ext h h' ∧ OArr Z h' b (newarray.typeOf aty) n (fun _ => defaultValue (newarray.typeOf aty)) ∧
      ∀ t, Steps p.tables e below (T'.setTop { g with pc := g.pc + 2, stack := .ref b :: rest }) t → Steps p.tables e below (T.setTop g) t := by
  obtain ⟨T', h', cA, X', e', E, A, st⟩ := newP X hx hZ w eT hg hd hs hj.1 (cap := cap) (by rw [hj.2]; exact hcap) hb hc hl
  have q := back32 hj.1
  rw [hj.2] at q
  refine ⟨T', h', _, rfl, X', e', E, ⟨_, A, (sz_new _ _ _).trans hj.2, q.2, fun k hk => ?_⟩, st⟩
  show (Array.replicate z.toNatClampNeg (defaultValue (newarray.typeOf aty)))[k]? = _
  rw [hj.2, Array.getElem?_replicate, if_pos hk]
theorem own_keepL {x : Addr} {L : List Addr} (K : Keep h h' L) (q : x ∉ L) {cl : Cell} (hc : h[x]? = some cl) : h'[x]? = some cl := K.2.1 x cl hc q
theorem own_pop2L {tb : Tables} [Ours tb] {target : State} (h : At T m c below) (hx : tb.exec = Jvm.exec) (hg : g.method = m) {x : Int64} {rest : List Value} (hd : decode c.code g.pc = .ok (.pop2, 1)) (hs : g.stack = .long x :: rest)
    (hr : Steps tb e below (T.setTop { g with pc := g.pc + 1, stack := rest }) target) : Steps tb e below (T.setTop g) target := by
  subst hg
  jvm_step h [h.top, hx, hd, hs, Value.category]
  exact hr
end Own
/-! own: the walk of a body that loads a String constant: its end by the wide frame -/
def OGoW (p : Program) (e : Env) (below : List Frame) (s : State) (Q : Option Value → Heap → List Loc → Prop) (C S : Nat) (T : State) (g : JFrame) : Prop :=
  ∃ s₂ o, Steps p.tables e below (T.setTop g) s₂ ∧ s₂.status = .running ∧ Ended s₂ below o ∧ ∃ v L, o = .returned v ∧ Q v s₂.heap L ∧ ReturnedEndW s o s₂ L C S
section OwnW
variable {p : Program} {l : Launch} {e : Env} {R : Room} {s s₁ : State} {m : MethodId} {args : Array Value} {below : List Frame} {meth : Method} {c : Code} {T T' : State} {locs : List Loc} {cells slots : Nat} {g g' : JFrame} {Q : Option Value → Heap → List Loc → Prop} {C S : Nat} {Z : State} {a0 : Array Value} {h h' : Heap} {vm₁ : Vm} {k : Nat}
theorem OGoW.st (k : ∀ t, Steps p.tables e below (T'.setTop g') t → Steps p.tables e below (T.setTop g) t) (q : OGoW p e below s Q C S T' g') : OGoW p e below s Q C S T g := by
  obtain ⟨s₂, o, h1, h2⟩ := q
  exact ⟨s₂, o, k _ h1, h2⟩
theorem OGoW.en {ml : Nat} (q : entryFrame m args ml = g) (k : OGoW p e below s Q C S s₁ g) : ∃ s₂ o, Steps p.tables e below (s₁.setTop (entryFrame m args ml)) s₂ ∧ s₂.status = .running ∧ Ended s₂ below o ∧ ∃ v L, o = .returned v ∧ Q v s₂.heap L ∧ ReturnedEndW s o s₂ L C S := by
  rw [q]; exact k
theorem OGoW.ret (X : Stand p l e R (s.setVm vm₁) m args below meth c T locs cells slots) (hS : s.Since vm₁ k) (hk : k ≤ h.size) (hx : p.tables.exec = Jvm.exec) (hlk : meth.locks = false) {pc : Nat} {Ls : Array Slot} {w : Value} {t : FieldType} {i : Instr} {rest : List Value} (hret : meth.sig.returnType = some t) (hn : narrow t w = w)
    (hi : (i = .ireturn ∧ (t = .int ∨ t = .boolean ∨ t = .byte ∨ t = .char ∨ t = .short) ∧ ∃ z, w = .int z) ∨ (i = .lreturn ∧ t = .long ∧ ∃ z, w = .long z) ∨ (i = .dreturn ∧ t = .double ∧ ∃ z, w = .double z) ∨ (i = .freturn ∧ t = .float ∧ ∃ z, w = .float z) ∨ (i = .areturn ∧ t.isReference = true ∧ w.isRef = true))
    (hd : decode c.code pc = .ok (i, 1)) (hC : cells ≤ C) (hSl : slots ≤ S) (hh : T.heap = h) (hQ : Q (some w) h locs) : OGoW p e below s Q C S T (mkF m pc Ls (w :: rest)) := by
  subst hh
  obtain ⟨fs, hr, hrun, hended, hE⟩ := X.leaveW hS hk (v := some w) (fun q => by rw [hret] at q; cases q) hlk
  obtain ⟨q1, q2, q3, q4⟩ := hE
  exact ⟨_, _, retOut X hx hret hn hi hd hr, hrun, hended, _, _, rfl, hQ, q1, q2, q3, q4.mono hC hSl⟩
theorem own_strings : ∀ a ∈ Bundle.stringAtoms, a ∈ tables_1 := by decide +kernel
end OwnW
theorem own_and64 (x m : Int64) (hm : m.toBitVec.msb = false) : 0 ≤ (x &&& m).toInt := by
  show 0 ≤ ((x &&& m).toBitVec).toInt
  rw [Int64.toBitVec_and]
  have : (x.toBitVec &&& m.toBitVec).msb = false := by simp [BitVec.msb_and, hm]
  have := BitVec.toInt_eq_toNat_of_msb this
  omega
theorem own_bm {z : Int} (h1 : -9223372036854775808 ≤ z) (h2 : z < 9223372036854775808) : z.bmod (2 ^ 64) = z := by
  rw [Int.bmod_eq_of_le (by omega) (by omega)]
theorem own_addJ {x y : Int64} (h1 : -9223372036854775808 ≤ x.toInt + y.toInt) (h2 : x.toInt + y.toInt < 9223372036854775808) : (x + y).toInt = x.toInt + y.toInt := by
  rw [Int64.toInt_add]; exact own_bm h1 h2
theorem own_subJ {x y : Int64} (h1 : -9223372036854775808 ≤ x.toInt - y.toInt) (h2 : x.toInt - y.toInt < 9223372036854775808) : (x - y).toInt = x.toInt - y.toInt := by
  rw [Int64.toInt_sub]; exact own_bm h1 h2
theorem own_top63 (x : Int64) : x.toInt < 9223372036854775808 := x.toInt_lt
theorem own_rem {x m : Int64} (hx : 0 ≤ x.toInt) (hm : 0 < m.toInt) : 0 ≤ (x - x / m * m).toInt ∧ (x - x / m * m).toInt ≤ m.toInt := by
  have hx2 := own_top63 x
  have hm2 := own_top63 m
  have d1 : (x / m).toInt = x.toInt / m.toInt := by
    rw [Int64.toInt_div, Int.tdiv_eq_ediv_of_nonneg hx]
    exact own_bm (by have := Int.ediv_nonneg hx (Int.le_of_lt hm); omega) (Int.lt_of_le_of_lt (Int.ediv_le_self _ hx) hx2)
  have e1 := Int.emod_nonneg x.toInt (by omega : m.toInt ≠ 0)
  have e2 := Int.emod_lt_of_pos x.toInt hm
  have e3 := Int.mul_ediv_add_emod x.toInt m.toInt
  have d2 : (x / m * m).toInt = m.toInt * (x.toInt / m.toInt) := by
    rw [Int64.toInt_mul, d1, Int.mul_comm]
    exact own_bm (by omega) (by omega)
  have d3 : (x - x / m * m).toInt = x.toInt - m.toInt * (x.toInt / m.toInt) := by
    rw [own_subJ, d2] <;> rw [d2] <;> omega
  rw [d3]
  omega
theorem own_pos {m : Int64} (h : 0 ≤ m.toInt) (h0 : ¬ m = 0) : 0 < m.toInt := by
  have : m.toInt ≠ 0 := fun q => h0 (Int64.toInt_inj.mp (by rw [q]; rfl))
  omega
def own_B (m a b c : Int64) : Prop := 0 ≤ a.toInt ∧ 0 ≤ b.toInt ∧ 0 ≤ c.toInt ∧ a.toInt + b.toInt + c.toInt = m.toInt
theorem own_zero (a : Int64) : (0 : Int64) + a = a := Int64.zero_add a
theorem own_c1 {m a b c : Int64} (B : own_B m a b c) : ¬ m < (0 : Int64) + a := by
  obtain ⟨h1, h2, h3, h4⟩ := B
  rw [own_zero, Int64.lt_iff_toInt_lt]; omega
theorem own_ab {m a b c : Int64} (B : own_B m a b c) : (a + b).toInt = a.toInt + b.toInt := by
  obtain ⟨h1, h2, h3, h4⟩ := B
  have := own_top63 m
  exact own_addJ (by omega) (by omega)
theorem own_s {m a b c : Int64} (B : own_B m a b c) : (a + b) + c = m := by
  have e := own_ab B
  obtain ⟨h1, h2, h3, h4⟩ := B
  have := own_top63 m
  apply Int64.toInt_inj.mp
  rw [own_addJ, e, h4] <;> rw [e] <;> omega
theorem own_c2 {m a b c : Int64} (B : own_B m a b c) : ¬ m < ((0 : Int64) + a) + b := by
  have e := own_ab B
  obtain ⟨h1, h2, h3, h4⟩ := B
  rw [own_zero, Int64.lt_iff_toInt_lt, e]; omega
theorem own_c3 {m a b c : Int64} (B : own_B m a b c) : ¬ m < (((0 : Int64) + a) + b) + c := by
  rw [own_zero, own_s B]; exact Int64.lt_irrefl
theorem own_c4 {m a b c : Int64} (B : own_B m a b c) : ¬ m < ((((0 : Int64) + a) + b) + c) + (0 : Int64) := by
  rw [Int64.add_zero]; exact own_c3 B
theorem own_nn {a : Int64} (h : 0 ≤ a.toInt) : ¬ a < (0 : Int64) := by
  rw [Int64.lt_iff_toInt_lt, show (0 : Int64).toInt = 0 from rfl]; omega
theorem own_d_prog_17_method_1_0 : decode prog_17_method_1_code 0 = .ok (.aload_n 0, 1) := by decide +kernel
theorem own_d_prog_17_method_1_1 : decode prog_17_method_1_code 1 = .ok (.invokespecial 1, 3) := by decide +kernel
theorem own_d_prog_17_method_1_4 : decode prog_17_method_1_code 4 = .ok (.aload_n 0, 1) := by decide +kernel
theorem own_d_prog_17_method_1_5 : decode prog_17_method_1_code 5 = .ok (.lload_n 1, 1) := by decide +kernel
theorem own_d_prog_17_method_1_6 : decode prog_17_method_1_code 6 = .ok (.putfield 7, 3) := by decide +kernel
theorem own_d_prog_17_method_1_9 : decode prog_17_method_1_code 9 = .ok (.aload_n 0, 1) := by decide +kernel
theorem own_d_prog_17_method_1_10 : decode prog_17_method_1_code 10 = .ok (.aload_n 3, 1) := by decide +kernel
theorem own_d_prog_17_method_1_11 : decode prog_17_method_1_code 11 = .ok (.putfield 13, 3) := by decide +kernel
theorem own_d_prog_17_method_1_14 : decode prog_17_method_1_code 14 = .ok (.return_, 1) := by decide +kernel
theorem own_pn0 : plainName "com/example/urd/urd/StepLimit" = true := by first | (simp [plainName, overriddenIn]; done) | decide +kernel
theorem own_d_prog_17_method_2_0 : decode prog_17_method_2_code 0 = .ok (.aload_n 0, 1) := by decide +kernel
theorem own_d_prog_17_method_2_1 : decode prog_17_method_2_code 1 = .ok (.dup, 1) := by decide +kernel
theorem own_d_prog_17_method_2_2 : decode prog_17_method_2_code 2 = .ok (.getfield 17, 3) := by decide +kernel
theorem own_d_prog_17_method_2_5 : decode prog_17_method_2_code 5 = .ok (.lload_n 1, 1) := by decide +kernel
theorem own_d_prog_17_method_2_6 : decode prog_17_method_2_code 6 = .ok (.ladd, 1) := by decide +kernel
theorem own_d_prog_17_method_2_7 : decode prog_17_method_2_code 7 = .ok (.putfield 17, 3) := by decide +kernel
theorem own_d_prog_17_method_2_10 : decode prog_17_method_2_code 10 = .ok (.aload_n 0, 1) := by decide +kernel
theorem own_d_prog_17_method_2_11 : decode prog_17_method_2_code 11 = .ok (.getfield 17, 3) := by decide +kernel
theorem own_d_prog_17_method_2_14 : decode prog_17_method_2_code 14 = .ok (.aload_n 0, 1) := by decide +kernel
theorem own_d_prog_17_method_2_15 : decode prog_17_method_2_code 15 = .ok (.getfield 7, 3) := by decide +kernel
theorem own_d_prog_17_method_2_18 : decode prog_17_method_2_code 18 = .ok (.lcmp, 1) := by decide +kernel
theorem own_d_prog_17_method_2_19 : decode prog_17_method_2_code 19 = .ok (.ifCond .le 15, 3) := by decide +kernel
theorem own_d_prog_17_method_2_34 : decode prog_17_method_2_code 34 = .ok (.return_, 1) := by decide +kernel
theorem own_pd3 : parseMethodDescriptor "(JLjava/lang/String;)V" = some ⟨[.long, (.object "java/lang/String")], none⟩ := by decide +kernel
theorem own_pd1 : parseMethodDescriptor "(J)V" = some ⟨[.long], none⟩ := by decide +kernel
theorem own_pn1 : plainName "com/example/urd/urd/StepLimitCountPinLaw" = true := by first | (simp [plainName, overriddenIn]; done) | decide +kernel
theorem own_ef_rmI (m : MethodId) (x0 : Addr) (x1 : Int64) (x2 : Addr) : entryFrame m #[(.ref x0), (.long x1), (.ref x2)] 4 = mkF m 0 #[.val (.ref x0), .val (.long x1), .second, .val (.ref x2)] [] := by first | (simp [entryFrame, mkF, argsToLocals, Value.category]; done) | rfl
def R_rmI : Room := { frames := 1, cells := 0, slots := 0, locals := 12 }
def Q_rmI (Z : State) (a : Addr) (a_most : Int64) (a_refusal : Value) (a_steps : Int64) (q1 : Int64) (d : Addr) (h0 : Heap) (n0 : Nat) (v : Option Value) (h : Heap) (L : List Loc) : Prop := v = none ∧ Fr n0 L ∧ Keep h0 h [a] ∧ Fld Z h a "com/example/urd/urd/StepLimit" "most" "J" (.long q1) ∧ Fld Z h a "com/example/urd/urd/StepLimit" "refusal" "Ljava/lang/String;" (.ref d) ∧ Fld Z h a "com/example/urd/urd/StepLimit" "steps" "J" (.long a_steps)
set_option maxRecDepth 65536 in
set_option maxHeartbeats 40000000 in
theorem rmI (l : Launch) (Z : State) (a0 : Array Value) (hw : ∀ d ∈ tables_1, d.before a0 Z = true) (ws : List Jvm.Cond) (a : Addr) (a_most : Int64) (a_refusal : Value) (a_steps : Int64) (q1 : Int64) (d : Addr) (h0 : Heap) (n0 : Nat) (Z0 : n0 ≤ h0.size) (E_a : Exa Z h0 a "com/example/urd/urd/StepLimit") (F_a_most : Fld Z h0 a "com/example/urd/urd/StepLimit" "most" "J" (.long a_most)) (F_a_refusal : Fld Z h0 a "com/example/urd/urd/StepLimit" "refusal" "Ljava/lang/String;" a_refusal) (F_a_steps : Fld Z h0 a "com/example/urd/urd/StepLimit" "steps" "J" (.long a_steps)) (g_a : n0 ≤ a) :
    MetFree l (⟨"com/example/urd/urd/StepLimit", "<init>", "(JLjava/lang/String;)V"⟩ : MethodName) (head1 (Jvm.Cond.code (⟨"com/example/urd/urd/StepLimit", "<init>", "(JLjava/lang/String;)V"⟩ : MethodName) prog_17_method_1_code 4 none :: ws) R_rmI) (fun vs_ U => vs_ = #[(.ref a), (.long q1), (.ref d)] ∧ Z.Warmed39 U.vm ∧ U.heap = h0) (fun _ _ _ _ _ => True) (fun _ U o U' => ∃ v L, o = .returned v ∧ Q_rmI Z a a_most a_refusal a_steps q1 d h0 n0 v U'.heap L ∧ FrameEnd U o U' L R_rmI.cells R_rmI.slots) := by
  refine MetFree.of_bodySF (plainFor_of_name own_pn0) hisR ?_
  intro p e s m args below meth c s₁ Bd hml0 hP hK
  obtain ⟨rfl, hZ, hh⟩ := hP
  have hx := Bd.exec
  have hby := Bd.bytes
  have hml : c.maxLocals = 4 := hml0
  have hown : s.vm.findClass "com/example/urd/urd/StepLimit" = some m.cls := findClass_of_methodNamed Bd.named
  have hnm := (name_of_methodNamed Bd.named Bd.method).1
  have hlk : meth.locks = false := BodyLoose.notSynchronized Bd
  have X0 : Stand p l e R_rmI s m #[(.ref a), (.long q1), (.ref d)] below meth c s₁ [] 0 0 := Stand.of_body Bd
  have e0 : s₁.heap = h0 := by rw [← hh, Bd.state]; rfl
  have N0 := Fr.nil n0
  have K0 : Keep h0 h0 [a] := Keep.refl _ _
  refine OGo.en (Q := Q_rmI Z a a_most a_refusal a_steps q1 d h0 n0) (C := R_rmI.cells) (S := R_rmI.slots) (own_ef_rmI m a q1 d) ?_
  refine OGo.st (T' := s₁) (g' := (mkF m 1 #[.val (.ref a), .val (.long q1), .second, .val (.ref d)] [(.ref a)])) (fun _ k => (XS.aloadN X0.here hx rfl (hb hby own_d_prog_17_method_1_0) rfl rfl k)) ?_
  obtain ⟨T1, X1, e1, st1⟩ := initO X0 hx hZ hown (hw _ (List.mem_of_getElem? (i := 15) rfl)) (hw _ (List.mem_of_getElem? (i := 16) rfl)) (hw _ (List.mem_of_getElem? (i := 17) rfl)) e0 (g := (mkF m 1 #[.val (.ref a), .val (.long q1), .second, .val (.ref d)] [(.ref a)])) rfl (by rw [hml]; rfl) rfl (hb hby own_d_prog_17_method_1_1) (by decide) (W := 0) (by show 2 * 0 + _ ≤ _; exact Nat.le_of_eq rfl) (by decide)
  refine OGo.st (T' := T1) (g' := (mkF m 4 #[.val (.ref a), .val (.long q1), .second, .val (.ref d)] [])) (fun _ k => st1 _ k) ?_
  refine OGo.st (T' := T1) (g' := (mkF m 6 #[.val (.ref a), .val (.long q1), .second, .val (.ref d)] [(.long q1), (.ref a)])) (fun _ k => (XS.aloadN X1.here hx rfl (hb hby own_d_prog_17_method_1_4) rfl rfl (XS.lloadN X1.here hx rfl (hb hby own_d_prog_17_method_1_5) rfl k))) ?_
  obtain ⟨T2, h2, X2, e2, W2, st2⟩ := putF X1 hx hZ hown (host := "") (Or.inl (hw _ (List.mem_of_getElem? (i := 18) rfl))) Via.refl e1 F_a_most E_a (Or.inr ⟨(hw _ (List.mem_of_getElem? (i := 19) rfl)), rfl, hnm⟩) (hw _ (List.mem_of_getElem? (i := 2) rfl)) (ty := .long) (by decide) rfl rfl (g := (mkF m 6 #[.val (.ref a), .val (.long q1), .second, .val (.ref d)] [(.long q1), (.ref a)])) rfl rfl (hb hby own_d_prog_17_method_1_6)
  have F_a_most_2 : Fld Z h2 a "com/example/urd/urd/StepLimit" "most" "J" (.long q1) := F_a_most.same W2
  have N2 := Fr.snoc X2 N0 g_a
  have E_a_2 : Exa Z h2 a "com/example/urd/urd/StepLimit" := E_a.wr W2
  have F_a_refusal_2 : Fld Z h2 a "com/example/urd/urd/StepLimit" "refusal" "Ljava/lang/String;" a_refusal := F_a_refusal.other W2 (Or.inr (slot_ne (Or.inr (hw _ (List.mem_of_getElem? (i := 21) rfl))) (Or.inr (hw _ (List.mem_of_getElem? (i := 19) rfl))) (by decide) (t := (.object "java/lang/String")) (t' := .long) (by decide) (by decide)))
  have F_a_steps_2 : Fld Z h2 a "com/example/urd/urd/StepLimit" "steps" "J" (.long a_steps) := F_a_steps.other W2 (Or.inr (slot_ne (Or.inl (hw _ (List.mem_of_getElem? (i := 28) rfl))) (Or.inr (hw _ (List.mem_of_getElem? (i := 19) rfl))) (by decide) (t := .long) (t' := .long) (by decide) (by decide)))
  have Zn2 : n0 ≤ h2.size := Nat.le_trans Z0 (Nat.le_of_eq W2.size.symm)
  have K2 : Keep h0 h2 [a] := K0.wr W2 (Or.inl (List.mem_of_getElem? (i := 0) rfl))
  refine OGo.st (T' := T2) (g' := (mkF m 9 #[.val (.ref a), .val (.long q1), .second, .val (.ref d)] [])) (fun _ k => st2 _ k) ?_
  refine OGo.st (T' := T2) (g' := (mkF m 11 #[.val (.ref a), .val (.long q1), .second, .val (.ref d)] [(.ref d), (.ref a)])) (fun _ k => (XS.aloadN X2.here hx rfl (hb hby own_d_prog_17_method_1_9) rfl rfl (XS.aloadN X2.here hx rfl (hb hby own_d_prog_17_method_1_10) rfl rfl k))) ?_
  obtain ⟨T3, h3, X3, e3, W3, st3⟩ := putF X2 hx hZ hown (host := "") (Or.inl (hw _ (List.mem_of_getElem? (i := 20) rfl))) Via.refl e2 F_a_refusal_2 E_a_2 (Or.inr ⟨(hw _ (List.mem_of_getElem? (i := 21) rfl)), rfl, hnm⟩) (hw _ (List.mem_of_getElem? (i := 2) rfl)) (ty := (.object "java/lang/String")) (by decide) rfl rfl (g := (mkF m 11 #[.val (.ref a), .val (.long q1), .second, .val (.ref d)] [(.ref d), (.ref a)])) rfl rfl (hb hby own_d_prog_17_method_1_11)
  have F_a_refusal_3 : Fld Z h3 a "com/example/urd/urd/StepLimit" "refusal" "Ljava/lang/String;" (.ref d) := F_a_refusal_2.same W3
  have N3 := Fr.snoc X3 N2 g_a
  have E_a_3 : Exa Z h3 a "com/example/urd/urd/StepLimit" := E_a_2.wr W3
  have F_a_most_3 : Fld Z h3 a "com/example/urd/urd/StepLimit" "most" "J" (.long q1) := F_a_most_2.other W3 (Or.inr (slot_ne (Or.inr (hw _ (List.mem_of_getElem? (i := 19) rfl))) (Or.inr (hw _ (List.mem_of_getElem? (i := 21) rfl))) (by decide) (t := .long) (t' := (.object "java/lang/String")) (by decide) (by decide)))
  have F_a_steps_3 : Fld Z h3 a "com/example/urd/urd/StepLimit" "steps" "J" (.long a_steps) := F_a_steps_2.other W3 (Or.inr (slot_ne (Or.inl (hw _ (List.mem_of_getElem? (i := 28) rfl))) (Or.inr (hw _ (List.mem_of_getElem? (i := 21) rfl))) (by decide) (t := .long) (t' := (.object "java/lang/String")) (by decide) (by decide)))
  have Zn3 : n0 ≤ h3.size := Nat.le_trans Zn2 (Nat.le_of_eq W3.size.symm)
  have K3 : Keep h0 h3 [a] := K2.wr W3 (Or.inl (List.mem_of_getElem? (i := 0) rfl))
  refine OGo.st (T' := T3) (g' := (mkF m 14 #[.val (.ref a), .val (.long q1), .second, .val (.ref d)] [])) (fun _ k => st3 _ k) ?_
  exact OGo.retV X3 hx hlk Bd.returns (hb hby own_d_prog_17_method_1_14) (by decide) (by decide) e3 (⟨rfl, N3, K3, F_a_most_3, F_a_refusal_3, F_a_steps_3⟩)
theorem own_ef_rmC (m : MethodId) (x0 : Addr) (x1 : Int64) : entryFrame m #[(.ref x0), (.long x1)] 3 = mkF m 0 #[.val (.ref x0), .val (.long x1), .second] [] := by first | (simp [entryFrame, mkF, argsToLocals, Value.category]; done) | rfl
def R_rmC : Room := { frames := 0, cells := 0, slots := 0, locals := 0 }
def Q_rmC (Z : State) (a : Addr) (a_most : Int64) (a_steps : Int64) (q1 : Int64) (h0 : Heap) (n0 : Nat) (v : Option Value) (h : Heap) (L : List Loc) : Prop := v = none ∧ Fr n0 L ∧ Keep h0 h [a] ∧ Fld Z h a "com/example/urd/urd/StepLimit" "most" "J" (.long a_most) ∧ Fld Z h a "com/example/urd/urd/StepLimit" "steps" "J" (.long (a_steps + q1))
set_option maxRecDepth 65536 in
set_option maxHeartbeats 40000000 in
theorem rmC (l : Launch) (Z : State) (a0 : Array Value) (hw : ∀ d ∈ tables_1, d.before a0 Z = true) (ws : List Jvm.Cond) (a : Addr) (a_most : Int64) (a_steps : Int64) (q1 : Int64) (h0 : Heap) (n0 : Nat) (Z0 : n0 ≤ h0.size) (E_a : Exa Z h0 a "com/example/urd/urd/StepLimit") (F_a_most : Fld Z h0 a "com/example/urd/urd/StepLimit" "most" "J" (.long a_most)) (F_a_steps : Fld Z h0 a "com/example/urd/urd/StepLimit" "steps" "J" (.long a_steps)) (g_a : n0 ≤ a) (hle : ¬ (a_most < (a_steps + q1))) :
    MetFree l (⟨"com/example/urd/urd/StepLimit", "count", "(J)V"⟩ : MethodName) (head1 (Jvm.Cond.code (⟨"com/example/urd/urd/StepLimit", "count", "(J)V"⟩ : MethodName) prog_17_method_2_code 3 none :: ws) R_rmC) (fun vs_ U => vs_ = #[(.ref a), (.long q1)] ∧ Z.Warmed39 U.vm ∧ U.heap = h0) (fun _ _ _ _ _ => True) (fun _ U o U' => ∃ v L, o = .returned v ∧ Q_rmC Z a a_most a_steps q1 h0 n0 v U'.heap L ∧ FrameEnd U o U' L R_rmC.cells R_rmC.slots) := by
  refine MetFree.of_bodySF (plainFor_of_name own_pn0) hisR ?_
  intro p e s m args below meth c s₁ Bd hml0 hP hK
  obtain ⟨rfl, hZ, hh⟩ := hP
  have hx := Bd.exec
  have hby := Bd.bytes
  have hml : c.maxLocals = 3 := hml0
  have hown : s.vm.findClass "com/example/urd/urd/StepLimit" = some m.cls := findClass_of_methodNamed Bd.named
  have hnm := (name_of_methodNamed Bd.named Bd.method).1
  have hlk : meth.locks = false := BodyLoose.notSynchronized Bd
  have X0 : Stand p l e R_rmC s m #[(.ref a), (.long q1)] below meth c s₁ [] 0 0 := Stand.of_body Bd
  have e0 : s₁.heap = h0 := by rw [← hh, Bd.state]; rfl
  have N0 := Fr.nil n0
  have K0 : Keep h0 h0 [a] := Keep.refl _ _
  refine OGo.en (Q := Q_rmC Z a a_most a_steps q1 h0 n0) (C := R_rmC.cells) (S := R_rmC.slots) (own_ef_rmC m a q1) ?_
  refine OGo.st (T' := s₁) (g' := (mkF m 2 #[.val (.ref a), .val (.long q1), .second] [(.ref a), (.ref a)])) (fun _ k => (XS.aloadN X0.here hx rfl (hb hby own_d_prog_17_method_2_0) rfl rfl (XS.dup X0.here hx rfl (hb hby own_d_prog_17_method_2_1) rfl rfl k))) ?_
  obtain ⟨T1, X1, e1, st1⟩ := getF X0 hx hZ hown (host := "") (Or.inl (hw _ (List.mem_of_getElem? (i := 27) rfl))) Via.refl e0 F_a_steps (g := (mkF m 2 #[.val (.ref a), .val (.long q1), .second] [(.ref a), (.ref a)])) rfl rfl (hb hby own_d_prog_17_method_2_2)
  refine OGo.st (T' := T1) (g' := (mkF m 5 #[.val (.ref a), .val (.long q1), .second] [(.long a_steps), (.ref a)])) (fun _ k => st1 _ k) ?_
  refine OGo.st (T' := T1) (g' := (mkF m 7 #[.val (.ref a), .val (.long q1), .second] [(.long (a_steps + q1)), (.ref a)])) (fun _ k => (XS.lloadN X1.here hx rfl (hb hby own_d_prog_17_method_2_5) rfl (XS.ladd X1.here hx rfl (hb hby own_d_prog_17_method_2_6) rfl k))) ?_
  obtain ⟨T2, h2, X2, e2, W2, st2⟩ := putF X1 hx hZ hown (host := "") (Or.inl (hw _ (List.mem_of_getElem? (i := 27) rfl))) Via.refl e1 F_a_steps E_a (Or.inl (hw _ (List.mem_of_getElem? (i := 28) rfl))) (hw _ (List.mem_of_getElem? (i := 2) rfl)) (ty := .long) (by decide) rfl rfl (g := (mkF m 7 #[.val (.ref a), .val (.long q1), .second] [(.long (a_steps + q1)), (.ref a)])) rfl rfl (hb hby own_d_prog_17_method_2_7)
  have F_a_steps_2 : Fld Z h2 a "com/example/urd/urd/StepLimit" "steps" "J" (.long (a_steps + q1)) := F_a_steps.same W2
  have N2 := Fr.snoc X2 N0 g_a
  have E_a_2 : Exa Z h2 a "com/example/urd/urd/StepLimit" := E_a.wr W2
  have F_a_most_2 : Fld Z h2 a "com/example/urd/urd/StepLimit" "most" "J" (.long a_most) := F_a_most.other W2 (Or.inr (slot_ne (Or.inr (hw _ (List.mem_of_getElem? (i := 19) rfl))) (Or.inl (hw _ (List.mem_of_getElem? (i := 28) rfl))) (by decide) (t := .long) (t' := .long) (by decide) (by decide)))
  have Zn2 : n0 ≤ h2.size := Nat.le_trans Z0 (Nat.le_of_eq W2.size.symm)
  have K2 : Keep h0 h2 [a] := K0.wr W2 (Or.inl (List.mem_of_getElem? (i := 0) rfl))
  refine OGo.st (T' := T2) (g' := (mkF m 10 #[.val (.ref a), .val (.long q1), .second] [])) (fun _ k => st2 _ k) ?_
  refine OGo.st (T' := T2) (g' := (mkF m 11 #[.val (.ref a), .val (.long q1), .second] [(.ref a)])) (fun _ k => (XS.aloadN X2.here hx rfl (hb hby own_d_prog_17_method_2_10) rfl rfl k)) ?_
  obtain ⟨T3, X3, e3, st3⟩ := getF X2 hx hZ hown (host := "") (Or.inl (hw _ (List.mem_of_getElem? (i := 27) rfl))) Via.refl e2 F_a_steps_2 (g := (mkF m 11 #[.val (.ref a), .val (.long q1), .second] [(.ref a)])) rfl rfl (hb hby own_d_prog_17_method_2_11)
  refine OGo.st (T' := T3) (g' := (mkF m 14 #[.val (.ref a), .val (.long q1), .second] [(.long (a_steps + q1))])) (fun _ k => st3 _ k) ?_
  refine OGo.st (T' := T3) (g' := (mkF m 15 #[.val (.ref a), .val (.long q1), .second] [(.ref a), (.long (a_steps + q1))])) (fun _ k => (XS.aloadN X3.here hx rfl (hb hby own_d_prog_17_method_2_14) rfl rfl k)) ?_
  obtain ⟨T4, X4, e4, st4⟩ := getF X3 hx hZ hown (host := "") (Or.inl (hw _ (List.mem_of_getElem? (i := 18) rfl))) Via.refl e3 F_a_most_2 (g := (mkF m 15 #[.val (.ref a), .val (.long q1), .second] [(.ref a), (.long (a_steps + q1))])) rfl rfl (hb hby own_d_prog_17_method_2_15)
  refine OGo.st (T' := T4) (g' := (mkF m 18 #[.val (.ref a), .val (.long q1), .second] [(.long a_most), (.long (a_steps + q1))])) (fun _ k => st4 _ k) ?_
  refine OGo.st (T' := T4) (g' := (mkF m 34 #[.val (.ref a), .val (.long q1), .second] [])) (fun _ k => (XS.lcmp X4.here hx rfl (hb hby own_d_prog_17_method_2_18) rfl (XS.ifYes X4.here hx rfl (pc0 := 19) (pc' := 34) rfl (hb hby own_d_prog_17_method_2_19) rfl ((if0 _ _).trans (flt (fun q => (hle) ((lw_gt (a_steps + q1) a_most).mp q))).2.2.2) (by decide) (by decide) k))) ?_
  exact OGo.retV X4 hx hlk Bd.returns (hb hby own_d_prog_17_method_2_34) (by decide) (by decide) e4 (⟨rfl, N2, K2, F_a_most_2, F_a_steps_2⟩)
theorem own_ef_rm0 (m : MethodId) (x0 : Int64) (x1 : Int64) (x2 : Int64) : entryFrame m #[(.long x0), (.long x1), (.long x2)] maxLocals = mkF m 0 #[.val (.long x0), .second, .val (.long x1), .second, .val (.long x2), .second, .unset, .unset, .unset, .unset, .unset, .unset, .unset, .unset, .unset, .unset, .unset] [] := by first | (simp [entryFrame, mkF, argsToLocals, Value.category, maxLocals]; done) | rfl
def Q_rm0 (Z : State) (p0 : Int64) (p1 : Int64) (p2 : Int64) (h0 : Heap) (n0 : Nat) (v : Option Value) (h : Heap) (L : List Loc) : Prop := v = some (.int 1) ∧ Fr n0 L
set_option maxRecDepth 65536 in
set_option maxHeartbeats 40000000 in
theorem rm0 (l : Launch) (Z : State) (a0 : Array Value) (hw : ∀ d ∈ tables_1, d.before a0 Z = true) (ws : List Jvm.Cond) (p0 : Int64) (p1 : Int64) (p2 : Int64) (h0 : Heap) (n0 : Nat) (Z0 : n0 ≤ h0.size) :
    MetFree l x (head1 (Jvm.Cond.code x code maxLocals ret :: ws) room_1) (fun vs_ U => vs_ = #[(.long p0), (.long p1), (.long p2)] ∧ Z.Warmed39 U.vm ∧ U.heap = h0) (fun _ _ _ _ _ => True) (fun _ U o U' => ∃ v L, o = .returned v ∧ Q_rm0 Z p0 p1 p2 h0 n0 v U'.heap L ∧ ReturnedEndW U o U' L 16 1152) := by
  refine MetFree.of_bodySF (plainFor_of_name own_pn1) hisR ?_
  intro p e s m args below meth c s₁ Bd hml0 hP hK
  obtain ⟨rfl, hZ, hh⟩ := hP
  have hx := Bd.exec
  have hby := Bd.bytes
  have hml : c.maxLocals = 17 := hml0
  have hown : s.vm.findClass "com/example/urd/urd/StepLimitCountPinLaw" = some m.cls := findClass_of_methodNamed Bd.named
  have hnm := (name_of_methodNamed Bd.named Bd.method).1
  have hlk : meth.locks = false := BodyLoose.notSynchronized Bd
  have X0 : Stand p l e room_1 s m #[(.long p0), (.long p1), (.long p2)] below meth c s₁ [] 0 0 := Stand.of_body Bd
  have e0 : s₁.heap = h0 := by rw [← hh, Bd.state]; rfl
  have N0 := Fr.nil n0
  refine OGoW.en (Q := Q_rm0 Z p0 p1 p2 h0 n0) (C := 16) (S := 1152) (own_ef_rm0 m p0 p1 p2) ?_
  refine OGoW.st (T' := s₁) (g' := (mkF m 7 #[.val (.long p0), .second, .val (.long p1), .second, .val (.long p2), .second, .val (.long (p0 &&& (9223372036854775807 : Int64))), .second, .unset, .unset, .unset, .unset, .unset, .unset, .unset, .unset, .unset] [])) (fun _ k => (XS.lloadN X0.here hx rfl (hb hby at_0) rfl (X0.ldc2Long hx hown (mvT hZ (hw _ (List.mem_of_getElem? (i := 0) rfl))) (g := (mkF m 1 #[.val (.long p0), .second, .val (.long p1), .second, .val (.long p2), .second, .unset, .unset, .unset, .unset, .unset, .unset, .unset, .unset, .unset, .unset, .unset] [(.long p0)])) rfl (hb hby at_1) _ (XS.land X0.here hx rfl (hb hby at_4) rfl (XS.lstore X0.here hx rfl (hb hby at_5) rfl (l' := #[.val (.long p0), .second, .val (.long p1), .second, .val (.long p2), .second, .val (.long (p0 &&& (9223372036854775807 : Int64))), .second, .unset, .unset, .unset, .unset, .unset, .unset, .unset, .unset, .unset]) rfl k))))) ?_
  generalize h_mm : (p0 &&& (9223372036854775807 : Int64)) = mm
  have hm : 0 ≤ mm.toInt := by rw [← h_mm]; exact own_and64 _ _ (by decide)
  refine OGoW.st (T' := s₁) (g' := (mkF m 11 #[.val (.long p0), .second, .val (.long p1), .second, .val (.long p2), .second, .val (.long mm), .second, .unset, .unset, .unset, .unset, .unset, .unset, .unset, .unset, .unset] [(.int (lcmpW mm (0 : Int64)))])) (fun _ k => (XS.lload X0.here hx rfl (hb hby at_7) rfl (XS.lconst X0.here hx rfl (hb hby at_9) (XS.lcmp X0.here hx rfl (hb hby at_10) rfl k)))) ?_
  by_cases hc1 : mm = (0 : Int64)
  · refine OGoW.st (T' := s₁) (g' := (mkF m 28 #[.val (.long p0), .second, .val (.long p1), .second, .val (.long p2), .second, .val (.long mm), .second, .val (.long (0 : Int64)), .second, .unset, .unset, .unset, .unset, .unset, .unset, .unset] [])) (fun _ k => (XS.ifNo X0.here hx rfl (hb hby at_11) rfl ((if0 _ _).trans (teq ((lw_eq mm (0 : Int64)).mpr hc1)).2) (XS.lconst X0.here hx rfl (hb hby at_14) (XS.goto X0.here hx rfl (pc0 := 15) (pc' := 26) rfl (hb hby at_15) (by decide) (by decide) (XS.lstore X0.here hx rfl (hb hby at_26) rfl (l' := #[.val (.long p0), .second, .val (.long p1), .second, .val (.long p2), .second, .val (.long mm), .second, .val (.long (0 : Int64)), .second, .unset, .unset, .unset, .unset, .unset, .unset, .unset]) rfl k))))) ?_
    generalize h_aa : (0 : Int64) = aa
    have haa : 0 ≤ aa.toInt ∧ aa.toInt ≤ mm.toInt := by rw [← h_aa]; exact ⟨by decide, hm⟩
    refine OGoW.st (T' := s₁) (g' := (mkF m 35 #[.val (.long p0), .second, .val (.long p1), .second, .val (.long p2), .second, .val (.long mm), .second, .val (.long aa), .second, .val (.long (mm - aa)), .second, .unset, .unset, .unset, .unset, .unset] [])) (fun _ k => (XS.lload X0.here hx rfl (hb hby at_28) rfl (XS.lload X0.here hx rfl (hb hby at_30) rfl (XS.lsub X0.here hx rfl (hb hby at_32) rfl (XS.lstore X0.here hx rfl (hb hby at_33) rfl (l' := #[.val (.long p0), .second, .val (.long p1), .second, .val (.long p2), .second, .val (.long mm), .second, .val (.long aa), .second, .val (.long (mm - aa)), .second, .unset, .unset, .unset, .unset, .unset]) rfl k))))) ?_
    generalize h_rr : (mm - aa) = rr
    have hr : rr.toInt = mm.toInt - aa.toInt := by rw [← h_rr]; exact own_subJ (by have := own_top63 mm; omega) (by have := own_top63 mm; omega)
    have hr0 : 0 ≤ rr.toInt := by omega
    refine OGoW.st (T' := s₁) (g' := (mkF m 39 #[.val (.long p0), .second, .val (.long p1), .second, .val (.long p2), .second, .val (.long mm), .second, .val (.long aa), .second, .val (.long rr), .second, .unset, .unset, .unset, .unset, .unset] [(.int (lcmpW rr (0 : Int64)))])) (fun _ k => (XS.lload X0.here hx rfl (hb hby at_35) rfl (XS.lconst X0.here hx rfl (hb hby at_37) (XS.lcmp X0.here hx rfl (hb hby at_38) rfl k)))) ?_
    by_cases hc2 : rr = (0 : Int64)
    · refine OGoW.st (T' := s₁) (g' := (mkF m 57 #[.val (.long p0), .second, .val (.long p1), .second, .val (.long p2), .second, .val (.long mm), .second, .val (.long aa), .second, .val (.long rr), .second, .val (.long (0 : Int64)), .second, .unset, .unset, .unset] [])) (fun _ k => (XS.ifNo X0.here hx rfl (hb hby at_39) rfl ((if0 _ _).trans (teq ((lw_eq rr (0 : Int64)).mpr hc2)).2) (XS.lconst X0.here hx rfl (hb hby at_42) (XS.goto X0.here hx rfl (pc0 := 43) (pc' := 55) rfl (hb hby at_43) (by decide) (by decide) (XS.lstore X0.here hx rfl (hb hby at_55) rfl (l' := #[.val (.long p0), .second, .val (.long p1), .second, .val (.long p2), .second, .val (.long mm), .second, .val (.long aa), .second, .val (.long rr), .second, .val (.long (0 : Int64)), .second, .unset, .unset, .unset]) rfl k))))) ?_
      generalize h_bb : (0 : Int64) = bb
      have hbb : 0 ≤ bb.toInt ∧ bb.toInt ≤ rr.toInt := by rw [← h_bb]; exact ⟨by decide, hr0⟩
      refine OGoW.st (T' := s₁) (g' := (mkF m 64 #[.val (.long p0), .second, .val (.long p1), .second, .val (.long p2), .second, .val (.long mm), .second, .val (.long aa), .second, .val (.long rr), .second, .val (.long bb), .second, .val (.long (rr - bb)), .second, .unset] [])) (fun _ k => (XS.lload X0.here hx rfl (hb hby at_57) rfl (XS.lload X0.here hx rfl (hb hby at_59) rfl (XS.lsub X0.here hx rfl (hb hby at_61) rfl (XS.lstore X0.here hx rfl (hb hby at_62) rfl (l' := #[.val (.long p0), .second, .val (.long p1), .second, .val (.long p2), .second, .val (.long mm), .second, .val (.long aa), .second, .val (.long rr), .second, .val (.long bb), .second, .val (.long (rr - bb)), .second, .unset]) rfl k))))) ?_
      generalize h_cc : (rr - bb) = cc
      have hcc : cc.toInt = rr.toInt - bb.toInt := by rw [← h_cc]; exact own_subJ (by have := own_top63 rr; omega) (by have := own_top63 rr; omega)
      have B : own_B mm aa bb cc := ⟨haa.1, hbb.1, by omega, by omega⟩
      obtain ⟨T3, h3, X3, e3, E3, A3, D3, -, st3⟩ := newO X0 hx hZ hown (hw _ (List.mem_of_getElem? (i := 1) rfl)) (hw _ (List.mem_of_getElem? (i := 2) rfl)) (hw _ (List.mem_of_getElem? (i := 3) rfl)) e0 (g := (mkF m 64 #[.val (.long p0), .second, .val (.long p1), .second, .val (.long p2), .second, .val (.long mm), .second, .val (.long aa), .second, .val (.long rr), .second, .val (.long bb), .second, .val (.long cc), .second, .unset] [])) rfl (hb hby at_64) (by decide) (by decide)
      obtain ⟨b3, g3⟩ : ∃ z, z = h0.size := ⟨_, rfl⟩
      rw [← g3] at A3 D3 st3
      have g_b3 : n0 ≤ b3 := Nat.le_trans Z0 (Nat.le_of_eq g3.symm)
      have F_most_b3_3 : Fld Z h3 b3 "com/example/urd/urd/StepLimit" "most" "J" (.long (0 : Int64)) := D3 (Or.inr (hw _ (List.mem_of_getElem? (i := 19) rfl))) (ty := .long) (by decide)
      have F_refusal_b3_3 : Fld Z h3 b3 "com/example/urd/urd/StepLimit" "refusal" "Ljava/lang/String;" .null := D3 (Or.inr (hw _ (List.mem_of_getElem? (i := 21) rfl))) (ty := (.object "java/lang/String")) (by decide)
      have F_steps_b3_3 : Fld Z h3 b3 "com/example/urd/urd/StepLimit" "steps" "J" (.long (0 : Int64)) := D3 (Or.inl (hw _ (List.mem_of_getElem? (i := 28) rfl))) (ty := .long) (by decide)
      have Zn3 : n0 ≤ h3.size := Nat.le_trans Z0 E3.1
      have X3 : Stand p l e room_1 _ m _ below meth c T3 _ 1 3 := X3
      refine OGoW.st (T' := T3) (g' := (mkF m 67 #[.val (.long p0), .second, .val (.long p1), .second, .val (.long p2), .second, .val (.long mm), .second, .val (.long aa), .second, .val (.long rr), .second, .val (.long bb), .second, .val (.long cc), .second, .unset] [(.ref b3)])) (fun _ k => st3 _ k) ?_
      refine OGoW.st (T' := T3) (g' := (mkF m 70 #[.val (.long p0), .second, .val (.long p1), .second, .val (.long p2), .second, .val (.long mm), .second, .val (.long aa), .second, .val (.long rr), .second, .val (.long bb), .second, .val (.long cc), .second, .unset] [(.long mm), (.ref b3), (.ref b3)])) (fun _ k => (XS.dup X3.here hx rfl (hb hby at_67) rfl rfl (XS.lload X3.here hx rfl (hb hby at_68) rfl k))) ?_
      obtain ⟨b4, T4, h4, kS4, X4, e4, E4, Si4, hk4, hZ, hown, st4⟩ := ldcS (vm0 := s.vm) X3 hx hZ hown (hw _ (List.mem_of_getElem? (i := 4) rfl)) (fun a ha => hw a (own_strings a ha)) e3 ((State.WarmedH.refl s).since 0) (Nat.zero_le _) (g := (mkF m 70 #[.val (.long p0), .second, .val (.long p1), .second, .val (.long p2), .second, .val (.long mm), .second, .val (.long aa), .second, .val (.long rr), .second, .val (.long bb), .second, .val (.long cc), .second, .unset] [(.long mm), (.ref b3), (.ref b3)])) rfl (hb hby at_70) (n := 56) (by decide) (by decide) (by decide) (by decide)
      have A3_4 : Exa Z h4 b3 "com/example/urd/urd/StepLimit" := A3.ext E4
      have F_most_b3_4 : Fld Z h4 b3 "com/example/urd/urd/StepLimit" "most" "J" (.long (0 : Int64)) := F_most_b3_3.ext E4
      have F_refusal_b3_4 : Fld Z h4 b3 "com/example/urd/urd/StepLimit" "refusal" "Ljava/lang/String;" .null := F_refusal_b3_3.ext E4
      have F_steps_b3_4 : Fld Z h4 b3 "com/example/urd/urd/StepLimit" "steps" "J" (.long (0 : Int64)) := F_steps_b3_3.ext E4
      have Zn4 : n0 ≤ h4.size := Nat.le_trans Zn3 E4.1
      have X4 : Stand p l e room_1 _ m _ below meth c T4 _ 3 63 := X4
      refine OGoW.st (T' := T4) (g' := (mkF m 72 #[.val (.long p0), .second, .val (.long p1), .second, .val (.long p2), .second, .val (.long mm), .second, .val (.long aa), .second, .val (.long rr), .second, .val (.long bb), .second, .val (.long cc), .second, .unset] [(.ref b4), (.long mm), (.ref b3), (.ref b3)])) (fun _ k => st4 _ k) ?_
      obtain ⟨_, _, ⟨T5, L5, k5, n5⟩, -, X5, ⟨Lc5, hQ5, l5, y5, z5⟩, st5⟩ := X4.specialBack hx (y := (⟨"com/example/urd/urd/StepLimit", "<init>", "(JLjava/lang/String;)V"⟩ : MethodName)) rfl hown (mvT hZ (hw _ (List.mem_of_getElem? (i := 12) rfl))) (mvT hZ (hw _ (List.mem_of_getElem? (i := 13) rfl))) (mvT hZ (hw _ (List.mem_of_getElem? (i := 14) rfl))) (by decide) (backOf (W := 1) (rmI l Z a0 hw [] (b3) ((0 : Int64)) (.null) ((0 : Int64)) (mm) (b4) h4 n0 Zn4 (A3_4) (F_most_b3_4) (F_refusal_b3_4) (F_steps_b3_4) (g_b3)) hZ (hw _ (List.mem_of_getElem? (i := 14) rfl)) (hw _ (List.mem_of_getElem? (i := 3) rfl)) (by decide) (by decide)) (g := (mkF m 72 #[.val (.long p0), .second, .val (.long p1), .second, .val (.long p2), .second, .val (.long mm), .second, .val (.long aa), .second, .val (.long rr), .second, .val (.long bb), .second, .val (.long cc), .second, .unset] [(.ref b4), (.long mm), (.ref b3), (.ref b3)])) rfl (by rw [hml]; rfl) (Steps.refl _) (a := b3) (argsL := [(.long mm), (.ref b4)]) (rest := [(.ref b3)]) (lenOf own_pd3 rfl) rfl (by show 2 * 0 + _ ≤ _; exact Nat.le_of_eq rfl) (hb hby at_72) (fun _ _ => ⟨rfl, e4, (by decide : 3 + 0 ≤ _), (by decide : 63 + 0 ≤ _)⟩)
      dsimp only [Pt.U, Pt.locs, Pt.cells, Pt.slots] at X5 l5 y5 z5 st5 hQ5
      subst l5 y5 z5
      have X5 : Stand p l e room_1 _ m _ below meth c T5 _ 3 63 := X5
      obtain ⟨h5, e5⟩ : ∃ z, T5.heap = z := ⟨_, rfl⟩
      rw [e5] at hQ5
      obtain ⟨rfl, Nq5, Kc5, G5x0, G5x1, G5x2⟩ := hQ5
      have N5 := Fr.app N0 Nq5
      have A3_5 : Exa Z h5 b3 "com/example/urd/urd/StepLimit" := A3_4.keep Kc5
      have hk4_5 : kS4 ≤ h5.size := Nat.le_trans hk4 Kc5.1
      have Zn5 : n0 ≤ h5.size := Nat.le_trans Zn4 Kc5.1
      refine OGoW.st (T' := T5) (g' := (mkF m 75 #[.val (.long p0), .second, .val (.long p1), .second, .val (.long p2), .second, .val (.long mm), .second, .val (.long aa), .second, .val (.long rr), .second, .val (.long bb), .second, .val (.long cc), .second, .unset] [(.ref b3)])) (fun _ k => st5.trans k) ?_
      refine OGoW.st (T' := T5) (g' := (mkF m 81 #[.val (.long p0), .second, .val (.long p1), .second, .val (.long p2), .second, .val (.long mm), .second, .val (.long aa), .second, .val (.long rr), .second, .val (.long bb), .second, .val (.long cc), .second, .val (.ref b3)] [(.long aa), (.ref b3)])) (fun _ k => (XS.astore X5.here hx rfl (hb hby at_75) rfl rfl (l' := #[.val (.long p0), .second, .val (.long p1), .second, .val (.long p2), .second, .val (.long mm), .second, .val (.long aa), .second, .val (.long rr), .second, .val (.long bb), .second, .val (.long cc), .second, .val (.ref b3)]) rfl (XS.aload X5.here hx rfl (hb hby at_77) rfl rfl (XS.lload X5.here hx rfl (hb hby at_79) rfl k)))) ?_
      obtain ⟨cq6, kq6, q6a, q6b, q6c⟩ := isOf hZ e5 A3_5
      obtain ⟨_, _, ⟨T6, L6, k6, n6⟩, -, X6, ⟨Lc6, hQ6, l6, y6, z6⟩, st6⟩ := X5.virtualBack hx (y := (⟨"com/example/urd/urd/StepLimit", "count", "(J)V"⟩ : MethodName)) (z := (⟨"com/example/urd/urd/StepLimit", "count", "(J)V"⟩ : MethodName)) hown (mvT hZ (hw _ (List.mem_of_getElem? (i := 22) rfl))) (mvT hZ (hw _ (List.mem_of_getElem? (i := 23) rfl))) (notFace_of_selects (args := #[]) (mvT hZ (hw _ (List.mem_of_getElem? (i := 25) rfl)))) (mvT hZ (hw _ (List.mem_of_getElem? (i := 25) rfl))) (mvT hZ (hw _ (List.mem_of_getElem? (i := 24) rfl))) (by decide) (backOf (W := 0) (rmC l Z a0 hw [] (b3) (mm) ((0 : Int64)) (aa) h5 n0 Zn5 (A3_5) (G5x0) (G5x2) (g_b3) (own_c1 B)) hZ (hw _ (List.mem_of_getElem? (i := 26) rfl)) (hw _ (List.mem_of_getElem? (i := 3) rfl)) (by decide) (by decide)) q6a q6c (g := (mkF m 81 #[.val (.long p0), .second, .val (.long p1), .second, .val (.long p2), .second, .val (.long mm), .second, .val (.long aa), .second, .val (.long rr), .second, .val (.long bb), .second, .val (.long cc), .second, .val (.ref b3)] [(.long aa), (.ref b3)])) rfl (by rw [hml]; rfl) (Steps.refl _) (argsL := [(.long aa)]) (rest := []) (lenOf own_pd1 rfl) rfl (by show 2 * 0 + _ ≤ _; exact Nat.le_of_eq rfl) (hb hby at_81) (fun _ _ => ⟨rfl, e5, (by decide : 3 + 0 ≤ _), (by decide : 63 + 0 ≤ _)⟩)
      dsimp only [Pt.U, Pt.locs, Pt.cells, Pt.slots] at X6 l6 y6 z6 st6 hQ6
      subst l6 y6 z6
      have X6 : Stand p l e room_1 _ m _ below meth c T6 _ 3 63 := X6
      obtain ⟨h6, e6⟩ : ∃ z, T6.heap = z := ⟨_, rfl⟩
      rw [e6] at hQ6
      obtain ⟨rfl, Nq6, Kc6, G6x0, G6x1⟩ := hQ6
      have N6 := Fr.app N5 Nq6
      have A3_6 : Exa Z h6 b3 "com/example/urd/urd/StepLimit" := A3_5.keep Kc6
      have hk4_6 : kS4 ≤ h6.size := Nat.le_trans hk4_5 Kc6.1
      have Zn6 : n0 ≤ h6.size := Nat.le_trans Zn5 Kc6.1
      refine OGoW.st (T' := T6) (g' := (mkF m 84 #[.val (.long p0), .second, .val (.long p1), .second, .val (.long p2), .second, .val (.long mm), .second, .val (.long aa), .second, .val (.long rr), .second, .val (.long bb), .second, .val (.long cc), .second, .val (.ref b3)] [])) (fun _ k => st6.trans k) ?_
      refine OGoW.st (T' := T6) (g' := (mkF m 88 #[.val (.long p0), .second, .val (.long p1), .second, .val (.long p2), .second, .val (.long mm), .second, .val (.long aa), .second, .val (.long rr), .second, .val (.long bb), .second, .val (.long cc), .second, .val (.ref b3)] [(.long bb), (.ref b3)])) (fun _ k => (XS.aload X6.here hx rfl (hb hby at_84) rfl rfl (XS.lload X6.here hx rfl (hb hby at_86) rfl k))) ?_
      obtain ⟨cq7, kq7, q7a, q7b, q7c⟩ := isOf hZ e6 A3_6
      obtain ⟨_, _, ⟨T7, L7, k7, n7⟩, -, X7, ⟨Lc7, hQ7, l7, y7, z7⟩, st7⟩ := X6.virtualBack hx (y := (⟨"com/example/urd/urd/StepLimit", "count", "(J)V"⟩ : MethodName)) (z := (⟨"com/example/urd/urd/StepLimit", "count", "(J)V"⟩ : MethodName)) hown (mvT hZ (hw _ (List.mem_of_getElem? (i := 22) rfl))) (mvT hZ (hw _ (List.mem_of_getElem? (i := 23) rfl))) (notFace_of_selects (args := #[]) (mvT hZ (hw _ (List.mem_of_getElem? (i := 25) rfl)))) (mvT hZ (hw _ (List.mem_of_getElem? (i := 25) rfl))) (mvT hZ (hw _ (List.mem_of_getElem? (i := 24) rfl))) (by decide) (backOf (W := 0) (rmC l Z a0 hw [] (b3) (mm) (((0 : Int64) + aa)) (bb) h6 n0 Zn6 (A3_6) (G6x0) (G6x1) (g_b3) (own_c2 B)) hZ (hw _ (List.mem_of_getElem? (i := 26) rfl)) (hw _ (List.mem_of_getElem? (i := 3) rfl)) (by decide) (by decide)) q7a q7c (g := (mkF m 88 #[.val (.long p0), .second, .val (.long p1), .second, .val (.long p2), .second, .val (.long mm), .second, .val (.long aa), .second, .val (.long rr), .second, .val (.long bb), .second, .val (.long cc), .second, .val (.ref b3)] [(.long bb), (.ref b3)])) rfl (by rw [hml]; rfl) (Steps.refl _) (argsL := [(.long bb)]) (rest := []) (lenOf own_pd1 rfl) rfl (by show 2 * 0 + _ ≤ _; exact Nat.le_of_eq rfl) (hb hby at_88) (fun _ _ => ⟨rfl, e6, (by decide : 3 + 0 ≤ _), (by decide : 63 + 0 ≤ _)⟩)
      dsimp only [Pt.U, Pt.locs, Pt.cells, Pt.slots] at X7 l7 y7 z7 st7 hQ7
      subst l7 y7 z7
      have X7 : Stand p l e room_1 _ m _ below meth c T7 _ 3 63 := X7
      obtain ⟨h7, e7⟩ : ∃ z, T7.heap = z := ⟨_, rfl⟩
      rw [e7] at hQ7
      obtain ⟨rfl, Nq7, Kc7, G7x0, G7x1⟩ := hQ7
      have N7 := Fr.app N6 Nq7
      have A3_7 : Exa Z h7 b3 "com/example/urd/urd/StepLimit" := A3_6.keep Kc7
      have hk4_7 : kS4 ≤ h7.size := Nat.le_trans hk4_6 Kc7.1
      have Zn7 : n0 ≤ h7.size := Nat.le_trans Zn6 Kc7.1
      refine OGoW.st (T' := T7) (g' := (mkF m 91 #[.val (.long p0), .second, .val (.long p1), .second, .val (.long p2), .second, .val (.long mm), .second, .val (.long aa), .second, .val (.long rr), .second, .val (.long bb), .second, .val (.long cc), .second, .val (.ref b3)] [])) (fun _ k => st7.trans k) ?_
      refine OGoW.st (T' := T7) (g' := (mkF m 95 #[.val (.long p0), .second, .val (.long p1), .second, .val (.long p2), .second, .val (.long mm), .second, .val (.long aa), .second, .val (.long rr), .second, .val (.long bb), .second, .val (.long cc), .second, .val (.ref b3)] [(.long cc), (.ref b3)])) (fun _ k => (XS.aload X7.here hx rfl (hb hby at_91) rfl rfl (XS.lload X7.here hx rfl (hb hby at_93) rfl k))) ?_
      obtain ⟨cq8, kq8, q8a, q8b, q8c⟩ := isOf hZ e7 A3_7
      obtain ⟨_, _, ⟨T8, L8, k8, n8⟩, -, X8, ⟨Lc8, hQ8, l8, y8, z8⟩, st8⟩ := X7.virtualBack hx (y := (⟨"com/example/urd/urd/StepLimit", "count", "(J)V"⟩ : MethodName)) (z := (⟨"com/example/urd/urd/StepLimit", "count", "(J)V"⟩ : MethodName)) hown (mvT hZ (hw _ (List.mem_of_getElem? (i := 22) rfl))) (mvT hZ (hw _ (List.mem_of_getElem? (i := 23) rfl))) (notFace_of_selects (args := #[]) (mvT hZ (hw _ (List.mem_of_getElem? (i := 25) rfl)))) (mvT hZ (hw _ (List.mem_of_getElem? (i := 25) rfl))) (mvT hZ (hw _ (List.mem_of_getElem? (i := 24) rfl))) (by decide) (backOf (W := 0) (rmC l Z a0 hw [] (b3) (mm) ((((0 : Int64) + aa) + bb)) (cc) h7 n0 Zn7 (A3_7) (G7x0) (G7x1) (g_b3) (own_c3 B)) hZ (hw _ (List.mem_of_getElem? (i := 26) rfl)) (hw _ (List.mem_of_getElem? (i := 3) rfl)) (by decide) (by decide)) q8a q8c (g := (mkF m 95 #[.val (.long p0), .second, .val (.long p1), .second, .val (.long p2), .second, .val (.long mm), .second, .val (.long aa), .second, .val (.long rr), .second, .val (.long bb), .second, .val (.long cc), .second, .val (.ref b3)] [(.long cc), (.ref b3)])) rfl (by rw [hml]; rfl) (Steps.refl _) (argsL := [(.long cc)]) (rest := []) (lenOf own_pd1 rfl) rfl (by show 2 * 0 + _ ≤ _; exact Nat.le_of_eq rfl) (hb hby at_95) (fun _ _ => ⟨rfl, e7, (by decide : 3 + 0 ≤ _), (by decide : 63 + 0 ≤ _)⟩)
      dsimp only [Pt.U, Pt.locs, Pt.cells, Pt.slots] at X8 l8 y8 z8 st8 hQ8
      subst l8 y8 z8
      have X8 : Stand p l e room_1 _ m _ below meth c T8 _ 3 63 := X8
      obtain ⟨h8, e8⟩ : ∃ z, T8.heap = z := ⟨_, rfl⟩
      rw [e8] at hQ8
      obtain ⟨rfl, Nq8, Kc8, G8x0, G8x1⟩ := hQ8
      have N8 := Fr.app N7 Nq8
      have A3_8 : Exa Z h8 b3 "com/example/urd/urd/StepLimit" := A3_7.keep Kc8
      have hk4_8 : kS4 ≤ h8.size := Nat.le_trans hk4_7 Kc8.1
      have Zn8 : n0 ≤ h8.size := Nat.le_trans Zn7 Kc8.1
      refine OGoW.st (T' := T8) (g' := (mkF m 98 #[.val (.long p0), .second, .val (.long p1), .second, .val (.long p2), .second, .val (.long mm), .second, .val (.long aa), .second, .val (.long rr), .second, .val (.long bb), .second, .val (.long cc), .second, .val (.ref b3)] [])) (fun _ k => st8.trans k) ?_
      refine OGoW.st (T' := T8) (g' := (mkF m 101 #[.val (.long p0), .second, .val (.long p1), .second, .val (.long p2), .second, .val (.long mm), .second, .val (.long aa), .second, .val (.long rr), .second, .val (.long bb), .second, .val (.long cc), .second, .val (.ref b3)] [(.long (0 : Int64)), (.ref b3)])) (fun _ k => (XS.aload X8.here hx rfl (hb hby at_98) rfl rfl (XS.lconst X8.here hx rfl (hb hby at_100) k))) ?_
      obtain ⟨cq9, kq9, q9a, q9b, q9c⟩ := isOf hZ e8 A3_8
      obtain ⟨_, _, ⟨T9, L9, k9, n9⟩, -, X9, ⟨Lc9, hQ9, l9, y9, z9⟩, st9⟩ := X8.virtualBack hx (y := (⟨"com/example/urd/urd/StepLimit", "count", "(J)V"⟩ : MethodName)) (z := (⟨"com/example/urd/urd/StepLimit", "count", "(J)V"⟩ : MethodName)) hown (mvT hZ (hw _ (List.mem_of_getElem? (i := 22) rfl))) (mvT hZ (hw _ (List.mem_of_getElem? (i := 23) rfl))) (notFace_of_selects (args := #[]) (mvT hZ (hw _ (List.mem_of_getElem? (i := 25) rfl)))) (mvT hZ (hw _ (List.mem_of_getElem? (i := 25) rfl))) (mvT hZ (hw _ (List.mem_of_getElem? (i := 24) rfl))) (by decide) (backOf (W := 0) (rmC l Z a0 hw [] (b3) (mm) (((((0 : Int64) + aa) + bb) + cc)) ((0 : Int64)) h8 n0 Zn8 (A3_8) (G8x0) (G8x1) (g_b3) (own_c4 B)) hZ (hw _ (List.mem_of_getElem? (i := 26) rfl)) (hw _ (List.mem_of_getElem? (i := 3) rfl)) (by decide) (by decide)) q9a q9c (g := (mkF m 101 #[.val (.long p0), .second, .val (.long p1), .second, .val (.long p2), .second, .val (.long mm), .second, .val (.long aa), .second, .val (.long rr), .second, .val (.long bb), .second, .val (.long cc), .second, .val (.ref b3)] [(.long (0 : Int64)), (.ref b3)])) rfl (by rw [hml]; rfl) (Steps.refl _) (argsL := [(.long (0 : Int64))]) (rest := []) (lenOf own_pd1 rfl) rfl (by show 2 * 0 + _ ≤ _; exact Nat.le_of_eq rfl) (hb hby at_101) (fun _ _ => ⟨rfl, e8, (by decide : 3 + 0 ≤ _), (by decide : 63 + 0 ≤ _)⟩)
      dsimp only [Pt.U, Pt.locs, Pt.cells, Pt.slots] at X9 l9 y9 z9 st9 hQ9
      subst l9 y9 z9
      have X9 : Stand p l e room_1 _ m _ below meth c T9 _ 3 63 := X9
      obtain ⟨h9, e9⟩ : ∃ z, T9.heap = z := ⟨_, rfl⟩
      rw [e9] at hQ9
      obtain ⟨rfl, Nq9, Kc9, G9x0, G9x1⟩ := hQ9
      have N9 := Fr.app N8 Nq9
      have A3_9 : Exa Z h9 b3 "com/example/urd/urd/StepLimit" := A3_8.keep Kc9
      have hk4_9 : kS4 ≤ h9.size := Nat.le_trans hk4_8 Kc9.1
      have Zn9 : n0 ≤ h9.size := Nat.le_trans Zn8 Kc9.1
      refine OGoW.st (T' := T9) (g' := (mkF m 104 #[.val (.long p0), .second, .val (.long p1), .second, .val (.long p2), .second, .val (.long mm), .second, .val (.long aa), .second, .val (.long rr), .second, .val (.long bb), .second, .val (.long cc), .second, .val (.ref b3)] [])) (fun _ k => st9.trans k) ?_
      refine OGoW.st (T' := T9) (g' := (mkF m 114 #[.val (.long p0), .second, .val (.long p1), .second, .val (.long p2), .second, .val (.long mm), .second, .val (.long aa), .second, .val (.long rr), .second, .val (.long bb), .second, .val (.long cc), .second, .val (.ref b3)] [(.long (0 : Int64)), (.long bb)])) (fun _ k => (XS.lload X9.here hx rfl (hb hby at_104) rfl (XS.lconst X9.here hx rfl (hb hby at_106) (XS.lcmp X9.here hx rfl (hb hby at_107) rfl (XS.ifNo X9.here hx rfl (hb hby at_108) rfl ((if0 _ _).trans (flt (fun q => ((own_nn B.1)) ((lw_lt aa (0 : Int64)).mp q))).1) (XS.lload X9.here hx rfl (hb hby at_111) rfl (XS.lconst X9.here hx rfl (hb hby at_113) k))))))) ?_
      refine OGoW.st (T' := T9) (g' := (mkF m 125 #[.val (.long p0), .second, .val (.long p1), .second, .val (.long p2), .second, .val (.long mm), .second, .val (.long aa), .second, .val (.long rr), .second, .val (.long bb), .second, .val (.long cc), .second, .val (.ref b3)] [])) (fun _ k => (XS.lcmp X9.here hx rfl (hb hby at_114) rfl (XS.ifNo X9.here hx rfl (hb hby at_115) rfl ((if0 _ _).trans (flt (fun q => ((own_nn B.2.1)) ((lw_lt bb (0 : Int64)).mp q))).1) (XS.lload X9.here hx rfl (hb hby at_118) rfl (XS.lconst X9.here hx rfl (hb hby at_120) (XS.lcmp X9.here hx rfl (hb hby at_121) rfl (XS.ifNo X9.here hx rfl (hb hby at_122) rfl ((if0 _ _).trans (flt (fun q => ((own_nn B.2.2.1)) ((lw_lt cc (0 : Int64)).mp q))).1) k))))))) ?_
      refine OGoW.st (T' := T9) (g' := (mkF m 135 #[.val (.long p0), .second, .val (.long p1), .second, .val (.long p2), .second, .val (.long mm), .second, .val (.long aa), .second, .val (.long rr), .second, .val (.long bb), .second, .val (.long cc), .second, .val (.ref b3)] [(.long mm), (.long ((aa + bb) + cc))])) (fun _ k => (XS.lload X9.here hx rfl (hb hby at_125) rfl (XS.lload X9.here hx rfl (hb hby at_127) rfl (XS.ladd X9.here hx rfl (hb hby at_129) rfl (XS.lload X9.here hx rfl (hb hby at_130) rfl (XS.ladd X9.here hx rfl (hb hby at_132) rfl (XS.lload X9.here hx rfl (hb hby at_133) rfl k))))))) ?_
      refine OGoW.st (T' := T9) (g' := (mkF m 144 #[.val (.long p0), .second, .val (.long p1), .second, .val (.long p2), .second, .val (.long mm), .second, .val (.long aa), .second, .val (.long rr), .second, .val (.long bb), .second, .val (.long cc), .second, .val (.ref b3)] [(.int (1 : Int32))])) (fun _ k => (XS.lcmp X9.here hx rfl (hb hby at_135) rfl (XS.ifNo X9.here hx rfl (hb hby at_136) rfl ((if0 _ _).trans (teq ((lw_eq ((aa + bb) + cc) mm).mpr (own_s B))).2) (XS.iconst X9.here hx rfl (hb hby at_139) (XS.goto X9.here hx rfl (pc0 := 140) (pc' := 144) rfl (hb hby at_140) (by decide) (by decide) k))))) ?_
      exact OGoW.ret X9 Si4 hk4_9 hx hlk Bd.returns rfl (own_rI (Or.inr (Or.inl rfl))) (hb hby at_144) (by decide) (by decide) e9 (⟨rfl, N9⟩)
    · refine OGoW.st (T' := s₁) (g' := (mkF m 55 #[.val (.long p0), .second, .val (.long p1), .second, .val (.long p2), .second, .val (.long mm), .second, .val (.long aa), .second, .val (.long rr), .second, .unset, .unset, .unset, .unset, .unset] [(.long ((p2 &&& (9223372036854775807 : Int64)) - ((p2 &&& (9223372036854775807 : Int64)) / rr) * rr))])) (fun _ k => (XS.ifYes X0.here hx rfl (pc0 := 39) (pc' := 46) rfl (hb hby at_39) rfl ((if0 _ _).trans (feq (fun q => (hc2) ((lw_eq rr (0 : Int64)).mp q))).2) (by decide) (by decide) (XS.lload X0.here hx rfl (hb hby at_46) rfl (X0.ldc2Long hx hown (mvT hZ (hw _ (List.mem_of_getElem? (i := 0) rfl))) (g := (mkF m 48 #[.val (.long p0), .second, .val (.long p1), .second, .val (.long p2), .second, .val (.long mm), .second, .val (.long aa), .second, .val (.long rr), .second, .unset, .unset, .unset, .unset, .unset] [(.long p2)])) rfl (hb hby at_48) _ (XS.land X0.here hx rfl (hb hby at_51) rfl (XS.lload X0.here hx rfl (hb hby at_52) rfl (XS.lrem X0.here hx rfl (hb hby at_54) rfl hc2 k))))))) ?_
      refine OGoW.st (T' := s₁) (g' := (mkF m 57 #[.val (.long p0), .second, .val (.long p1), .second, .val (.long p2), .second, .val (.long mm), .second, .val (.long aa), .second, .val (.long rr), .second, .val (.long ((p2 &&& (9223372036854775807 : Int64)) - ((p2 &&& (9223372036854775807 : Int64)) / rr) * rr)), .second, .unset, .unset, .unset] [])) (fun _ k => (XS.lstore X0.here hx rfl (hb hby at_55) rfl (l' := #[.val (.long p0), .second, .val (.long p1), .second, .val (.long p2), .second, .val (.long mm), .second, .val (.long aa), .second, .val (.long rr), .second, .val (.long ((p2 &&& (9223372036854775807 : Int64)) - ((p2 &&& (9223372036854775807 : Int64)) / rr) * rr)), .second, .unset, .unset, .unset]) rfl k)) ?_
      generalize h_bb : ((p2 &&& (9223372036854775807 : Int64)) - ((p2 &&& (9223372036854775807 : Int64)) / rr) * rr) = bb
      have hbb : 0 ≤ bb.toInt ∧ bb.toInt ≤ rr.toInt := by rw [← h_bb]; exact own_rem (own_and64 _ _ (by decide)) (own_pos hr0 hc2)
      refine OGoW.st (T' := s₁) (g' := (mkF m 64 #[.val (.long p0), .second, .val (.long p1), .second, .val (.long p2), .second, .val (.long mm), .second, .val (.long aa), .second, .val (.long rr), .second, .val (.long bb), .second, .val (.long (rr - bb)), .second, .unset] [])) (fun _ k => (XS.lload X0.here hx rfl (hb hby at_57) rfl (XS.lload X0.here hx rfl (hb hby at_59) rfl (XS.lsub X0.here hx rfl (hb hby at_61) rfl (XS.lstore X0.here hx rfl (hb hby at_62) rfl (l' := #[.val (.long p0), .second, .val (.long p1), .second, .val (.long p2), .second, .val (.long mm), .second, .val (.long aa), .second, .val (.long rr), .second, .val (.long bb), .second, .val (.long (rr - bb)), .second, .unset]) rfl k))))) ?_
      generalize h_cc : (rr - bb) = cc
      have hcc : cc.toInt = rr.toInt - bb.toInt := by rw [← h_cc]; exact own_subJ (by have := own_top63 rr; omega) (by have := own_top63 rr; omega)
      have B : own_B mm aa bb cc := ⟨haa.1, hbb.1, by omega, by omega⟩
      obtain ⟨T10, h10, X10, e10, E10, A10, D10, -, st10⟩ := newO X0 hx hZ hown (hw _ (List.mem_of_getElem? (i := 1) rfl)) (hw _ (List.mem_of_getElem? (i := 2) rfl)) (hw _ (List.mem_of_getElem? (i := 3) rfl)) e0 (g := (mkF m 64 #[.val (.long p0), .second, .val (.long p1), .second, .val (.long p2), .second, .val (.long mm), .second, .val (.long aa), .second, .val (.long rr), .second, .val (.long bb), .second, .val (.long cc), .second, .unset] [])) rfl (hb hby at_64) (by decide) (by decide)
      obtain ⟨b10, g10⟩ : ∃ z, z = h0.size := ⟨_, rfl⟩
      rw [← g10] at A10 D10 st10
      have g_b10 : n0 ≤ b10 := Nat.le_trans Z0 (Nat.le_of_eq g10.symm)
      have F_most_b10_10 : Fld Z h10 b10 "com/example/urd/urd/StepLimit" "most" "J" (.long (0 : Int64)) := D10 (Or.inr (hw _ (List.mem_of_getElem? (i := 19) rfl))) (ty := .long) (by decide)
      have F_refusal_b10_10 : Fld Z h10 b10 "com/example/urd/urd/StepLimit" "refusal" "Ljava/lang/String;" .null := D10 (Or.inr (hw _ (List.mem_of_getElem? (i := 21) rfl))) (ty := (.object "java/lang/String")) (by decide)
      have F_steps_b10_10 : Fld Z h10 b10 "com/example/urd/urd/StepLimit" "steps" "J" (.long (0 : Int64)) := D10 (Or.inl (hw _ (List.mem_of_getElem? (i := 28) rfl))) (ty := .long) (by decide)
      have Zn10 : n0 ≤ h10.size := Nat.le_trans Z0 E10.1
      have X10 : Stand p l e room_1 _ m _ below meth c T10 _ 1 3 := X10
      refine OGoW.st (T' := T10) (g' := (mkF m 67 #[.val (.long p0), .second, .val (.long p1), .second, .val (.long p2), .second, .val (.long mm), .second, .val (.long aa), .second, .val (.long rr), .second, .val (.long bb), .second, .val (.long cc), .second, .unset] [(.ref b10)])) (fun _ k => st10 _ k) ?_
      refine OGoW.st (T' := T10) (g' := (mkF m 70 #[.val (.long p0), .second, .val (.long p1), .second, .val (.long p2), .second, .val (.long mm), .second, .val (.long aa), .second, .val (.long rr), .second, .val (.long bb), .second, .val (.long cc), .second, .unset] [(.long mm), (.ref b10), (.ref b10)])) (fun _ k => (XS.dup X10.here hx rfl (hb hby at_67) rfl rfl (XS.lload X10.here hx rfl (hb hby at_68) rfl k))) ?_
      obtain ⟨b11, T11, h11, kS11, X11, e11, E11, Si11, hk11, hZ, hown, st11⟩ := ldcS (vm0 := s.vm) X10 hx hZ hown (hw _ (List.mem_of_getElem? (i := 4) rfl)) (fun a ha => hw a (own_strings a ha)) e10 ((State.WarmedH.refl s).since 0) (Nat.zero_le _) (g := (mkF m 70 #[.val (.long p0), .second, .val (.long p1), .second, .val (.long p2), .second, .val (.long mm), .second, .val (.long aa), .second, .val (.long rr), .second, .val (.long bb), .second, .val (.long cc), .second, .unset] [(.long mm), (.ref b10), (.ref b10)])) rfl (hb hby at_70) (n := 56) (by decide) (by decide) (by decide) (by decide)
      have A10_11 : Exa Z h11 b10 "com/example/urd/urd/StepLimit" := A10.ext E11
      have F_most_b10_11 : Fld Z h11 b10 "com/example/urd/urd/StepLimit" "most" "J" (.long (0 : Int64)) := F_most_b10_10.ext E11
      have F_refusal_b10_11 : Fld Z h11 b10 "com/example/urd/urd/StepLimit" "refusal" "Ljava/lang/String;" .null := F_refusal_b10_10.ext E11
      have F_steps_b10_11 : Fld Z h11 b10 "com/example/urd/urd/StepLimit" "steps" "J" (.long (0 : Int64)) := F_steps_b10_10.ext E11
      have Zn11 : n0 ≤ h11.size := Nat.le_trans Zn10 E11.1
      have X11 : Stand p l e room_1 _ m _ below meth c T11 _ 3 63 := X11
      refine OGoW.st (T' := T11) (g' := (mkF m 72 #[.val (.long p0), .second, .val (.long p1), .second, .val (.long p2), .second, .val (.long mm), .second, .val (.long aa), .second, .val (.long rr), .second, .val (.long bb), .second, .val (.long cc), .second, .unset] [(.ref b11), (.long mm), (.ref b10), (.ref b10)])) (fun _ k => st11 _ k) ?_
      obtain ⟨_, _, ⟨T12, L12, k12, n12⟩, -, X12, ⟨Lc12, hQ12, l12, y12, z12⟩, st12⟩ := X11.specialBack hx (y := (⟨"com/example/urd/urd/StepLimit", "<init>", "(JLjava/lang/String;)V"⟩ : MethodName)) rfl hown (mvT hZ (hw _ (List.mem_of_getElem? (i := 12) rfl))) (mvT hZ (hw _ (List.mem_of_getElem? (i := 13) rfl))) (mvT hZ (hw _ (List.mem_of_getElem? (i := 14) rfl))) (by decide) (backOf (W := 1) (rmI l Z a0 hw [] (b10) ((0 : Int64)) (.null) ((0 : Int64)) (mm) (b11) h11 n0 Zn11 (A10_11) (F_most_b10_11) (F_refusal_b10_11) (F_steps_b10_11) (g_b10)) hZ (hw _ (List.mem_of_getElem? (i := 14) rfl)) (hw _ (List.mem_of_getElem? (i := 3) rfl)) (by decide) (by decide)) (g := (mkF m 72 #[.val (.long p0), .second, .val (.long p1), .second, .val (.long p2), .second, .val (.long mm), .second, .val (.long aa), .second, .val (.long rr), .second, .val (.long bb), .second, .val (.long cc), .second, .unset] [(.ref b11), (.long mm), (.ref b10), (.ref b10)])) rfl (by rw [hml]; rfl) (Steps.refl _) (a := b10) (argsL := [(.long mm), (.ref b11)]) (rest := [(.ref b10)]) (lenOf own_pd3 rfl) rfl (by show 2 * 0 + _ ≤ _; exact Nat.le_of_eq rfl) (hb hby at_72) (fun _ _ => ⟨rfl, e11, (by decide : 3 + 0 ≤ _), (by decide : 63 + 0 ≤ _)⟩)
      dsimp only [Pt.U, Pt.locs, Pt.cells, Pt.slots] at X12 l12 y12 z12 st12 hQ12
      subst l12 y12 z12
      have X12 : Stand p l e room_1 _ m _ below meth c T12 _ 3 63 := X12
      obtain ⟨h12, e12⟩ : ∃ z, T12.heap = z := ⟨_, rfl⟩
      rw [e12] at hQ12
      obtain ⟨rfl, Nq12, Kc12, G12x0, G12x1, G12x2⟩ := hQ12
      have N12 := Fr.app N0 Nq12
      have A10_12 : Exa Z h12 b10 "com/example/urd/urd/StepLimit" := A10_11.keep Kc12
      have hk11_12 : kS11 ≤ h12.size := Nat.le_trans hk11 Kc12.1
      have Zn12 : n0 ≤ h12.size := Nat.le_trans Zn11 Kc12.1
      refine OGoW.st (T' := T12) (g' := (mkF m 75 #[.val (.long p0), .second, .val (.long p1), .second, .val (.long p2), .second, .val (.long mm), .second, .val (.long aa), .second, .val (.long rr), .second, .val (.long bb), .second, .val (.long cc), .second, .unset] [(.ref b10)])) (fun _ k => st12.trans k) ?_
      refine OGoW.st (T' := T12) (g' := (mkF m 81 #[.val (.long p0), .second, .val (.long p1), .second, .val (.long p2), .second, .val (.long mm), .second, .val (.long aa), .second, .val (.long rr), .second, .val (.long bb), .second, .val (.long cc), .second, .val (.ref b10)] [(.long aa), (.ref b10)])) (fun _ k => (XS.astore X12.here hx rfl (hb hby at_75) rfl rfl (l' := #[.val (.long p0), .second, .val (.long p1), .second, .val (.long p2), .second, .val (.long mm), .second, .val (.long aa), .second, .val (.long rr), .second, .val (.long bb), .second, .val (.long cc), .second, .val (.ref b10)]) rfl (XS.aload X12.here hx rfl (hb hby at_77) rfl rfl (XS.lload X12.here hx rfl (hb hby at_79) rfl k)))) ?_
      obtain ⟨cq13, kq13, q13a, q13b, q13c⟩ := isOf hZ e12 A10_12
      obtain ⟨_, _, ⟨T13, L13, k13, n13⟩, -, X13, ⟨Lc13, hQ13, l13, y13, z13⟩, st13⟩ := X12.virtualBack hx (y := (⟨"com/example/urd/urd/StepLimit", "count", "(J)V"⟩ : MethodName)) (z := (⟨"com/example/urd/urd/StepLimit", "count", "(J)V"⟩ : MethodName)) hown (mvT hZ (hw _ (List.mem_of_getElem? (i := 22) rfl))) (mvT hZ (hw _ (List.mem_of_getElem? (i := 23) rfl))) (notFace_of_selects (args := #[]) (mvT hZ (hw _ (List.mem_of_getElem? (i := 25) rfl)))) (mvT hZ (hw _ (List.mem_of_getElem? (i := 25) rfl))) (mvT hZ (hw _ (List.mem_of_getElem? (i := 24) rfl))) (by decide) (backOf (W := 0) (rmC l Z a0 hw [] (b10) (mm) ((0 : Int64)) (aa) h12 n0 Zn12 (A10_12) (G12x0) (G12x2) (g_b10) (own_c1 B)) hZ (hw _ (List.mem_of_getElem? (i := 26) rfl)) (hw _ (List.mem_of_getElem? (i := 3) rfl)) (by decide) (by decide)) q13a q13c (g := (mkF m 81 #[.val (.long p0), .second, .val (.long p1), .second, .val (.long p2), .second, .val (.long mm), .second, .val (.long aa), .second, .val (.long rr), .second, .val (.long bb), .second, .val (.long cc), .second, .val (.ref b10)] [(.long aa), (.ref b10)])) rfl (by rw [hml]; rfl) (Steps.refl _) (argsL := [(.long aa)]) (rest := []) (lenOf own_pd1 rfl) rfl (by show 2 * 0 + _ ≤ _; exact Nat.le_of_eq rfl) (hb hby at_81) (fun _ _ => ⟨rfl, e12, (by decide : 3 + 0 ≤ _), (by decide : 63 + 0 ≤ _)⟩)
      dsimp only [Pt.U, Pt.locs, Pt.cells, Pt.slots] at X13 l13 y13 z13 st13 hQ13
      subst l13 y13 z13
      have X13 : Stand p l e room_1 _ m _ below meth c T13 _ 3 63 := X13
      obtain ⟨h13, e13⟩ : ∃ z, T13.heap = z := ⟨_, rfl⟩
      rw [e13] at hQ13
      obtain ⟨rfl, Nq13, Kc13, G13x0, G13x1⟩ := hQ13
      have N13 := Fr.app N12 Nq13
      have A10_13 : Exa Z h13 b10 "com/example/urd/urd/StepLimit" := A10_12.keep Kc13
      have hk11_13 : kS11 ≤ h13.size := Nat.le_trans hk11_12 Kc13.1
      have Zn13 : n0 ≤ h13.size := Nat.le_trans Zn12 Kc13.1
      refine OGoW.st (T' := T13) (g' := (mkF m 84 #[.val (.long p0), .second, .val (.long p1), .second, .val (.long p2), .second, .val (.long mm), .second, .val (.long aa), .second, .val (.long rr), .second, .val (.long bb), .second, .val (.long cc), .second, .val (.ref b10)] [])) (fun _ k => st13.trans k) ?_
      refine OGoW.st (T' := T13) (g' := (mkF m 88 #[.val (.long p0), .second, .val (.long p1), .second, .val (.long p2), .second, .val (.long mm), .second, .val (.long aa), .second, .val (.long rr), .second, .val (.long bb), .second, .val (.long cc), .second, .val (.ref b10)] [(.long bb), (.ref b10)])) (fun _ k => (XS.aload X13.here hx rfl (hb hby at_84) rfl rfl (XS.lload X13.here hx rfl (hb hby at_86) rfl k))) ?_
      obtain ⟨cq14, kq14, q14a, q14b, q14c⟩ := isOf hZ e13 A10_13
      obtain ⟨_, _, ⟨T14, L14, k14, n14⟩, -, X14, ⟨Lc14, hQ14, l14, y14, z14⟩, st14⟩ := X13.virtualBack hx (y := (⟨"com/example/urd/urd/StepLimit", "count", "(J)V"⟩ : MethodName)) (z := (⟨"com/example/urd/urd/StepLimit", "count", "(J)V"⟩ : MethodName)) hown (mvT hZ (hw _ (List.mem_of_getElem? (i := 22) rfl))) (mvT hZ (hw _ (List.mem_of_getElem? (i := 23) rfl))) (notFace_of_selects (args := #[]) (mvT hZ (hw _ (List.mem_of_getElem? (i := 25) rfl)))) (mvT hZ (hw _ (List.mem_of_getElem? (i := 25) rfl))) (mvT hZ (hw _ (List.mem_of_getElem? (i := 24) rfl))) (by decide) (backOf (W := 0) (rmC l Z a0 hw [] (b10) (mm) (((0 : Int64) + aa)) (bb) h13 n0 Zn13 (A10_13) (G13x0) (G13x1) (g_b10) (own_c2 B)) hZ (hw _ (List.mem_of_getElem? (i := 26) rfl)) (hw _ (List.mem_of_getElem? (i := 3) rfl)) (by decide) (by decide)) q14a q14c (g := (mkF m 88 #[.val (.long p0), .second, .val (.long p1), .second, .val (.long p2), .second, .val (.long mm), .second, .val (.long aa), .second, .val (.long rr), .second, .val (.long bb), .second, .val (.long cc), .second, .val (.ref b10)] [(.long bb), (.ref b10)])) rfl (by rw [hml]; rfl) (Steps.refl _) (argsL := [(.long bb)]) (rest := []) (lenOf own_pd1 rfl) rfl (by show 2 * 0 + _ ≤ _; exact Nat.le_of_eq rfl) (hb hby at_88) (fun _ _ => ⟨rfl, e13, (by decide : 3 + 0 ≤ _), (by decide : 63 + 0 ≤ _)⟩)
      dsimp only [Pt.U, Pt.locs, Pt.cells, Pt.slots] at X14 l14 y14 z14 st14 hQ14
      subst l14 y14 z14
      have X14 : Stand p l e room_1 _ m _ below meth c T14 _ 3 63 := X14
      obtain ⟨h14, e14⟩ : ∃ z, T14.heap = z := ⟨_, rfl⟩
      rw [e14] at hQ14
      obtain ⟨rfl, Nq14, Kc14, G14x0, G14x1⟩ := hQ14
      have N14 := Fr.app N13 Nq14
      have A10_14 : Exa Z h14 b10 "com/example/urd/urd/StepLimit" := A10_13.keep Kc14
      have hk11_14 : kS11 ≤ h14.size := Nat.le_trans hk11_13 Kc14.1
      have Zn14 : n0 ≤ h14.size := Nat.le_trans Zn13 Kc14.1
      refine OGoW.st (T' := T14) (g' := (mkF m 91 #[.val (.long p0), .second, .val (.long p1), .second, .val (.long p2), .second, .val (.long mm), .second, .val (.long aa), .second, .val (.long rr), .second, .val (.long bb), .second, .val (.long cc), .second, .val (.ref b10)] [])) (fun _ k => st14.trans k) ?_
      refine OGoW.st (T' := T14) (g' := (mkF m 95 #[.val (.long p0), .second, .val (.long p1), .second, .val (.long p2), .second, .val (.long mm), .second, .val (.long aa), .second, .val (.long rr), .second, .val (.long bb), .second, .val (.long cc), .second, .val (.ref b10)] [(.long cc), (.ref b10)])) (fun _ k => (XS.aload X14.here hx rfl (hb hby at_91) rfl rfl (XS.lload X14.here hx rfl (hb hby at_93) rfl k))) ?_
      obtain ⟨cq15, kq15, q15a, q15b, q15c⟩ := isOf hZ e14 A10_14
      obtain ⟨_, _, ⟨T15, L15, k15, n15⟩, -, X15, ⟨Lc15, hQ15, l15, y15, z15⟩, st15⟩ := X14.virtualBack hx (y := (⟨"com/example/urd/urd/StepLimit", "count", "(J)V"⟩ : MethodName)) (z := (⟨"com/example/urd/urd/StepLimit", "count", "(J)V"⟩ : MethodName)) hown (mvT hZ (hw _ (List.mem_of_getElem? (i := 22) rfl))) (mvT hZ (hw _ (List.mem_of_getElem? (i := 23) rfl))) (notFace_of_selects (args := #[]) (mvT hZ (hw _ (List.mem_of_getElem? (i := 25) rfl)))) (mvT hZ (hw _ (List.mem_of_getElem? (i := 25) rfl))) (mvT hZ (hw _ (List.mem_of_getElem? (i := 24) rfl))) (by decide) (backOf (W := 0) (rmC l Z a0 hw [] (b10) (mm) ((((0 : Int64) + aa) + bb)) (cc) h14 n0 Zn14 (A10_14) (G14x0) (G14x1) (g_b10) (own_c3 B)) hZ (hw _ (List.mem_of_getElem? (i := 26) rfl)) (hw _ (List.mem_of_getElem? (i := 3) rfl)) (by decide) (by decide)) q15a q15c (g := (mkF m 95 #[.val (.long p0), .second, .val (.long p1), .second, .val (.long p2), .second, .val (.long mm), .second, .val (.long aa), .second, .val (.long rr), .second, .val (.long bb), .second, .val (.long cc), .second, .val (.ref b10)] [(.long cc), (.ref b10)])) rfl (by rw [hml]; rfl) (Steps.refl _) (argsL := [(.long cc)]) (rest := []) (lenOf own_pd1 rfl) rfl (by show 2 * 0 + _ ≤ _; exact Nat.le_of_eq rfl) (hb hby at_95) (fun _ _ => ⟨rfl, e14, (by decide : 3 + 0 ≤ _), (by decide : 63 + 0 ≤ _)⟩)
      dsimp only [Pt.U, Pt.locs, Pt.cells, Pt.slots] at X15 l15 y15 z15 st15 hQ15
      subst l15 y15 z15
      have X15 : Stand p l e room_1 _ m _ below meth c T15 _ 3 63 := X15
      obtain ⟨h15, e15⟩ : ∃ z, T15.heap = z := ⟨_, rfl⟩
      rw [e15] at hQ15
      obtain ⟨rfl, Nq15, Kc15, G15x0, G15x1⟩ := hQ15
      have N15 := Fr.app N14 Nq15
      have A10_15 : Exa Z h15 b10 "com/example/urd/urd/StepLimit" := A10_14.keep Kc15
      have hk11_15 : kS11 ≤ h15.size := Nat.le_trans hk11_14 Kc15.1
      have Zn15 : n0 ≤ h15.size := Nat.le_trans Zn14 Kc15.1
      refine OGoW.st (T' := T15) (g' := (mkF m 98 #[.val (.long p0), .second, .val (.long p1), .second, .val (.long p2), .second, .val (.long mm), .second, .val (.long aa), .second, .val (.long rr), .second, .val (.long bb), .second, .val (.long cc), .second, .val (.ref b10)] [])) (fun _ k => st15.trans k) ?_
      refine OGoW.st (T' := T15) (g' := (mkF m 101 #[.val (.long p0), .second, .val (.long p1), .second, .val (.long p2), .second, .val (.long mm), .second, .val (.long aa), .second, .val (.long rr), .second, .val (.long bb), .second, .val (.long cc), .second, .val (.ref b10)] [(.long (0 : Int64)), (.ref b10)])) (fun _ k => (XS.aload X15.here hx rfl (hb hby at_98) rfl rfl (XS.lconst X15.here hx rfl (hb hby at_100) k))) ?_
      obtain ⟨cq16, kq16, q16a, q16b, q16c⟩ := isOf hZ e15 A10_15
      obtain ⟨_, _, ⟨T16, L16, k16, n16⟩, -, X16, ⟨Lc16, hQ16, l16, y16, z16⟩, st16⟩ := X15.virtualBack hx (y := (⟨"com/example/urd/urd/StepLimit", "count", "(J)V"⟩ : MethodName)) (z := (⟨"com/example/urd/urd/StepLimit", "count", "(J)V"⟩ : MethodName)) hown (mvT hZ (hw _ (List.mem_of_getElem? (i := 22) rfl))) (mvT hZ (hw _ (List.mem_of_getElem? (i := 23) rfl))) (notFace_of_selects (args := #[]) (mvT hZ (hw _ (List.mem_of_getElem? (i := 25) rfl)))) (mvT hZ (hw _ (List.mem_of_getElem? (i := 25) rfl))) (mvT hZ (hw _ (List.mem_of_getElem? (i := 24) rfl))) (by decide) (backOf (W := 0) (rmC l Z a0 hw [] (b10) (mm) (((((0 : Int64) + aa) + bb) + cc)) ((0 : Int64)) h15 n0 Zn15 (A10_15) (G15x0) (G15x1) (g_b10) (own_c4 B)) hZ (hw _ (List.mem_of_getElem? (i := 26) rfl)) (hw _ (List.mem_of_getElem? (i := 3) rfl)) (by decide) (by decide)) q16a q16c (g := (mkF m 101 #[.val (.long p0), .second, .val (.long p1), .second, .val (.long p2), .second, .val (.long mm), .second, .val (.long aa), .second, .val (.long rr), .second, .val (.long bb), .second, .val (.long cc), .second, .val (.ref b10)] [(.long (0 : Int64)), (.ref b10)])) rfl (by rw [hml]; rfl) (Steps.refl _) (argsL := [(.long (0 : Int64))]) (rest := []) (lenOf own_pd1 rfl) rfl (by show 2 * 0 + _ ≤ _; exact Nat.le_of_eq rfl) (hb hby at_101) (fun _ _ => ⟨rfl, e15, (by decide : 3 + 0 ≤ _), (by decide : 63 + 0 ≤ _)⟩)
      dsimp only [Pt.U, Pt.locs, Pt.cells, Pt.slots] at X16 l16 y16 z16 st16 hQ16
      subst l16 y16 z16
      have X16 : Stand p l e room_1 _ m _ below meth c T16 _ 3 63 := X16
      obtain ⟨h16, e16⟩ : ∃ z, T16.heap = z := ⟨_, rfl⟩
      rw [e16] at hQ16
      obtain ⟨rfl, Nq16, Kc16, G16x0, G16x1⟩ := hQ16
      have N16 := Fr.app N15 Nq16
      have A10_16 : Exa Z h16 b10 "com/example/urd/urd/StepLimit" := A10_15.keep Kc16
      have hk11_16 : kS11 ≤ h16.size := Nat.le_trans hk11_15 Kc16.1
      have Zn16 : n0 ≤ h16.size := Nat.le_trans Zn15 Kc16.1
      refine OGoW.st (T' := T16) (g' := (mkF m 104 #[.val (.long p0), .second, .val (.long p1), .second, .val (.long p2), .second, .val (.long mm), .second, .val (.long aa), .second, .val (.long rr), .second, .val (.long bb), .second, .val (.long cc), .second, .val (.ref b10)] [])) (fun _ k => st16.trans k) ?_
      refine OGoW.st (T' := T16) (g' := (mkF m 114 #[.val (.long p0), .second, .val (.long p1), .second, .val (.long p2), .second, .val (.long mm), .second, .val (.long aa), .second, .val (.long rr), .second, .val (.long bb), .second, .val (.long cc), .second, .val (.ref b10)] [(.long (0 : Int64)), (.long bb)])) (fun _ k => (XS.lload X16.here hx rfl (hb hby at_104) rfl (XS.lconst X16.here hx rfl (hb hby at_106) (XS.lcmp X16.here hx rfl (hb hby at_107) rfl (XS.ifNo X16.here hx rfl (hb hby at_108) rfl ((if0 _ _).trans (flt (fun q => ((own_nn B.1)) ((lw_lt aa (0 : Int64)).mp q))).1) (XS.lload X16.here hx rfl (hb hby at_111) rfl (XS.lconst X16.here hx rfl (hb hby at_113) k))))))) ?_
      refine OGoW.st (T' := T16) (g' := (mkF m 125 #[.val (.long p0), .second, .val (.long p1), .second, .val (.long p2), .second, .val (.long mm), .second, .val (.long aa), .second, .val (.long rr), .second, .val (.long bb), .second, .val (.long cc), .second, .val (.ref b10)] [])) (fun _ k => (XS.lcmp X16.here hx rfl (hb hby at_114) rfl (XS.ifNo X16.here hx rfl (hb hby at_115) rfl ((if0 _ _).trans (flt (fun q => ((own_nn B.2.1)) ((lw_lt bb (0 : Int64)).mp q))).1) (XS.lload X16.here hx rfl (hb hby at_118) rfl (XS.lconst X16.here hx rfl (hb hby at_120) (XS.lcmp X16.here hx rfl (hb hby at_121) rfl (XS.ifNo X16.here hx rfl (hb hby at_122) rfl ((if0 _ _).trans (flt (fun q => ((own_nn B.2.2.1)) ((lw_lt cc (0 : Int64)).mp q))).1) k))))))) ?_
      refine OGoW.st (T' := T16) (g' := (mkF m 135 #[.val (.long p0), .second, .val (.long p1), .second, .val (.long p2), .second, .val (.long mm), .second, .val (.long aa), .second, .val (.long rr), .second, .val (.long bb), .second, .val (.long cc), .second, .val (.ref b10)] [(.long mm), (.long ((aa + bb) + cc))])) (fun _ k => (XS.lload X16.here hx rfl (hb hby at_125) rfl (XS.lload X16.here hx rfl (hb hby at_127) rfl (XS.ladd X16.here hx rfl (hb hby at_129) rfl (XS.lload X16.here hx rfl (hb hby at_130) rfl (XS.ladd X16.here hx rfl (hb hby at_132) rfl (XS.lload X16.here hx rfl (hb hby at_133) rfl k))))))) ?_
      refine OGoW.st (T' := T16) (g' := (mkF m 144 #[.val (.long p0), .second, .val (.long p1), .second, .val (.long p2), .second, .val (.long mm), .second, .val (.long aa), .second, .val (.long rr), .second, .val (.long bb), .second, .val (.long cc), .second, .val (.ref b10)] [(.int (1 : Int32))])) (fun _ k => (XS.lcmp X16.here hx rfl (hb hby at_135) rfl (XS.ifNo X16.here hx rfl (hb hby at_136) rfl ((if0 _ _).trans (teq ((lw_eq ((aa + bb) + cc) mm).mpr (own_s B))).2) (XS.iconst X16.here hx rfl (hb hby at_139) (XS.goto X16.here hx rfl (pc0 := 140) (pc' := 144) rfl (hb hby at_140) (by decide) (by decide) k))))) ?_
      exact OGoW.ret X16 Si11 hk11_16 hx hlk Bd.returns rfl (own_rI (Or.inr (Or.inl rfl))) (hb hby at_144) (by decide) (by decide) e16 (⟨rfl, N16⟩)
  · refine OGoW.st (T' := s₁) (g' := (mkF m 26 #[.val (.long p0), .second, .val (.long p1), .second, .val (.long p2), .second, .val (.long mm), .second, .unset, .unset, .unset, .unset, .unset, .unset, .unset, .unset, .unset] [(.long ((p1 &&& (9223372036854775807 : Int64)) - ((p1 &&& (9223372036854775807 : Int64)) / mm) * mm))])) (fun _ k => (XS.ifYes X0.here hx rfl (pc0 := 11) (pc' := 18) rfl (hb hby at_11) rfl ((if0 _ _).trans (feq (fun q => (hc1) ((lw_eq mm (0 : Int64)).mp q))).2) (by decide) (by decide) (XS.lloadN X0.here hx rfl (hb hby at_18) rfl (X0.ldc2Long hx hown (mvT hZ (hw _ (List.mem_of_getElem? (i := 0) rfl))) (g := (mkF m 19 #[.val (.long p0), .second, .val (.long p1), .second, .val (.long p2), .second, .val (.long mm), .second, .unset, .unset, .unset, .unset, .unset, .unset, .unset, .unset, .unset] [(.long p1)])) rfl (hb hby at_19) _ (XS.land X0.here hx rfl (hb hby at_22) rfl (XS.lload X0.here hx rfl (hb hby at_23) rfl (XS.lrem X0.here hx rfl (hb hby at_25) rfl hc1 k))))))) ?_
    refine OGoW.st (T' := s₁) (g' := (mkF m 28 #[.val (.long p0), .second, .val (.long p1), .second, .val (.long p2), .second, .val (.long mm), .second, .val (.long ((p1 &&& (9223372036854775807 : Int64)) - ((p1 &&& (9223372036854775807 : Int64)) / mm) * mm)), .second, .unset, .unset, .unset, .unset, .unset, .unset, .unset] [])) (fun _ k => (XS.lstore X0.here hx rfl (hb hby at_26) rfl (l' := #[.val (.long p0), .second, .val (.long p1), .second, .val (.long p2), .second, .val (.long mm), .second, .val (.long ((p1 &&& (9223372036854775807 : Int64)) - ((p1 &&& (9223372036854775807 : Int64)) / mm) * mm)), .second, .unset, .unset, .unset, .unset, .unset, .unset, .unset]) rfl k)) ?_
    generalize h_aa : ((p1 &&& (9223372036854775807 : Int64)) - ((p1 &&& (9223372036854775807 : Int64)) / mm) * mm) = aa
    have haa : 0 ≤ aa.toInt ∧ aa.toInt ≤ mm.toInt := by rw [← h_aa]; exact own_rem (own_and64 _ _ (by decide)) (own_pos hm hc1)
    refine OGoW.st (T' := s₁) (g' := (mkF m 35 #[.val (.long p0), .second, .val (.long p1), .second, .val (.long p2), .second, .val (.long mm), .second, .val (.long aa), .second, .val (.long (mm - aa)), .second, .unset, .unset, .unset, .unset, .unset] [])) (fun _ k => (XS.lload X0.here hx rfl (hb hby at_28) rfl (XS.lload X0.here hx rfl (hb hby at_30) rfl (XS.lsub X0.here hx rfl (hb hby at_32) rfl (XS.lstore X0.here hx rfl (hb hby at_33) rfl (l' := #[.val (.long p0), .second, .val (.long p1), .second, .val (.long p2), .second, .val (.long mm), .second, .val (.long aa), .second, .val (.long (mm - aa)), .second, .unset, .unset, .unset, .unset, .unset]) rfl k))))) ?_
    generalize h_rr : (mm - aa) = rr
    have hr : rr.toInt = mm.toInt - aa.toInt := by rw [← h_rr]; exact own_subJ (by have := own_top63 mm; omega) (by have := own_top63 mm; omega)
    have hr0 : 0 ≤ rr.toInt := by omega
    refine OGoW.st (T' := s₁) (g' := (mkF m 39 #[.val (.long p0), .second, .val (.long p1), .second, .val (.long p2), .second, .val (.long mm), .second, .val (.long aa), .second, .val (.long rr), .second, .unset, .unset, .unset, .unset, .unset] [(.int (lcmpW rr (0 : Int64)))])) (fun _ k => (XS.lload X0.here hx rfl (hb hby at_35) rfl (XS.lconst X0.here hx rfl (hb hby at_37) (XS.lcmp X0.here hx rfl (hb hby at_38) rfl k)))) ?_
    by_cases hc17 : rr = (0 : Int64)
    · refine OGoW.st (T' := s₁) (g' := (mkF m 57 #[.val (.long p0), .second, .val (.long p1), .second, .val (.long p2), .second, .val (.long mm), .second, .val (.long aa), .second, .val (.long rr), .second, .val (.long (0 : Int64)), .second, .unset, .unset, .unset] [])) (fun _ k => (XS.ifNo X0.here hx rfl (hb hby at_39) rfl ((if0 _ _).trans (teq ((lw_eq rr (0 : Int64)).mpr hc17)).2) (XS.lconst X0.here hx rfl (hb hby at_42) (XS.goto X0.here hx rfl (pc0 := 43) (pc' := 55) rfl (hb hby at_43) (by decide) (by decide) (XS.lstore X0.here hx rfl (hb hby at_55) rfl (l' := #[.val (.long p0), .second, .val (.long p1), .second, .val (.long p2), .second, .val (.long mm), .second, .val (.long aa), .second, .val (.long rr), .second, .val (.long (0 : Int64)), .second, .unset, .unset, .unset]) rfl k))))) ?_
      generalize h_bb : (0 : Int64) = bb
      have hbb : 0 ≤ bb.toInt ∧ bb.toInt ≤ rr.toInt := by rw [← h_bb]; exact ⟨by decide, hr0⟩
      refine OGoW.st (T' := s₁) (g' := (mkF m 64 #[.val (.long p0), .second, .val (.long p1), .second, .val (.long p2), .second, .val (.long mm), .second, .val (.long aa), .second, .val (.long rr), .second, .val (.long bb), .second, .val (.long (rr - bb)), .second, .unset] [])) (fun _ k => (XS.lload X0.here hx rfl (hb hby at_57) rfl (XS.lload X0.here hx rfl (hb hby at_59) rfl (XS.lsub X0.here hx rfl (hb hby at_61) rfl (XS.lstore X0.here hx rfl (hb hby at_62) rfl (l' := #[.val (.long p0), .second, .val (.long p1), .second, .val (.long p2), .second, .val (.long mm), .second, .val (.long aa), .second, .val (.long rr), .second, .val (.long bb), .second, .val (.long (rr - bb)), .second, .unset]) rfl k))))) ?_
      generalize h_cc : (rr - bb) = cc
      have hcc : cc.toInt = rr.toInt - bb.toInt := by rw [← h_cc]; exact own_subJ (by have := own_top63 rr; omega) (by have := own_top63 rr; omega)
      have B : own_B mm aa bb cc := ⟨haa.1, hbb.1, by omega, by omega⟩
      obtain ⟨T18, h18, X18, e18, E18, A18, D18, -, st18⟩ := newO X0 hx hZ hown (hw _ (List.mem_of_getElem? (i := 1) rfl)) (hw _ (List.mem_of_getElem? (i := 2) rfl)) (hw _ (List.mem_of_getElem? (i := 3) rfl)) e0 (g := (mkF m 64 #[.val (.long p0), .second, .val (.long p1), .second, .val (.long p2), .second, .val (.long mm), .second, .val (.long aa), .second, .val (.long rr), .second, .val (.long bb), .second, .val (.long cc), .second, .unset] [])) rfl (hb hby at_64) (by decide) (by decide)
      obtain ⟨b18, g18⟩ : ∃ z, z = h0.size := ⟨_, rfl⟩
      rw [← g18] at A18 D18 st18
      have g_b18 : n0 ≤ b18 := Nat.le_trans Z0 (Nat.le_of_eq g18.symm)
      have F_most_b18_18 : Fld Z h18 b18 "com/example/urd/urd/StepLimit" "most" "J" (.long (0 : Int64)) := D18 (Or.inr (hw _ (List.mem_of_getElem? (i := 19) rfl))) (ty := .long) (by decide)
      have F_refusal_b18_18 : Fld Z h18 b18 "com/example/urd/urd/StepLimit" "refusal" "Ljava/lang/String;" .null := D18 (Or.inr (hw _ (List.mem_of_getElem? (i := 21) rfl))) (ty := (.object "java/lang/String")) (by decide)
      have F_steps_b18_18 : Fld Z h18 b18 "com/example/urd/urd/StepLimit" "steps" "J" (.long (0 : Int64)) := D18 (Or.inl (hw _ (List.mem_of_getElem? (i := 28) rfl))) (ty := .long) (by decide)
      have Zn18 : n0 ≤ h18.size := Nat.le_trans Z0 E18.1
      have X18 : Stand p l e room_1 _ m _ below meth c T18 _ 1 3 := X18
      refine OGoW.st (T' := T18) (g' := (mkF m 67 #[.val (.long p0), .second, .val (.long p1), .second, .val (.long p2), .second, .val (.long mm), .second, .val (.long aa), .second, .val (.long rr), .second, .val (.long bb), .second, .val (.long cc), .second, .unset] [(.ref b18)])) (fun _ k => st18 _ k) ?_
      refine OGoW.st (T' := T18) (g' := (mkF m 70 #[.val (.long p0), .second, .val (.long p1), .second, .val (.long p2), .second, .val (.long mm), .second, .val (.long aa), .second, .val (.long rr), .second, .val (.long bb), .second, .val (.long cc), .second, .unset] [(.long mm), (.ref b18), (.ref b18)])) (fun _ k => (XS.dup X18.here hx rfl (hb hby at_67) rfl rfl (XS.lload X18.here hx rfl (hb hby at_68) rfl k))) ?_
      obtain ⟨b19, T19, h19, kS19, X19, e19, E19, Si19, hk19, hZ, hown, st19⟩ := ldcS (vm0 := s.vm) X18 hx hZ hown (hw _ (List.mem_of_getElem? (i := 4) rfl)) (fun a ha => hw a (own_strings a ha)) e18 ((State.WarmedH.refl s).since 0) (Nat.zero_le _) (g := (mkF m 70 #[.val (.long p0), .second, .val (.long p1), .second, .val (.long p2), .second, .val (.long mm), .second, .val (.long aa), .second, .val (.long rr), .second, .val (.long bb), .second, .val (.long cc), .second, .unset] [(.long mm), (.ref b18), (.ref b18)])) rfl (hb hby at_70) (n := 56) (by decide) (by decide) (by decide) (by decide)
      have A18_19 : Exa Z h19 b18 "com/example/urd/urd/StepLimit" := A18.ext E19
      have F_most_b18_19 : Fld Z h19 b18 "com/example/urd/urd/StepLimit" "most" "J" (.long (0 : Int64)) := F_most_b18_18.ext E19
      have F_refusal_b18_19 : Fld Z h19 b18 "com/example/urd/urd/StepLimit" "refusal" "Ljava/lang/String;" .null := F_refusal_b18_18.ext E19
      have F_steps_b18_19 : Fld Z h19 b18 "com/example/urd/urd/StepLimit" "steps" "J" (.long (0 : Int64)) := F_steps_b18_18.ext E19
      have Zn19 : n0 ≤ h19.size := Nat.le_trans Zn18 E19.1
      have X19 : Stand p l e room_1 _ m _ below meth c T19 _ 3 63 := X19
      refine OGoW.st (T' := T19) (g' := (mkF m 72 #[.val (.long p0), .second, .val (.long p1), .second, .val (.long p2), .second, .val (.long mm), .second, .val (.long aa), .second, .val (.long rr), .second, .val (.long bb), .second, .val (.long cc), .second, .unset] [(.ref b19), (.long mm), (.ref b18), (.ref b18)])) (fun _ k => st19 _ k) ?_
      obtain ⟨_, _, ⟨T20, L20, k20, n20⟩, -, X20, ⟨Lc20, hQ20, l20, y20, z20⟩, st20⟩ := X19.specialBack hx (y := (⟨"com/example/urd/urd/StepLimit", "<init>", "(JLjava/lang/String;)V"⟩ : MethodName)) rfl hown (mvT hZ (hw _ (List.mem_of_getElem? (i := 12) rfl))) (mvT hZ (hw _ (List.mem_of_getElem? (i := 13) rfl))) (mvT hZ (hw _ (List.mem_of_getElem? (i := 14) rfl))) (by decide) (backOf (W := 1) (rmI l Z a0 hw [] (b18) ((0 : Int64)) (.null) ((0 : Int64)) (mm) (b19) h19 n0 Zn19 (A18_19) (F_most_b18_19) (F_refusal_b18_19) (F_steps_b18_19) (g_b18)) hZ (hw _ (List.mem_of_getElem? (i := 14) rfl)) (hw _ (List.mem_of_getElem? (i := 3) rfl)) (by decide) (by decide)) (g := (mkF m 72 #[.val (.long p0), .second, .val (.long p1), .second, .val (.long p2), .second, .val (.long mm), .second, .val (.long aa), .second, .val (.long rr), .second, .val (.long bb), .second, .val (.long cc), .second, .unset] [(.ref b19), (.long mm), (.ref b18), (.ref b18)])) rfl (by rw [hml]; rfl) (Steps.refl _) (a := b18) (argsL := [(.long mm), (.ref b19)]) (rest := [(.ref b18)]) (lenOf own_pd3 rfl) rfl (by show 2 * 0 + _ ≤ _; exact Nat.le_of_eq rfl) (hb hby at_72) (fun _ _ => ⟨rfl, e19, (by decide : 3 + 0 ≤ _), (by decide : 63 + 0 ≤ _)⟩)
      dsimp only [Pt.U, Pt.locs, Pt.cells, Pt.slots] at X20 l20 y20 z20 st20 hQ20
      subst l20 y20 z20
      have X20 : Stand p l e room_1 _ m _ below meth c T20 _ 3 63 := X20
      obtain ⟨h20, e20⟩ : ∃ z, T20.heap = z := ⟨_, rfl⟩
      rw [e20] at hQ20
      obtain ⟨rfl, Nq20, Kc20, G20x0, G20x1, G20x2⟩ := hQ20
      have N20 := Fr.app N0 Nq20
      have A18_20 : Exa Z h20 b18 "com/example/urd/urd/StepLimit" := A18_19.keep Kc20
      have hk19_20 : kS19 ≤ h20.size := Nat.le_trans hk19 Kc20.1
      have Zn20 : n0 ≤ h20.size := Nat.le_trans Zn19 Kc20.1
      refine OGoW.st (T' := T20) (g' := (mkF m 75 #[.val (.long p0), .second, .val (.long p1), .second, .val (.long p2), .second, .val (.long mm), .second, .val (.long aa), .second, .val (.long rr), .second, .val (.long bb), .second, .val (.long cc), .second, .unset] [(.ref b18)])) (fun _ k => st20.trans k) ?_
      refine OGoW.st (T' := T20) (g' := (mkF m 81 #[.val (.long p0), .second, .val (.long p1), .second, .val (.long p2), .second, .val (.long mm), .second, .val (.long aa), .second, .val (.long rr), .second, .val (.long bb), .second, .val (.long cc), .second, .val (.ref b18)] [(.long aa), (.ref b18)])) (fun _ k => (XS.astore X20.here hx rfl (hb hby at_75) rfl rfl (l' := #[.val (.long p0), .second, .val (.long p1), .second, .val (.long p2), .second, .val (.long mm), .second, .val (.long aa), .second, .val (.long rr), .second, .val (.long bb), .second, .val (.long cc), .second, .val (.ref b18)]) rfl (XS.aload X20.here hx rfl (hb hby at_77) rfl rfl (XS.lload X20.here hx rfl (hb hby at_79) rfl k)))) ?_
      obtain ⟨cq21, kq21, q21a, q21b, q21c⟩ := isOf hZ e20 A18_20
      obtain ⟨_, _, ⟨T21, L21, k21, n21⟩, -, X21, ⟨Lc21, hQ21, l21, y21, z21⟩, st21⟩ := X20.virtualBack hx (y := (⟨"com/example/urd/urd/StepLimit", "count", "(J)V"⟩ : MethodName)) (z := (⟨"com/example/urd/urd/StepLimit", "count", "(J)V"⟩ : MethodName)) hown (mvT hZ (hw _ (List.mem_of_getElem? (i := 22) rfl))) (mvT hZ (hw _ (List.mem_of_getElem? (i := 23) rfl))) (notFace_of_selects (args := #[]) (mvT hZ (hw _ (List.mem_of_getElem? (i := 25) rfl)))) (mvT hZ (hw _ (List.mem_of_getElem? (i := 25) rfl))) (mvT hZ (hw _ (List.mem_of_getElem? (i := 24) rfl))) (by decide) (backOf (W := 0) (rmC l Z a0 hw [] (b18) (mm) ((0 : Int64)) (aa) h20 n0 Zn20 (A18_20) (G20x0) (G20x2) (g_b18) (own_c1 B)) hZ (hw _ (List.mem_of_getElem? (i := 26) rfl)) (hw _ (List.mem_of_getElem? (i := 3) rfl)) (by decide) (by decide)) q21a q21c (g := (mkF m 81 #[.val (.long p0), .second, .val (.long p1), .second, .val (.long p2), .second, .val (.long mm), .second, .val (.long aa), .second, .val (.long rr), .second, .val (.long bb), .second, .val (.long cc), .second, .val (.ref b18)] [(.long aa), (.ref b18)])) rfl (by rw [hml]; rfl) (Steps.refl _) (argsL := [(.long aa)]) (rest := []) (lenOf own_pd1 rfl) rfl (by show 2 * 0 + _ ≤ _; exact Nat.le_of_eq rfl) (hb hby at_81) (fun _ _ => ⟨rfl, e20, (by decide : 3 + 0 ≤ _), (by decide : 63 + 0 ≤ _)⟩)
      dsimp only [Pt.U, Pt.locs, Pt.cells, Pt.slots] at X21 l21 y21 z21 st21 hQ21
      subst l21 y21 z21
      have X21 : Stand p l e room_1 _ m _ below meth c T21 _ 3 63 := X21
      obtain ⟨h21, e21⟩ : ∃ z, T21.heap = z := ⟨_, rfl⟩
      rw [e21] at hQ21
      obtain ⟨rfl, Nq21, Kc21, G21x0, G21x1⟩ := hQ21
      have N21 := Fr.app N20 Nq21
      have A18_21 : Exa Z h21 b18 "com/example/urd/urd/StepLimit" := A18_20.keep Kc21
      have hk19_21 : kS19 ≤ h21.size := Nat.le_trans hk19_20 Kc21.1
      have Zn21 : n0 ≤ h21.size := Nat.le_trans Zn20 Kc21.1
      refine OGoW.st (T' := T21) (g' := (mkF m 84 #[.val (.long p0), .second, .val (.long p1), .second, .val (.long p2), .second, .val (.long mm), .second, .val (.long aa), .second, .val (.long rr), .second, .val (.long bb), .second, .val (.long cc), .second, .val (.ref b18)] [])) (fun _ k => st21.trans k) ?_
      refine OGoW.st (T' := T21) (g' := (mkF m 88 #[.val (.long p0), .second, .val (.long p1), .second, .val (.long p2), .second, .val (.long mm), .second, .val (.long aa), .second, .val (.long rr), .second, .val (.long bb), .second, .val (.long cc), .second, .val (.ref b18)] [(.long bb), (.ref b18)])) (fun _ k => (XS.aload X21.here hx rfl (hb hby at_84) rfl rfl (XS.lload X21.here hx rfl (hb hby at_86) rfl k))) ?_
      obtain ⟨cq22, kq22, q22a, q22b, q22c⟩ := isOf hZ e21 A18_21
      obtain ⟨_, _, ⟨T22, L22, k22, n22⟩, -, X22, ⟨Lc22, hQ22, l22, y22, z22⟩, st22⟩ := X21.virtualBack hx (y := (⟨"com/example/urd/urd/StepLimit", "count", "(J)V"⟩ : MethodName)) (z := (⟨"com/example/urd/urd/StepLimit", "count", "(J)V"⟩ : MethodName)) hown (mvT hZ (hw _ (List.mem_of_getElem? (i := 22) rfl))) (mvT hZ (hw _ (List.mem_of_getElem? (i := 23) rfl))) (notFace_of_selects (args := #[]) (mvT hZ (hw _ (List.mem_of_getElem? (i := 25) rfl)))) (mvT hZ (hw _ (List.mem_of_getElem? (i := 25) rfl))) (mvT hZ (hw _ (List.mem_of_getElem? (i := 24) rfl))) (by decide) (backOf (W := 0) (rmC l Z a0 hw [] (b18) (mm) (((0 : Int64) + aa)) (bb) h21 n0 Zn21 (A18_21) (G21x0) (G21x1) (g_b18) (own_c2 B)) hZ (hw _ (List.mem_of_getElem? (i := 26) rfl)) (hw _ (List.mem_of_getElem? (i := 3) rfl)) (by decide) (by decide)) q22a q22c (g := (mkF m 88 #[.val (.long p0), .second, .val (.long p1), .second, .val (.long p2), .second, .val (.long mm), .second, .val (.long aa), .second, .val (.long rr), .second, .val (.long bb), .second, .val (.long cc), .second, .val (.ref b18)] [(.long bb), (.ref b18)])) rfl (by rw [hml]; rfl) (Steps.refl _) (argsL := [(.long bb)]) (rest := []) (lenOf own_pd1 rfl) rfl (by show 2 * 0 + _ ≤ _; exact Nat.le_of_eq rfl) (hb hby at_88) (fun _ _ => ⟨rfl, e21, (by decide : 3 + 0 ≤ _), (by decide : 63 + 0 ≤ _)⟩)
      dsimp only [Pt.U, Pt.locs, Pt.cells, Pt.slots] at X22 l22 y22 z22 st22 hQ22
      subst l22 y22 z22
      have X22 : Stand p l e room_1 _ m _ below meth c T22 _ 3 63 := X22
      obtain ⟨h22, e22⟩ : ∃ z, T22.heap = z := ⟨_, rfl⟩
      rw [e22] at hQ22
      obtain ⟨rfl, Nq22, Kc22, G22x0, G22x1⟩ := hQ22
      have N22 := Fr.app N21 Nq22
      have A18_22 : Exa Z h22 b18 "com/example/urd/urd/StepLimit" := A18_21.keep Kc22
      have hk19_22 : kS19 ≤ h22.size := Nat.le_trans hk19_21 Kc22.1
      have Zn22 : n0 ≤ h22.size := Nat.le_trans Zn21 Kc22.1
      refine OGoW.st (T' := T22) (g' := (mkF m 91 #[.val (.long p0), .second, .val (.long p1), .second, .val (.long p2), .second, .val (.long mm), .second, .val (.long aa), .second, .val (.long rr), .second, .val (.long bb), .second, .val (.long cc), .second, .val (.ref b18)] [])) (fun _ k => st22.trans k) ?_
      refine OGoW.st (T' := T22) (g' := (mkF m 95 #[.val (.long p0), .second, .val (.long p1), .second, .val (.long p2), .second, .val (.long mm), .second, .val (.long aa), .second, .val (.long rr), .second, .val (.long bb), .second, .val (.long cc), .second, .val (.ref b18)] [(.long cc), (.ref b18)])) (fun _ k => (XS.aload X22.here hx rfl (hb hby at_91) rfl rfl (XS.lload X22.here hx rfl (hb hby at_93) rfl k))) ?_
      obtain ⟨cq23, kq23, q23a, q23b, q23c⟩ := isOf hZ e22 A18_22
      obtain ⟨_, _, ⟨T23, L23, k23, n23⟩, -, X23, ⟨Lc23, hQ23, l23, y23, z23⟩, st23⟩ := X22.virtualBack hx (y := (⟨"com/example/urd/urd/StepLimit", "count", "(J)V"⟩ : MethodName)) (z := (⟨"com/example/urd/urd/StepLimit", "count", "(J)V"⟩ : MethodName)) hown (mvT hZ (hw _ (List.mem_of_getElem? (i := 22) rfl))) (mvT hZ (hw _ (List.mem_of_getElem? (i := 23) rfl))) (notFace_of_selects (args := #[]) (mvT hZ (hw _ (List.mem_of_getElem? (i := 25) rfl)))) (mvT hZ (hw _ (List.mem_of_getElem? (i := 25) rfl))) (mvT hZ (hw _ (List.mem_of_getElem? (i := 24) rfl))) (by decide) (backOf (W := 0) (rmC l Z a0 hw [] (b18) (mm) ((((0 : Int64) + aa) + bb)) (cc) h22 n0 Zn22 (A18_22) (G22x0) (G22x1) (g_b18) (own_c3 B)) hZ (hw _ (List.mem_of_getElem? (i := 26) rfl)) (hw _ (List.mem_of_getElem? (i := 3) rfl)) (by decide) (by decide)) q23a q23c (g := (mkF m 95 #[.val (.long p0), .second, .val (.long p1), .second, .val (.long p2), .second, .val (.long mm), .second, .val (.long aa), .second, .val (.long rr), .second, .val (.long bb), .second, .val (.long cc), .second, .val (.ref b18)] [(.long cc), (.ref b18)])) rfl (by rw [hml]; rfl) (Steps.refl _) (argsL := [(.long cc)]) (rest := []) (lenOf own_pd1 rfl) rfl (by show 2 * 0 + _ ≤ _; exact Nat.le_of_eq rfl) (hb hby at_95) (fun _ _ => ⟨rfl, e22, (by decide : 3 + 0 ≤ _), (by decide : 63 + 0 ≤ _)⟩)
      dsimp only [Pt.U, Pt.locs, Pt.cells, Pt.slots] at X23 l23 y23 z23 st23 hQ23
      subst l23 y23 z23
      have X23 : Stand p l e room_1 _ m _ below meth c T23 _ 3 63 := X23
      obtain ⟨h23, e23⟩ : ∃ z, T23.heap = z := ⟨_, rfl⟩
      rw [e23] at hQ23
      obtain ⟨rfl, Nq23, Kc23, G23x0, G23x1⟩ := hQ23
      have N23 := Fr.app N22 Nq23
      have A18_23 : Exa Z h23 b18 "com/example/urd/urd/StepLimit" := A18_22.keep Kc23
      have hk19_23 : kS19 ≤ h23.size := Nat.le_trans hk19_22 Kc23.1
      have Zn23 : n0 ≤ h23.size := Nat.le_trans Zn22 Kc23.1
      refine OGoW.st (T' := T23) (g' := (mkF m 98 #[.val (.long p0), .second, .val (.long p1), .second, .val (.long p2), .second, .val (.long mm), .second, .val (.long aa), .second, .val (.long rr), .second, .val (.long bb), .second, .val (.long cc), .second, .val (.ref b18)] [])) (fun _ k => st23.trans k) ?_
      refine OGoW.st (T' := T23) (g' := (mkF m 101 #[.val (.long p0), .second, .val (.long p1), .second, .val (.long p2), .second, .val (.long mm), .second, .val (.long aa), .second, .val (.long rr), .second, .val (.long bb), .second, .val (.long cc), .second, .val (.ref b18)] [(.long (0 : Int64)), (.ref b18)])) (fun _ k => (XS.aload X23.here hx rfl (hb hby at_98) rfl rfl (XS.lconst X23.here hx rfl (hb hby at_100) k))) ?_
      obtain ⟨cq24, kq24, q24a, q24b, q24c⟩ := isOf hZ e23 A18_23
      obtain ⟨_, _, ⟨T24, L24, k24, n24⟩, -, X24, ⟨Lc24, hQ24, l24, y24, z24⟩, st24⟩ := X23.virtualBack hx (y := (⟨"com/example/urd/urd/StepLimit", "count", "(J)V"⟩ : MethodName)) (z := (⟨"com/example/urd/urd/StepLimit", "count", "(J)V"⟩ : MethodName)) hown (mvT hZ (hw _ (List.mem_of_getElem? (i := 22) rfl))) (mvT hZ (hw _ (List.mem_of_getElem? (i := 23) rfl))) (notFace_of_selects (args := #[]) (mvT hZ (hw _ (List.mem_of_getElem? (i := 25) rfl)))) (mvT hZ (hw _ (List.mem_of_getElem? (i := 25) rfl))) (mvT hZ (hw _ (List.mem_of_getElem? (i := 24) rfl))) (by decide) (backOf (W := 0) (rmC l Z a0 hw [] (b18) (mm) (((((0 : Int64) + aa) + bb) + cc)) ((0 : Int64)) h23 n0 Zn23 (A18_23) (G23x0) (G23x1) (g_b18) (own_c4 B)) hZ (hw _ (List.mem_of_getElem? (i := 26) rfl)) (hw _ (List.mem_of_getElem? (i := 3) rfl)) (by decide) (by decide)) q24a q24c (g := (mkF m 101 #[.val (.long p0), .second, .val (.long p1), .second, .val (.long p2), .second, .val (.long mm), .second, .val (.long aa), .second, .val (.long rr), .second, .val (.long bb), .second, .val (.long cc), .second, .val (.ref b18)] [(.long (0 : Int64)), (.ref b18)])) rfl (by rw [hml]; rfl) (Steps.refl _) (argsL := [(.long (0 : Int64))]) (rest := []) (lenOf own_pd1 rfl) rfl (by show 2 * 0 + _ ≤ _; exact Nat.le_of_eq rfl) (hb hby at_101) (fun _ _ => ⟨rfl, e23, (by decide : 3 + 0 ≤ _), (by decide : 63 + 0 ≤ _)⟩)
      dsimp only [Pt.U, Pt.locs, Pt.cells, Pt.slots] at X24 l24 y24 z24 st24 hQ24
      subst l24 y24 z24
      have X24 : Stand p l e room_1 _ m _ below meth c T24 _ 3 63 := X24
      obtain ⟨h24, e24⟩ : ∃ z, T24.heap = z := ⟨_, rfl⟩
      rw [e24] at hQ24
      obtain ⟨rfl, Nq24, Kc24, G24x0, G24x1⟩ := hQ24
      have N24 := Fr.app N23 Nq24
      have A18_24 : Exa Z h24 b18 "com/example/urd/urd/StepLimit" := A18_23.keep Kc24
      have hk19_24 : kS19 ≤ h24.size := Nat.le_trans hk19_23 Kc24.1
      have Zn24 : n0 ≤ h24.size := Nat.le_trans Zn23 Kc24.1
      refine OGoW.st (T' := T24) (g' := (mkF m 104 #[.val (.long p0), .second, .val (.long p1), .second, .val (.long p2), .second, .val (.long mm), .second, .val (.long aa), .second, .val (.long rr), .second, .val (.long bb), .second, .val (.long cc), .second, .val (.ref b18)] [])) (fun _ k => st24.trans k) ?_
      refine OGoW.st (T' := T24) (g' := (mkF m 114 #[.val (.long p0), .second, .val (.long p1), .second, .val (.long p2), .second, .val (.long mm), .second, .val (.long aa), .second, .val (.long rr), .second, .val (.long bb), .second, .val (.long cc), .second, .val (.ref b18)] [(.long (0 : Int64)), (.long bb)])) (fun _ k => (XS.lload X24.here hx rfl (hb hby at_104) rfl (XS.lconst X24.here hx rfl (hb hby at_106) (XS.lcmp X24.here hx rfl (hb hby at_107) rfl (XS.ifNo X24.here hx rfl (hb hby at_108) rfl ((if0 _ _).trans (flt (fun q => ((own_nn B.1)) ((lw_lt aa (0 : Int64)).mp q))).1) (XS.lload X24.here hx rfl (hb hby at_111) rfl (XS.lconst X24.here hx rfl (hb hby at_113) k))))))) ?_
      refine OGoW.st (T' := T24) (g' := (mkF m 125 #[.val (.long p0), .second, .val (.long p1), .second, .val (.long p2), .second, .val (.long mm), .second, .val (.long aa), .second, .val (.long rr), .second, .val (.long bb), .second, .val (.long cc), .second, .val (.ref b18)] [])) (fun _ k => (XS.lcmp X24.here hx rfl (hb hby at_114) rfl (XS.ifNo X24.here hx rfl (hb hby at_115) rfl ((if0 _ _).trans (flt (fun q => ((own_nn B.2.1)) ((lw_lt bb (0 : Int64)).mp q))).1) (XS.lload X24.here hx rfl (hb hby at_118) rfl (XS.lconst X24.here hx rfl (hb hby at_120) (XS.lcmp X24.here hx rfl (hb hby at_121) rfl (XS.ifNo X24.here hx rfl (hb hby at_122) rfl ((if0 _ _).trans (flt (fun q => ((own_nn B.2.2.1)) ((lw_lt cc (0 : Int64)).mp q))).1) k))))))) ?_
      refine OGoW.st (T' := T24) (g' := (mkF m 135 #[.val (.long p0), .second, .val (.long p1), .second, .val (.long p2), .second, .val (.long mm), .second, .val (.long aa), .second, .val (.long rr), .second, .val (.long bb), .second, .val (.long cc), .second, .val (.ref b18)] [(.long mm), (.long ((aa + bb) + cc))])) (fun _ k => (XS.lload X24.here hx rfl (hb hby at_125) rfl (XS.lload X24.here hx rfl (hb hby at_127) rfl (XS.ladd X24.here hx rfl (hb hby at_129) rfl (XS.lload X24.here hx rfl (hb hby at_130) rfl (XS.ladd X24.here hx rfl (hb hby at_132) rfl (XS.lload X24.here hx rfl (hb hby at_133) rfl k))))))) ?_
      refine OGoW.st (T' := T24) (g' := (mkF m 144 #[.val (.long p0), .second, .val (.long p1), .second, .val (.long p2), .second, .val (.long mm), .second, .val (.long aa), .second, .val (.long rr), .second, .val (.long bb), .second, .val (.long cc), .second, .val (.ref b18)] [(.int (1 : Int32))])) (fun _ k => (XS.lcmp X24.here hx rfl (hb hby at_135) rfl (XS.ifNo X24.here hx rfl (hb hby at_136) rfl ((if0 _ _).trans (teq ((lw_eq ((aa + bb) + cc) mm).mpr (own_s B))).2) (XS.iconst X24.here hx rfl (hb hby at_139) (XS.goto X24.here hx rfl (pc0 := 140) (pc' := 144) rfl (hb hby at_140) (by decide) (by decide) k))))) ?_
      exact OGoW.ret X24 Si19 hk19_24 hx hlk Bd.returns rfl (own_rI (Or.inr (Or.inl rfl))) (hb hby at_144) (by decide) (by decide) e24 (⟨rfl, N24⟩)
    · refine OGoW.st (T' := s₁) (g' := (mkF m 55 #[.val (.long p0), .second, .val (.long p1), .second, .val (.long p2), .second, .val (.long mm), .second, .val (.long aa), .second, .val (.long rr), .second, .unset, .unset, .unset, .unset, .unset] [(.long ((p2 &&& (9223372036854775807 : Int64)) - ((p2 &&& (9223372036854775807 : Int64)) / rr) * rr))])) (fun _ k => (XS.ifYes X0.here hx rfl (pc0 := 39) (pc' := 46) rfl (hb hby at_39) rfl ((if0 _ _).trans (feq (fun q => (hc17) ((lw_eq rr (0 : Int64)).mp q))).2) (by decide) (by decide) (XS.lload X0.here hx rfl (hb hby at_46) rfl (X0.ldc2Long hx hown (mvT hZ (hw _ (List.mem_of_getElem? (i := 0) rfl))) (g := (mkF m 48 #[.val (.long p0), .second, .val (.long p1), .second, .val (.long p2), .second, .val (.long mm), .second, .val (.long aa), .second, .val (.long rr), .second, .unset, .unset, .unset, .unset, .unset] [(.long p2)])) rfl (hb hby at_48) _ (XS.land X0.here hx rfl (hb hby at_51) rfl (XS.lload X0.here hx rfl (hb hby at_52) rfl (XS.lrem X0.here hx rfl (hb hby at_54) rfl hc17 k))))))) ?_
      refine OGoW.st (T' := s₁) (g' := (mkF m 57 #[.val (.long p0), .second, .val (.long p1), .second, .val (.long p2), .second, .val (.long mm), .second, .val (.long aa), .second, .val (.long rr), .second, .val (.long ((p2 &&& (9223372036854775807 : Int64)) - ((p2 &&& (9223372036854775807 : Int64)) / rr) * rr)), .second, .unset, .unset, .unset] [])) (fun _ k => (XS.lstore X0.here hx rfl (hb hby at_55) rfl (l' := #[.val (.long p0), .second, .val (.long p1), .second, .val (.long p2), .second, .val (.long mm), .second, .val (.long aa), .second, .val (.long rr), .second, .val (.long ((p2 &&& (9223372036854775807 : Int64)) - ((p2 &&& (9223372036854775807 : Int64)) / rr) * rr)), .second, .unset, .unset, .unset]) rfl k)) ?_
      generalize h_bb : ((p2 &&& (9223372036854775807 : Int64)) - ((p2 &&& (9223372036854775807 : Int64)) / rr) * rr) = bb
      have hbb : 0 ≤ bb.toInt ∧ bb.toInt ≤ rr.toInt := by rw [← h_bb]; exact own_rem (own_and64 _ _ (by decide)) (own_pos hr0 hc17)
      refine OGoW.st (T' := s₁) (g' := (mkF m 64 #[.val (.long p0), .second, .val (.long p1), .second, .val (.long p2), .second, .val (.long mm), .second, .val (.long aa), .second, .val (.long rr), .second, .val (.long bb), .second, .val (.long (rr - bb)), .second, .unset] [])) (fun _ k => (XS.lload X0.here hx rfl (hb hby at_57) rfl (XS.lload X0.here hx rfl (hb hby at_59) rfl (XS.lsub X0.here hx rfl (hb hby at_61) rfl (XS.lstore X0.here hx rfl (hb hby at_62) rfl (l' := #[.val (.long p0), .second, .val (.long p1), .second, .val (.long p2), .second, .val (.long mm), .second, .val (.long aa), .second, .val (.long rr), .second, .val (.long bb), .second, .val (.long (rr - bb)), .second, .unset]) rfl k))))) ?_
      generalize h_cc : (rr - bb) = cc
      have hcc : cc.toInt = rr.toInt - bb.toInt := by rw [← h_cc]; exact own_subJ (by have := own_top63 rr; omega) (by have := own_top63 rr; omega)
      have B : own_B mm aa bb cc := ⟨haa.1, hbb.1, by omega, by omega⟩
      obtain ⟨T25, h25, X25, e25, E25, A25, D25, -, st25⟩ := newO X0 hx hZ hown (hw _ (List.mem_of_getElem? (i := 1) rfl)) (hw _ (List.mem_of_getElem? (i := 2) rfl)) (hw _ (List.mem_of_getElem? (i := 3) rfl)) e0 (g := (mkF m 64 #[.val (.long p0), .second, .val (.long p1), .second, .val (.long p2), .second, .val (.long mm), .second, .val (.long aa), .second, .val (.long rr), .second, .val (.long bb), .second, .val (.long cc), .second, .unset] [])) rfl (hb hby at_64) (by decide) (by decide)
      obtain ⟨b25, g25⟩ : ∃ z, z = h0.size := ⟨_, rfl⟩
      rw [← g25] at A25 D25 st25
      have g_b25 : n0 ≤ b25 := Nat.le_trans Z0 (Nat.le_of_eq g25.symm)
      have F_most_b25_25 : Fld Z h25 b25 "com/example/urd/urd/StepLimit" "most" "J" (.long (0 : Int64)) := D25 (Or.inr (hw _ (List.mem_of_getElem? (i := 19) rfl))) (ty := .long) (by decide)
      have F_refusal_b25_25 : Fld Z h25 b25 "com/example/urd/urd/StepLimit" "refusal" "Ljava/lang/String;" .null := D25 (Or.inr (hw _ (List.mem_of_getElem? (i := 21) rfl))) (ty := (.object "java/lang/String")) (by decide)
      have F_steps_b25_25 : Fld Z h25 b25 "com/example/urd/urd/StepLimit" "steps" "J" (.long (0 : Int64)) := D25 (Or.inl (hw _ (List.mem_of_getElem? (i := 28) rfl))) (ty := .long) (by decide)
      have Zn25 : n0 ≤ h25.size := Nat.le_trans Z0 E25.1
      have X25 : Stand p l e room_1 _ m _ below meth c T25 _ 1 3 := X25
      refine OGoW.st (T' := T25) (g' := (mkF m 67 #[.val (.long p0), .second, .val (.long p1), .second, .val (.long p2), .second, .val (.long mm), .second, .val (.long aa), .second, .val (.long rr), .second, .val (.long bb), .second, .val (.long cc), .second, .unset] [(.ref b25)])) (fun _ k => st25 _ k) ?_
      refine OGoW.st (T' := T25) (g' := (mkF m 70 #[.val (.long p0), .second, .val (.long p1), .second, .val (.long p2), .second, .val (.long mm), .second, .val (.long aa), .second, .val (.long rr), .second, .val (.long bb), .second, .val (.long cc), .second, .unset] [(.long mm), (.ref b25), (.ref b25)])) (fun _ k => (XS.dup X25.here hx rfl (hb hby at_67) rfl rfl (XS.lload X25.here hx rfl (hb hby at_68) rfl k))) ?_
      obtain ⟨b26, T26, h26, kS26, X26, e26, E26, Si26, hk26, hZ, hown, st26⟩ := ldcS (vm0 := s.vm) X25 hx hZ hown (hw _ (List.mem_of_getElem? (i := 4) rfl)) (fun a ha => hw a (own_strings a ha)) e25 ((State.WarmedH.refl s).since 0) (Nat.zero_le _) (g := (mkF m 70 #[.val (.long p0), .second, .val (.long p1), .second, .val (.long p2), .second, .val (.long mm), .second, .val (.long aa), .second, .val (.long rr), .second, .val (.long bb), .second, .val (.long cc), .second, .unset] [(.long mm), (.ref b25), (.ref b25)])) rfl (hb hby at_70) (n := 56) (by decide) (by decide) (by decide) (by decide)
      have A25_26 : Exa Z h26 b25 "com/example/urd/urd/StepLimit" := A25.ext E26
      have F_most_b25_26 : Fld Z h26 b25 "com/example/urd/urd/StepLimit" "most" "J" (.long (0 : Int64)) := F_most_b25_25.ext E26
      have F_refusal_b25_26 : Fld Z h26 b25 "com/example/urd/urd/StepLimit" "refusal" "Ljava/lang/String;" .null := F_refusal_b25_25.ext E26
      have F_steps_b25_26 : Fld Z h26 b25 "com/example/urd/urd/StepLimit" "steps" "J" (.long (0 : Int64)) := F_steps_b25_25.ext E26
      have Zn26 : n0 ≤ h26.size := Nat.le_trans Zn25 E26.1
      have X26 : Stand p l e room_1 _ m _ below meth c T26 _ 3 63 := X26
      refine OGoW.st (T' := T26) (g' := (mkF m 72 #[.val (.long p0), .second, .val (.long p1), .second, .val (.long p2), .second, .val (.long mm), .second, .val (.long aa), .second, .val (.long rr), .second, .val (.long bb), .second, .val (.long cc), .second, .unset] [(.ref b26), (.long mm), (.ref b25), (.ref b25)])) (fun _ k => st26 _ k) ?_
      obtain ⟨_, _, ⟨T27, L27, k27, n27⟩, -, X27, ⟨Lc27, hQ27, l27, y27, z27⟩, st27⟩ := X26.specialBack hx (y := (⟨"com/example/urd/urd/StepLimit", "<init>", "(JLjava/lang/String;)V"⟩ : MethodName)) rfl hown (mvT hZ (hw _ (List.mem_of_getElem? (i := 12) rfl))) (mvT hZ (hw _ (List.mem_of_getElem? (i := 13) rfl))) (mvT hZ (hw _ (List.mem_of_getElem? (i := 14) rfl))) (by decide) (backOf (W := 1) (rmI l Z a0 hw [] (b25) ((0 : Int64)) (.null) ((0 : Int64)) (mm) (b26) h26 n0 Zn26 (A25_26) (F_most_b25_26) (F_refusal_b25_26) (F_steps_b25_26) (g_b25)) hZ (hw _ (List.mem_of_getElem? (i := 14) rfl)) (hw _ (List.mem_of_getElem? (i := 3) rfl)) (by decide) (by decide)) (g := (mkF m 72 #[.val (.long p0), .second, .val (.long p1), .second, .val (.long p2), .second, .val (.long mm), .second, .val (.long aa), .second, .val (.long rr), .second, .val (.long bb), .second, .val (.long cc), .second, .unset] [(.ref b26), (.long mm), (.ref b25), (.ref b25)])) rfl (by rw [hml]; rfl) (Steps.refl _) (a := b25) (argsL := [(.long mm), (.ref b26)]) (rest := [(.ref b25)]) (lenOf own_pd3 rfl) rfl (by show 2 * 0 + _ ≤ _; exact Nat.le_of_eq rfl) (hb hby at_72) (fun _ _ => ⟨rfl, e26, (by decide : 3 + 0 ≤ _), (by decide : 63 + 0 ≤ _)⟩)
      dsimp only [Pt.U, Pt.locs, Pt.cells, Pt.slots] at X27 l27 y27 z27 st27 hQ27
      subst l27 y27 z27
      have X27 : Stand p l e room_1 _ m _ below meth c T27 _ 3 63 := X27
      obtain ⟨h27, e27⟩ : ∃ z, T27.heap = z := ⟨_, rfl⟩
      rw [e27] at hQ27
      obtain ⟨rfl, Nq27, Kc27, G27x0, G27x1, G27x2⟩ := hQ27
      have N27 := Fr.app N0 Nq27
      have A25_27 : Exa Z h27 b25 "com/example/urd/urd/StepLimit" := A25_26.keep Kc27
      have hk26_27 : kS26 ≤ h27.size := Nat.le_trans hk26 Kc27.1
      have Zn27 : n0 ≤ h27.size := Nat.le_trans Zn26 Kc27.1
      refine OGoW.st (T' := T27) (g' := (mkF m 75 #[.val (.long p0), .second, .val (.long p1), .second, .val (.long p2), .second, .val (.long mm), .second, .val (.long aa), .second, .val (.long rr), .second, .val (.long bb), .second, .val (.long cc), .second, .unset] [(.ref b25)])) (fun _ k => st27.trans k) ?_
      refine OGoW.st (T' := T27) (g' := (mkF m 81 #[.val (.long p0), .second, .val (.long p1), .second, .val (.long p2), .second, .val (.long mm), .second, .val (.long aa), .second, .val (.long rr), .second, .val (.long bb), .second, .val (.long cc), .second, .val (.ref b25)] [(.long aa), (.ref b25)])) (fun _ k => (XS.astore X27.here hx rfl (hb hby at_75) rfl rfl (l' := #[.val (.long p0), .second, .val (.long p1), .second, .val (.long p2), .second, .val (.long mm), .second, .val (.long aa), .second, .val (.long rr), .second, .val (.long bb), .second, .val (.long cc), .second, .val (.ref b25)]) rfl (XS.aload X27.here hx rfl (hb hby at_77) rfl rfl (XS.lload X27.here hx rfl (hb hby at_79) rfl k)))) ?_
      obtain ⟨cq28, kq28, q28a, q28b, q28c⟩ := isOf hZ e27 A25_27
      obtain ⟨_, _, ⟨T28, L28, k28, n28⟩, -, X28, ⟨Lc28, hQ28, l28, y28, z28⟩, st28⟩ := X27.virtualBack hx (y := (⟨"com/example/urd/urd/StepLimit", "count", "(J)V"⟩ : MethodName)) (z := (⟨"com/example/urd/urd/StepLimit", "count", "(J)V"⟩ : MethodName)) hown (mvT hZ (hw _ (List.mem_of_getElem? (i := 22) rfl))) (mvT hZ (hw _ (List.mem_of_getElem? (i := 23) rfl))) (notFace_of_selects (args := #[]) (mvT hZ (hw _ (List.mem_of_getElem? (i := 25) rfl)))) (mvT hZ (hw _ (List.mem_of_getElem? (i := 25) rfl))) (mvT hZ (hw _ (List.mem_of_getElem? (i := 24) rfl))) (by decide) (backOf (W := 0) (rmC l Z a0 hw [] (b25) (mm) ((0 : Int64)) (aa) h27 n0 Zn27 (A25_27) (G27x0) (G27x2) (g_b25) (own_c1 B)) hZ (hw _ (List.mem_of_getElem? (i := 26) rfl)) (hw _ (List.mem_of_getElem? (i := 3) rfl)) (by decide) (by decide)) q28a q28c (g := (mkF m 81 #[.val (.long p0), .second, .val (.long p1), .second, .val (.long p2), .second, .val (.long mm), .second, .val (.long aa), .second, .val (.long rr), .second, .val (.long bb), .second, .val (.long cc), .second, .val (.ref b25)] [(.long aa), (.ref b25)])) rfl (by rw [hml]; rfl) (Steps.refl _) (argsL := [(.long aa)]) (rest := []) (lenOf own_pd1 rfl) rfl (by show 2 * 0 + _ ≤ _; exact Nat.le_of_eq rfl) (hb hby at_81) (fun _ _ => ⟨rfl, e27, (by decide : 3 + 0 ≤ _), (by decide : 63 + 0 ≤ _)⟩)
      dsimp only [Pt.U, Pt.locs, Pt.cells, Pt.slots] at X28 l28 y28 z28 st28 hQ28
      subst l28 y28 z28
      have X28 : Stand p l e room_1 _ m _ below meth c T28 _ 3 63 := X28
      obtain ⟨h28, e28⟩ : ∃ z, T28.heap = z := ⟨_, rfl⟩
      rw [e28] at hQ28
      obtain ⟨rfl, Nq28, Kc28, G28x0, G28x1⟩ := hQ28
      have N28 := Fr.app N27 Nq28
      have A25_28 : Exa Z h28 b25 "com/example/urd/urd/StepLimit" := A25_27.keep Kc28
      have hk26_28 : kS26 ≤ h28.size := Nat.le_trans hk26_27 Kc28.1
      have Zn28 : n0 ≤ h28.size := Nat.le_trans Zn27 Kc28.1
      refine OGoW.st (T' := T28) (g' := (mkF m 84 #[.val (.long p0), .second, .val (.long p1), .second, .val (.long p2), .second, .val (.long mm), .second, .val (.long aa), .second, .val (.long rr), .second, .val (.long bb), .second, .val (.long cc), .second, .val (.ref b25)] [])) (fun _ k => st28.trans k) ?_
      refine OGoW.st (T' := T28) (g' := (mkF m 88 #[.val (.long p0), .second, .val (.long p1), .second, .val (.long p2), .second, .val (.long mm), .second, .val (.long aa), .second, .val (.long rr), .second, .val (.long bb), .second, .val (.long cc), .second, .val (.ref b25)] [(.long bb), (.ref b25)])) (fun _ k => (XS.aload X28.here hx rfl (hb hby at_84) rfl rfl (XS.lload X28.here hx rfl (hb hby at_86) rfl k))) ?_
      obtain ⟨cq29, kq29, q29a, q29b, q29c⟩ := isOf hZ e28 A25_28
      obtain ⟨_, _, ⟨T29, L29, k29, n29⟩, -, X29, ⟨Lc29, hQ29, l29, y29, z29⟩, st29⟩ := X28.virtualBack hx (y := (⟨"com/example/urd/urd/StepLimit", "count", "(J)V"⟩ : MethodName)) (z := (⟨"com/example/urd/urd/StepLimit", "count", "(J)V"⟩ : MethodName)) hown (mvT hZ (hw _ (List.mem_of_getElem? (i := 22) rfl))) (mvT hZ (hw _ (List.mem_of_getElem? (i := 23) rfl))) (notFace_of_selects (args := #[]) (mvT hZ (hw _ (List.mem_of_getElem? (i := 25) rfl)))) (mvT hZ (hw _ (List.mem_of_getElem? (i := 25) rfl))) (mvT hZ (hw _ (List.mem_of_getElem? (i := 24) rfl))) (by decide) (backOf (W := 0) (rmC l Z a0 hw [] (b25) (mm) (((0 : Int64) + aa)) (bb) h28 n0 Zn28 (A25_28) (G28x0) (G28x1) (g_b25) (own_c2 B)) hZ (hw _ (List.mem_of_getElem? (i := 26) rfl)) (hw _ (List.mem_of_getElem? (i := 3) rfl)) (by decide) (by decide)) q29a q29c (g := (mkF m 88 #[.val (.long p0), .second, .val (.long p1), .second, .val (.long p2), .second, .val (.long mm), .second, .val (.long aa), .second, .val (.long rr), .second, .val (.long bb), .second, .val (.long cc), .second, .val (.ref b25)] [(.long bb), (.ref b25)])) rfl (by rw [hml]; rfl) (Steps.refl _) (argsL := [(.long bb)]) (rest := []) (lenOf own_pd1 rfl) rfl (by show 2 * 0 + _ ≤ _; exact Nat.le_of_eq rfl) (hb hby at_88) (fun _ _ => ⟨rfl, e28, (by decide : 3 + 0 ≤ _), (by decide : 63 + 0 ≤ _)⟩)
      dsimp only [Pt.U, Pt.locs, Pt.cells, Pt.slots] at X29 l29 y29 z29 st29 hQ29
      subst l29 y29 z29
      have X29 : Stand p l e room_1 _ m _ below meth c T29 _ 3 63 := X29
      obtain ⟨h29, e29⟩ : ∃ z, T29.heap = z := ⟨_, rfl⟩
      rw [e29] at hQ29
      obtain ⟨rfl, Nq29, Kc29, G29x0, G29x1⟩ := hQ29
      have N29 := Fr.app N28 Nq29
      have A25_29 : Exa Z h29 b25 "com/example/urd/urd/StepLimit" := A25_28.keep Kc29
      have hk26_29 : kS26 ≤ h29.size := Nat.le_trans hk26_28 Kc29.1
      have Zn29 : n0 ≤ h29.size := Nat.le_trans Zn28 Kc29.1
      refine OGoW.st (T' := T29) (g' := (mkF m 91 #[.val (.long p0), .second, .val (.long p1), .second, .val (.long p2), .second, .val (.long mm), .second, .val (.long aa), .second, .val (.long rr), .second, .val (.long bb), .second, .val (.long cc), .second, .val (.ref b25)] [])) (fun _ k => st29.trans k) ?_
      refine OGoW.st (T' := T29) (g' := (mkF m 95 #[.val (.long p0), .second, .val (.long p1), .second, .val (.long p2), .second, .val (.long mm), .second, .val (.long aa), .second, .val (.long rr), .second, .val (.long bb), .second, .val (.long cc), .second, .val (.ref b25)] [(.long cc), (.ref b25)])) (fun _ k => (XS.aload X29.here hx rfl (hb hby at_91) rfl rfl (XS.lload X29.here hx rfl (hb hby at_93) rfl k))) ?_
      obtain ⟨cq30, kq30, q30a, q30b, q30c⟩ := isOf hZ e29 A25_29
      obtain ⟨_, _, ⟨T30, L30, k30, n30⟩, -, X30, ⟨Lc30, hQ30, l30, y30, z30⟩, st30⟩ := X29.virtualBack hx (y := (⟨"com/example/urd/urd/StepLimit", "count", "(J)V"⟩ : MethodName)) (z := (⟨"com/example/urd/urd/StepLimit", "count", "(J)V"⟩ : MethodName)) hown (mvT hZ (hw _ (List.mem_of_getElem? (i := 22) rfl))) (mvT hZ (hw _ (List.mem_of_getElem? (i := 23) rfl))) (notFace_of_selects (args := #[]) (mvT hZ (hw _ (List.mem_of_getElem? (i := 25) rfl)))) (mvT hZ (hw _ (List.mem_of_getElem? (i := 25) rfl))) (mvT hZ (hw _ (List.mem_of_getElem? (i := 24) rfl))) (by decide) (backOf (W := 0) (rmC l Z a0 hw [] (b25) (mm) ((((0 : Int64) + aa) + bb)) (cc) h29 n0 Zn29 (A25_29) (G29x0) (G29x1) (g_b25) (own_c3 B)) hZ (hw _ (List.mem_of_getElem? (i := 26) rfl)) (hw _ (List.mem_of_getElem? (i := 3) rfl)) (by decide) (by decide)) q30a q30c (g := (mkF m 95 #[.val (.long p0), .second, .val (.long p1), .second, .val (.long p2), .second, .val (.long mm), .second, .val (.long aa), .second, .val (.long rr), .second, .val (.long bb), .second, .val (.long cc), .second, .val (.ref b25)] [(.long cc), (.ref b25)])) rfl (by rw [hml]; rfl) (Steps.refl _) (argsL := [(.long cc)]) (rest := []) (lenOf own_pd1 rfl) rfl (by show 2 * 0 + _ ≤ _; exact Nat.le_of_eq rfl) (hb hby at_95) (fun _ _ => ⟨rfl, e29, (by decide : 3 + 0 ≤ _), (by decide : 63 + 0 ≤ _)⟩)
      dsimp only [Pt.U, Pt.locs, Pt.cells, Pt.slots] at X30 l30 y30 z30 st30 hQ30
      subst l30 y30 z30
      have X30 : Stand p l e room_1 _ m _ below meth c T30 _ 3 63 := X30
      obtain ⟨h30, e30⟩ : ∃ z, T30.heap = z := ⟨_, rfl⟩
      rw [e30] at hQ30
      obtain ⟨rfl, Nq30, Kc30, G30x0, G30x1⟩ := hQ30
      have N30 := Fr.app N29 Nq30
      have A25_30 : Exa Z h30 b25 "com/example/urd/urd/StepLimit" := A25_29.keep Kc30
      have hk26_30 : kS26 ≤ h30.size := Nat.le_trans hk26_29 Kc30.1
      have Zn30 : n0 ≤ h30.size := Nat.le_trans Zn29 Kc30.1
      refine OGoW.st (T' := T30) (g' := (mkF m 98 #[.val (.long p0), .second, .val (.long p1), .second, .val (.long p2), .second, .val (.long mm), .second, .val (.long aa), .second, .val (.long rr), .second, .val (.long bb), .second, .val (.long cc), .second, .val (.ref b25)] [])) (fun _ k => st30.trans k) ?_
      refine OGoW.st (T' := T30) (g' := (mkF m 101 #[.val (.long p0), .second, .val (.long p1), .second, .val (.long p2), .second, .val (.long mm), .second, .val (.long aa), .second, .val (.long rr), .second, .val (.long bb), .second, .val (.long cc), .second, .val (.ref b25)] [(.long (0 : Int64)), (.ref b25)])) (fun _ k => (XS.aload X30.here hx rfl (hb hby at_98) rfl rfl (XS.lconst X30.here hx rfl (hb hby at_100) k))) ?_
      obtain ⟨cq31, kq31, q31a, q31b, q31c⟩ := isOf hZ e30 A25_30
      obtain ⟨_, _, ⟨T31, L31, k31, n31⟩, -, X31, ⟨Lc31, hQ31, l31, y31, z31⟩, st31⟩ := X30.virtualBack hx (y := (⟨"com/example/urd/urd/StepLimit", "count", "(J)V"⟩ : MethodName)) (z := (⟨"com/example/urd/urd/StepLimit", "count", "(J)V"⟩ : MethodName)) hown (mvT hZ (hw _ (List.mem_of_getElem? (i := 22) rfl))) (mvT hZ (hw _ (List.mem_of_getElem? (i := 23) rfl))) (notFace_of_selects (args := #[]) (mvT hZ (hw _ (List.mem_of_getElem? (i := 25) rfl)))) (mvT hZ (hw _ (List.mem_of_getElem? (i := 25) rfl))) (mvT hZ (hw _ (List.mem_of_getElem? (i := 24) rfl))) (by decide) (backOf (W := 0) (rmC l Z a0 hw [] (b25) (mm) (((((0 : Int64) + aa) + bb) + cc)) ((0 : Int64)) h30 n0 Zn30 (A25_30) (G30x0) (G30x1) (g_b25) (own_c4 B)) hZ (hw _ (List.mem_of_getElem? (i := 26) rfl)) (hw _ (List.mem_of_getElem? (i := 3) rfl)) (by decide) (by decide)) q31a q31c (g := (mkF m 101 #[.val (.long p0), .second, .val (.long p1), .second, .val (.long p2), .second, .val (.long mm), .second, .val (.long aa), .second, .val (.long rr), .second, .val (.long bb), .second, .val (.long cc), .second, .val (.ref b25)] [(.long (0 : Int64)), (.ref b25)])) rfl (by rw [hml]; rfl) (Steps.refl _) (argsL := [(.long (0 : Int64))]) (rest := []) (lenOf own_pd1 rfl) rfl (by show 2 * 0 + _ ≤ _; exact Nat.le_of_eq rfl) (hb hby at_101) (fun _ _ => ⟨rfl, e30, (by decide : 3 + 0 ≤ _), (by decide : 63 + 0 ≤ _)⟩)
      dsimp only [Pt.U, Pt.locs, Pt.cells, Pt.slots] at X31 l31 y31 z31 st31 hQ31
      subst l31 y31 z31
      have X31 : Stand p l e room_1 _ m _ below meth c T31 _ 3 63 := X31
      obtain ⟨h31, e31⟩ : ∃ z, T31.heap = z := ⟨_, rfl⟩
      rw [e31] at hQ31
      obtain ⟨rfl, Nq31, Kc31, G31x0, G31x1⟩ := hQ31
      have N31 := Fr.app N30 Nq31
      have A25_31 : Exa Z h31 b25 "com/example/urd/urd/StepLimit" := A25_30.keep Kc31
      have hk26_31 : kS26 ≤ h31.size := Nat.le_trans hk26_30 Kc31.1
      have Zn31 : n0 ≤ h31.size := Nat.le_trans Zn30 Kc31.1
      refine OGoW.st (T' := T31) (g' := (mkF m 104 #[.val (.long p0), .second, .val (.long p1), .second, .val (.long p2), .second, .val (.long mm), .second, .val (.long aa), .second, .val (.long rr), .second, .val (.long bb), .second, .val (.long cc), .second, .val (.ref b25)] [])) (fun _ k => st31.trans k) ?_
      refine OGoW.st (T' := T31) (g' := (mkF m 114 #[.val (.long p0), .second, .val (.long p1), .second, .val (.long p2), .second, .val (.long mm), .second, .val (.long aa), .second, .val (.long rr), .second, .val (.long bb), .second, .val (.long cc), .second, .val (.ref b25)] [(.long (0 : Int64)), (.long bb)])) (fun _ k => (XS.lload X31.here hx rfl (hb hby at_104) rfl (XS.lconst X31.here hx rfl (hb hby at_106) (XS.lcmp X31.here hx rfl (hb hby at_107) rfl (XS.ifNo X31.here hx rfl (hb hby at_108) rfl ((if0 _ _).trans (flt (fun q => ((own_nn B.1)) ((lw_lt aa (0 : Int64)).mp q))).1) (XS.lload X31.here hx rfl (hb hby at_111) rfl (XS.lconst X31.here hx rfl (hb hby at_113) k))))))) ?_
      refine OGoW.st (T' := T31) (g' := (mkF m 125 #[.val (.long p0), .second, .val (.long p1), .second, .val (.long p2), .second, .val (.long mm), .second, .val (.long aa), .second, .val (.long rr), .second, .val (.long bb), .second, .val (.long cc), .second, .val (.ref b25)] [])) (fun _ k => (XS.lcmp X31.here hx rfl (hb hby at_114) rfl (XS.ifNo X31.here hx rfl (hb hby at_115) rfl ((if0 _ _).trans (flt (fun q => ((own_nn B.2.1)) ((lw_lt bb (0 : Int64)).mp q))).1) (XS.lload X31.here hx rfl (hb hby at_118) rfl (XS.lconst X31.here hx rfl (hb hby at_120) (XS.lcmp X31.here hx rfl (hb hby at_121) rfl (XS.ifNo X31.here hx rfl (hb hby at_122) rfl ((if0 _ _).trans (flt (fun q => ((own_nn B.2.2.1)) ((lw_lt cc (0 : Int64)).mp q))).1) k))))))) ?_
      refine OGoW.st (T' := T31) (g' := (mkF m 135 #[.val (.long p0), .second, .val (.long p1), .second, .val (.long p2), .second, .val (.long mm), .second, .val (.long aa), .second, .val (.long rr), .second, .val (.long bb), .second, .val (.long cc), .second, .val (.ref b25)] [(.long mm), (.long ((aa + bb) + cc))])) (fun _ k => (XS.lload X31.here hx rfl (hb hby at_125) rfl (XS.lload X31.here hx rfl (hb hby at_127) rfl (XS.ladd X31.here hx rfl (hb hby at_129) rfl (XS.lload X31.here hx rfl (hb hby at_130) rfl (XS.ladd X31.here hx rfl (hb hby at_132) rfl (XS.lload X31.here hx rfl (hb hby at_133) rfl k))))))) ?_
      refine OGoW.st (T' := T31) (g' := (mkF m 144 #[.val (.long p0), .second, .val (.long p1), .second, .val (.long p2), .second, .val (.long mm), .second, .val (.long aa), .second, .val (.long rr), .second, .val (.long bb), .second, .val (.long cc), .second, .val (.ref b25)] [(.int (1 : Int32))])) (fun _ k => (XS.lcmp X31.here hx rfl (hb hby at_135) rfl (XS.ifNo X31.here hx rfl (hb hby at_136) rfl ((if0 _ _).trans (teq ((lw_eq ((aa + bb) + cc) mm).mpr (own_s B))).2) (XS.iconst X31.here hx rfl (hb hby at_139) (XS.goto X31.here hx rfl (pc0 := 140) (pc' := 144) rfl (hb hby at_140) (by decide) (by decide) k))))) ?_
      exact OGoW.ret X31 Si26 hk26_31 hx hlk Bd.returns rfl (own_rI (Or.inr (Or.inl rfl))) (hb hby at_144) (by decide) (by decide) e31 (⟨rfl, N31⟩)
set_option maxRecDepth 65536 in
set_option maxHeartbeats 40000000 in
theorem comes_1 {Post : Tables → Env → Array Value → State → Outcome → State → Prop} (hpost : ∀ tb e args s v u, (limb_1_1.after args s (.returned v) u = true ∧ limb_1_2.after args s (.returned v) u = true ∧ True) → ReturnedEndW s (.returned v) u (Jvm.fieldLocs frame_1_writes args s ++ Jvm.arrayLocs frame_1_arrays args s ++ Jvm.staticLocs frame_1_statics s) 16 1152 → Post tb e args s (.returned v) u) :
    ArmFor flags0 classFile x code maxLocals ret World_1 tables_1 room_1 Calls_1 rest_1 Pre_1 Post := by
  intro l hfl _ _ p e ha hc hk s m args below hf hA hF happ hP
  obtain ⟨hcalls, hrest, hpre⟩ := hP
  obtain ⟨-, -, -, hnamed, -, -, -, hat⟩ := (Spec.applies_iff hf).mp happ
  obtain ⟨hg, hn⟩ := and_e (Cond.before_iff.mp (show (Jvm.Cond.and given_1 narrow_1).before args s = true from hpre))
  obtain ⟨q0, r0⟩ := and_e hg
  obtain ⟨q1, r1⟩ := and_e r0
  obtain ⟨q2, r2⟩ := and_e r1
  obtain ⟨w0, w1, w2, rfl⟩ : ∃ w0 w1 w2 : Value, args = #[w0, w1, w2] := by
    have hs : args.size = 3 := by simpa [Cond.value, given_1] using q0
    obtain ⟨L⟩ := args
    match L, hs with
    | [w0, w1, w2], _ => exact ⟨w0, w1, w2, rfl⟩
  have hw := fun d (hd : d ∈ tables_1) => atoms_spec (ws := Jvm.Cond.code x code maxLocals ret :: tables_1) hat d (List.mem_cons_of_mem _ hd)
  obtain ⟨i0, ei0⟩ := isL_v q1
  obtain rfl : w0 = (.long i0) := Option.some.inj ei0
  obtain ⟨i1, ei1⟩ := isL_v q2
  obtain rfl : w1 = (.long i1) := Option.some.inj ei1
  obtain ⟨i2, ei2⟩ := isL_v r2
  obtain rfl : w2 = (.long i2) := Option.some.inj ei2
  obtain ⟨n, o, h1, h2, h3, _, L, rfl, ⟨rfl, N⟩, hq⟩ := rm0 l s _ hw tables_1 i0 i1 i2 s.heap s.heap.size (Nat.le_refl _) p e ha hc hk s m _ below hf ((Spec.applies_iff_loose hf).mp happ).1 ⟨rfl, State.Warmed39.refl s, rfl⟩ trivial
  refine ⟨n, _, h1, h2, h3, hpost _ _ _ _ _ _ ⟨Cond.after_iff.mpr rfl, Cond.after_iff.mpr (eq_i res_at (Term.int_eval (1)) rfl), trivial⟩ ⟨hq.1, hq.2.1, hq.2.2.1, (hq.2.2.2.sift fun y hy => Or.inr (N y hy)).mono (by decide) (by decide)⟩⟩
theorem main_1_1 : Claimed_1_1 := comes_1 fun _ _ _ _ _ _ h hF => ⟨h.1, hF⟩
theorem main_1_2 : Claimed_1_2 := comes_1 fun _ _ _ _ _ _ h hF => ⟨h.2.1, hF⟩
end Jvm.Pilot.@@N@@
namespace Jvm.Pilot.@@N@@
open Jvm Jvm.ClassFile Sem Op Lib Jvm.Free Jvm.Stand Jvm.Pilot.@@N@@.Jvm.D
/-! MADE BY PROGRAM (witnessworld.py) out of the Statement's table words and the real class files: 14 classes; the members and pool entries that the words name. The judged class is class 1, her method 1. -/
namespace start1
open Jvm.ClassFile
def u (s : String) : CpInfo := .utf8 (stringToUtf16 s)
/-- a pool by its gaps: so many unusable entries, then the entry; so many at the end -/
def gap : Nat → List CpInfo → List CpInfo
  | 0, r => r
  | n + 1, r => .unusable :: gap n r
def poolList (es : List (Nat × CpInfo)) (last : Nat) : List CpInfo := es.foldr (fun e r => gap e.1 (e.2 :: r)) (gap last [])
def pool (es : List (Nat × CpInfo)) (last : Nat) : Array CpInfo := ⟨poolList es last⟩
def fileOf (pool : Array CpInfo) (this : Nat) (attrs : Array Attribute := #[]) (ms : Array MethodInfo := #[]) (fl : Nat := 33) (sup : Nat := 0) (ifs : Array Nat := #[]) (fds : Array FieldInfo := #[]) : ClassFile where
  minorVersion := 0
  majorVersion := 65
  constantPool := pool
  accessFlags := fl
  thisClass := this
  superClass := sup
  interfaces := ifs
  fields := fds
  methods := ms
  attributes := attrs
def plain (name : String) (sup : Option ClassId) : Class where
  name := name
  kind := .ordinary
  loader := none
  accessFlags := 33
  super := sup
  interfaces := #[]
  cf := none
  fields := #[]
  methods := #[]
  instanceTypes := #[]
  staticTypes := #[]
  resolved := #[]
  callSites := []
  init := .initialized
  statics := none
  mirror := none

def pool0 : Array CpInfo := pool [(5, u "<init>"), (0, u "()V"), (1, .class_ 10), (1, u "java/lang/Object")] 113

def k0c0 : Code := { maxStack := 0, maxLocals := 1, code := object_method_1_code, exceptionTable := #[], attributes := #[] }
def k0m0 : Method := { name := "<init>", desc := "()V", sig := { parameters := [], returnType := none }, accessFlags := 1, code := some k0c0 }
/-- java/lang/Object -/
def k0 : Class := { plain "java/lang/Object" none with
  accessFlags := 33
  interfaces := #[]
  cf := some (fileOf pool0 8 #[] #[{ accessFlags := 1, nameIndex := 5, descriptorIndex := 6, attributes := #[] }] 33 0 #[] #[])
  fields := #[]
  methods := #[k0m0]
  instanceTypes := #[]
  staticTypes := #[]
  resolved := Array.replicate 124 none
  statics := none }

def pool1 : Array CpInfo := pool [(2, .class_ 4), (1, u "java/lang/Object"), (0, u "<init>"), (0, u "()V"), (2, .long 9223372036854775807), (1, .class_ 12), (0, u "com/example/urd/urd/StepLimit"), (0, .string 14), (0, u "too many steps"), (0, .methodref 11 16), (0, .nameAndType 5 17), (0, u "(JLjava/lang/String;)V"), (0, .methodref 11 19), (0, .nameAndType 20 21), (0, u "count"), (0, u "(J)V"), (0, .class_ 23), (0, u "com/example/urd/urd/StepLimitCountPinLaw"), (2, u "law"), (0, u "(JJJ)Z")] 6

def k1m0 : Method := { name := "<init>", desc := "()V", sig := { parameters := [], returnType := none }, accessFlags := 1, code := none }
def k1c1 : Code := { maxStack := 5, maxLocals := 17, code := code, exceptionTable := #[], attributes := #[] }
def k1m1 : Method := { name := "law", desc := "(JJJ)Z", sig := { parameters := [.long, .long, .long], returnType := some .boolean }, accessFlags := 9, code := some k1c1 }
/-- com/example/urd/urd/StepLimitCountPinLaw -/
def k1 : Class := { plain "com/example/urd/urd/StepLimitCountPinLaw" (some 0) with
  accessFlags := 49
  interfaces := #[]
  cf := some (fileOf pool1 22 #[] #[{ accessFlags := 1, nameIndex := 5, descriptorIndex := 6, attributes := #[] }, { accessFlags := 9, nameIndex := 26, descriptorIndex := 27, attributes := #[] }] 49 2 #[] #[])
  fields := #[]
  methods := #[k1m0, k1m1]
  instanceTypes := #[]
  staticTypes := #[]
  resolved := Array.replicate 34 none
  statics := none }

def pool2 : Array CpInfo := pool [(1, .methodref 2 3), (0, .class_ 4), (0, .nameAndType 5 6), (0, u "java/lang/Object"), (0, u "<init>"), (0, u "()V"), (0, .fieldref 8 9), (0, .class_ 10), (0, .nameAndType 11 12), (0, u "com/example/urd/urd/StepLimit"), (0, u "most"), (0, u "J"), (0, .fieldref 8 14), (0, .nameAndType 15 16), (0, u "refusal"), (0, u "Ljava/lang/String;"), (0, .fieldref 8 18), (0, .nameAndType 19 12), (0, u "steps"), (5, u "(JLjava/lang/String;)V"), (2, u "count"), (0, u "(J)V")] 4

def k2c0 : Code := { maxStack := 3, maxLocals := 4, code := prog_17_method_1_code, exceptionTable := #[], attributes := #[] }
def k2m0 : Method := { name := "<init>", desc := "(JLjava/lang/String;)V", sig := { parameters := [.long, (.object "java/lang/String")], returnType := none }, accessFlags := 0, code := some k2c0 }
def k2c1 : Code := { maxStack := 5, maxLocals := 3, code := prog_17_method_2_code, exceptionTable := #[], attributes := #[] }
def k2m1 : Method := { name := "count", desc := "(J)V", sig := { parameters := [.long], returnType := none }, accessFlags := 0, code := some k2c1 }
/-- com/example/urd/urd/StepLimit -/
def k2 : Class := { plain "com/example/urd/urd/StepLimit" (some 0) with
  accessFlags := 32
  interfaces := #[]
  cf := some (fileOf pool2 8 #[] #[{ accessFlags := 0, nameIndex := 5, descriptorIndex := 25, attributes := #[] }, { accessFlags := 0, nameIndex := 28, descriptorIndex := 29, attributes := #[] }] 32 2 #[] #[{ accessFlags := 18, nameIndex := 11, descriptorIndex := 12, attributes := #[] }, { accessFlags := 18, nameIndex := 15, descriptorIndex := 16, attributes := #[] }, { accessFlags := 2, nameIndex := 19, descriptorIndex := 12, attributes := #[] }])
  fields := #[{ name := "most", type := .long, accessFlags := 18, slot := 0, constantValue := 0 }, { name := "refusal", type := (.object "java/lang/String"), accessFlags := 18, slot := 1, constantValue := 0 }, { name := "steps", type := .long, accessFlags := 2, slot := 2, constantValue := 0 }]
  methods := #[k2m0, k2m1]
  instanceTypes := #[.long, (.object "java/lang/String"), .long]
  staticTypes := #[]
  resolved := Array.replicate 34 none
  statics := none }

def pool3 : Array CpInfo := pool [(1, .class_ 2), (0, u "java/io/Serializable"), (0, .class_ 4), (0, u "java/lang/Object")] 2

/-- java/io/Serializable -/
def k3 : Class := { plain "java/io/Serializable" (some 0) with
  accessFlags := 1537
  interfaces := #[]
  cf := some (fileOf pool3 1 #[] #[] 1537 3 #[] #[])
  fields := #[]
  methods := #[]
  instanceTypes := #[]
  staticTypes := #[]
  resolved := Array.replicate 7 none
  statics := none }

def pool4 : Array CpInfo := pool [(1, .class_ 2), (0, u "java/lang/Comparable"), (0, .class_ 4), (0, u "java/lang/Object")] 7

/-- java/lang/Comparable -/
def k4 : Class := { plain "java/lang/Comparable" (some 0) with
  accessFlags := 1537
  interfaces := #[]
  cf := some (fileOf pool4 1 #[] #[] 1537 3 #[] #[])
  fields := #[]
  methods := #[]
  instanceTypes := #[]
  staticTypes := #[]
  resolved := Array.replicate 12 none
  statics := none }

def pool5 : Array CpInfo := pool [(2, .class_ 4), (1, u "java/lang/CharSequence"), (42, .class_ 48), (0, u "java/lang/CharSequence$1CodePointIterator"), (10, .class_ 60), (0, u "java/lang/CharSequence$1CharIterator"), (5, .class_ 67), (0, u "java/lang/Object")] 63

/-- java/lang/CharSequence -/
def k5 : Class := { plain "java/lang/CharSequence" (some 0) with
  accessFlags := 1537
  interfaces := #[]
  cf := some (fileOf pool5 2 #[.nestMembers #[47, 59]] #[] 1537 66 #[] #[])
  fields := #[]
  methods := #[]
  instanceTypes := #[]
  staticTypes := #[]
  resolved := Array.replicate 131 none
  statics := none }

def pool6 : Array CpInfo := pool [(1, .class_ 2), (0, u "java/lang/constant/Constable"), (0, .class_ 4), (0, u "java/lang/Object")] 6

/-- java/lang/constant/Constable -/
def k6 : Class := { plain "java/lang/constant/Constable" (some 0) with
  accessFlags := 1537
  interfaces := #[]
  cf := some (fileOf pool6 1 #[] #[] 1537 3 #[] #[])
  fields := #[]
  methods := #[]
  instanceTypes := #[]
  staticTypes := #[]
  resolved := Array.replicate 11 none
  statics := none }

def pool7 : Array CpInfo := pool [(1, .class_ 2), (0, u "java/lang/constant/ConstantDesc"), (0, .class_ 4), (0, u "java/lang/Object")] 32

/-- java/lang/constant/ConstantDesc -/
def k7 : Class := { plain "java/lang/constant/ConstantDesc" (some 0) with
  accessFlags := 1537
  interfaces := #[]
  cf := some (fileOf pool7 1 #[] #[] 1537 3 #[] #[])
  fields := #[]
  methods := #[]
  instanceTypes := #[]
  staticTypes := #[]
  resolved := Array.replicate 37 none
  statics := none }

def pool8 : Array CpInfo := pool [(2, .class_ 4), (1, u "java/lang/Object"), (0, u "<init>"), (0, u "()V"), (3, .class_ 12), (1, u "java/lang/String"), (0, u "value"), (0, u "[B"), (2, u "coder"), (0, u "B"), (2, u "hash"), (0, u "I"), (2, u "hashIsZero"), (0, u "Z"), (13, u "COMPACT_STRINGS"), (534, .class_ 576), (0, u "java/lang/CharSequence"), (22, u "CASE_INSENSITIVE_ORDER"), (0, u "Ljava/util/Comparator;"), (500, u "serialPersistentFields"), (0, u "[Ljava/io/ObjectStreamField;"), (0, .class_ 1104), (0, u "java/lang/String$CaseInsensitiveComparator"), (1, .class_ 1107), (0, u "java/io/Serializable"), (0, .class_ 1109), (0, u "java/lang/Comparable"), (0, .class_ 1111), (0, u "java/lang/constant/Constable"), (0, .class_ 1113), (0, u "java/lang/constant/ConstantDesc"), (2, u "serialVersionUID"), (0, u "J"), (3, u "REPL"), (0, u "C"), (2, u "LATIN1"), (1, u "UTF16")] 323

def k8m0 : Method := { name := "<init>", desc := "()V", sig := { parameters := [], returnType := none }, accessFlags := 1, code := none }
/-- java/lang/String -/
def k8 : Class := { plain "java/lang/String" (some 0) with
  accessFlags := 49
  interfaces := #[3, 4, 5, 6, 7]
  cf := some (fileOf pool8 10 #[.nestMembers #[1103]] #[{ accessFlags := 1, nameIndex := 5, descriptorIndex := 6, attributes := #[] }] 49 2 #[1106, 1108, 575, 1110, 1112] #[{ accessFlags := 18, nameIndex := 13, descriptorIndex := 14, attributes := #[] }, { accessFlags := 18, nameIndex := 17, descriptorIndex := 18, attributes := #[] }, { accessFlags := 2, nameIndex := 21, descriptorIndex := 22, attributes := #[] }, { accessFlags := 2, nameIndex := 25, descriptorIndex := 26, attributes := #[] }, { accessFlags := 26, nameIndex := 1116, descriptorIndex := 1117, attributes := #[] }, { accessFlags := 24, nameIndex := 40, descriptorIndex := 26, attributes := #[] }, { accessFlags := 26, nameIndex := 1101, descriptorIndex := 1102, attributes := #[] }, { accessFlags := 26, nameIndex := 1121, descriptorIndex := 1122, attributes := #[] }, { accessFlags := 25, nameIndex := 599, descriptorIndex := 600, attributes := #[] }, { accessFlags := 24, nameIndex := 1125, descriptorIndex := 18, attributes := #[] }, { accessFlags := 24, nameIndex := 1127, descriptorIndex := 18, attributes := #[] }])
  fields := #[{ name := "value", type := (.array .byte), accessFlags := 18, slot := 0, constantValue := 0 }, { name := "coder", type := .byte, accessFlags := 18, slot := 1, constantValue := 0 }, { name := "hash", type := .int, accessFlags := 2, slot := 2, constantValue := 0 }, { name := "hashIsZero", type := .boolean, accessFlags := 2, slot := 3, constantValue := 0 }, { name := "serialVersionUID", type := .long, accessFlags := 26, slot := 0, constantValue := 0 }, { name := "COMPACT_STRINGS", type := .boolean, accessFlags := 24, slot := 1, constantValue := 0 }, { name := "serialPersistentFields", type := (.array (.object "java/io/ObjectStreamField")), accessFlags := 26, slot := 2, constantValue := 0 }, { name := "REPL", type := .char, accessFlags := 26, slot := 3, constantValue := 0 }, { name := "CASE_INSENSITIVE_ORDER", type := (.object "java/util/Comparator"), accessFlags := 25, slot := 4, constantValue := 0 }, { name := "LATIN1", type := .byte, accessFlags := 24, slot := 5, constantValue := 0 }, { name := "UTF16", type := .byte, accessFlags := 24, slot := 6, constantValue := 0 }]
  methods := #[k8m0]
  instanceTypes := #[(.array .byte), .byte, .int, .boolean]
  staticTypes := #[.long, .boolean, (.array (.object "java/io/ObjectStreamField")), .char, (.object "java/util/Comparator"), .byte, .byte]
  resolved := Array.replicate 1451 none
  statics := none }

def pool9 : Array CpInfo := pool [(1, u "java/lang/Cloneable"), (0, .class_ 1), (0, u "java/lang/Object"), (0, .class_ 3)] 3

/-- java/lang/Cloneable -/
def k9 : Class := { plain "java/lang/Cloneable" (some 0) with
  accessFlags := 1537
  interfaces := #[]
  cf := some (fileOf pool9 2 #[] #[] 1537 4 #[] #[])
  fields := #[]
  methods := #[]
  instanceTypes := #[]
  staticTypes := #[]
  resolved := Array.replicate 8 none
  statics := none }

/-- the primitive byte -/
def k10 : Class := { plain "byte" none with kind := .primitive 'B', accessFlags := 0x411 }
/-- [B -/
def k11 : Class := { plain "[B" (some 0) with kind := .array 10 .byte, interfaces := #[9, 3], accessFlags := 1041 }

/-- the primitive int -/
def k12 : Class := { plain "int" none with kind := .primitive 'I', accessFlags := 0x411 }
/-- [I -/
def k13 : Class := { plain "[I" (some 0) with kind := .array 12 .int, interfaces := #[9, 3], accessFlags := 1041 }

def heap : Heap := #[]
def classes : Array Class := #[k0, k1, k2, k3, k4, k5, k6, k7, k8, k9, k10, k11, k12, k13]
def interned : List (Array UInt16 × Addr) := []
def slotsUsed : Nat := 0
def theMethod : MethodId := ⟨1, 1⟩
def args0 : Array Value := #[.long 5, .long 7, .long 9]
def aboutOver (below : List Frame) : State where
  vm := { classes := classes, interned := interned.toArray }
  heap := heap
  slotsUsed := slotsUsed
  threads := #[{ frames := .invoking theMethod args0 :: below }]
def below0 : List Frame := [.native { method := ⟨0, 0⟩, args := #[] }]
def about1 : State := aboutOver below0
def p0 : Program := .bare "" "" ""
def e0 : Env := launch0.env 0 0 0
theorem w_frames : about1.frames = Frame.invoking theMethod args0 :: below0 := rfl
set_option maxRecDepth 65536 in
theorem w_args : argsFit about1.vm theMethod args0 = true := by decide +kernel
set_option maxRecDepth 65536 in
theorem w_heap : heapFits about1 = true := by decide +kernel
set_option maxRecDepth 65536 in
theorem w_runnable : about1.curStatus? = some .runnable := by decide +kernel
set_option maxRecDepth 65536 in
theorem w_alone : about1.alone = true := by decide +kernel
set_option maxRecDepth 65536 in
theorem w_named : about1.methodNamed? x = some theMethod := by decide +kernel
set_option maxRecDepth 65536 in
theorem w_hears : about1.hears theMethod below0 = true := by decide +kernel
set_option maxRecDepth 65536 in
theorem w_ripe : about1.ripe theMethod args0 below0 = true := by decide +kernel
theorem w_running : about1.status = .running := rfl
set_option maxRecDepth 65536 in
theorem w_room : about1.hasRoom e0.platform room_1 = true :=
  launch0.hasRoom_least _ room_1 (by decide +kernel) (by decide +kernel) (by decide +kernel) (by decide +kernel) (by decide +kernel) (by decide +kernel)
theorem allAtoms_all (ts : List Jvm.Cond) (a : Array Jvm.Value) (st : Jvm.State) : (allAtoms ts).before a st = ts.all (fun c => c.before a st) := by
  induction ts with
  | nil => rfl
  | cons c t ih =>
    show (Jvm.Cond.and c (allAtoms t)).before a st = _
    rw [Jvm.Cond.before_and, ih, List.all_cons]
def words1 : List Jvm.Cond := Jvm.Cond.code x code maxLocals ret :: tables_1
/-- a 'code' word, met by the world's own term for the bytes: nothing is compared byte by byte -/
theorem code_word {y : MethodName} {bytes : ByteArray} {mx : Nat} {rt : Option FieldType} {a : Array Value} {s : State} {m : MethodId} {meth : Method} {c : Code} (h1 : s.methodNamed? y = some m) (h2 : s.vm.method? m = some meth) (h3 : meth.code = some c) (h4 : c.code = bytes)
    (h5 : (c.maxLocals == mx && c.exceptionTable.isEmpty && decide (c.maxStack ≤ mostOperands) && decide (meth.sig.returnType = rt) && !meth.locks && decide (parseMethodDescriptor y.desc = some meth.sig)) = true) : (Jvm.Cond.code y bytes mx rt).before a s = true := by
  simp only [Bool.and_eq_true, beq_iff_eq, Bool.not_eq_true', decide_eq_true_eq] at h5
  obtain ⟨⟨⟨⟨⟨g1, g2⟩, g3⟩, g4⟩, g5⟩, g6⟩ := h5
  simp [Cond.before, Cond.holds, Cond.value, h1, h2, h3, h4, g1, g2, g3, g4, g5, g6]
def isCode : Jvm.Cond → Bool
  | .code _ _ _ _ => true
  | _ => false
theorem all_split {L : List Jvm.Cond} {P : Jvm.Cond → Bool} (h1 : L.all (fun c => isCode c || P c) = true) (h2 : ∀ c ∈ L.filter isCode, P c = true) : L.all P = true := by
  refine List.all_eq_true.mpr fun c hc => ?_
  have h := List.all_eq_true.mp h1 c hc
  rcases Bool.eq_false_or_eq_true (isCode c) with hi | hi
  · exact h2 c (List.mem_filter.mpr ⟨hc, hi⟩)
  · simpa [hi] using h
set_option maxRecDepth 65536 in
theorem w_c0 : (Jvm.Cond.code x code maxLocals ret).before args0 about1 = true := code_word (m := ⟨1, 1⟩) (meth := k1m1) (c := k1c1) (by decide +kernel) rfl rfl rfl (by decide +kernel)
set_option maxRecDepth 65536 in
theorem w_c1 : (Jvm.Cond.code ({ cls := "com/example/urd/urd/StepLimit", name := "<init>", desc := "(JLjava/lang/String;)V" } : Jvm.MethodName) prog_17_method_1_code (4 : Nat) (Option.none : Option Jvm.ClassFile.FieldType)).before args0 about1 = true := code_word (m := ⟨2, 0⟩) (meth := k2m0) (c := k2c0) (by decide +kernel) rfl rfl rfl (by decide +kernel)
set_option maxRecDepth 65536 in
theorem w_c2 : (Jvm.Cond.code ({ cls := "java/lang/Object", name := "<init>", desc := "()V" } : Jvm.MethodName) object_method_1_code (1 : Nat) (Option.none : Option Jvm.ClassFile.FieldType)).before args0 about1 = true := code_word (m := ⟨0, 0⟩) (meth := k0m0) (c := k0c0) (by decide +kernel) rfl rfl rfl (by decide +kernel)
set_option maxRecDepth 65536 in
theorem w_c3 : (Jvm.Cond.code ({ cls := "com/example/urd/urd/StepLimit", name := "count", desc := "(J)V" } : Jvm.MethodName) prog_17_method_2_code (3 : Nat) (Option.none : Option Jvm.ClassFile.FieldType)).before args0 about1 = true := code_word (m := ⟨2, 1⟩) (meth := k2m1) (c := k2c1) (by decide +kernel) rfl rfl rfl (by decide +kernel)
def codes1 : List Jvm.Cond := [Jvm.Cond.code x code maxLocals ret, Jvm.Cond.code ({ cls := "com/example/urd/urd/StepLimit", name := "<init>", desc := "(JLjava/lang/String;)V" } : Jvm.MethodName) prog_17_method_1_code (4 : Nat) (Option.none : Option Jvm.ClassFile.FieldType), Jvm.Cond.code ({ cls := "java/lang/Object", name := "<init>", desc := "()V" } : Jvm.MethodName) object_method_1_code (1 : Nat) (Option.none : Option Jvm.ClassFile.FieldType), Jvm.Cond.code ({ cls := "com/example/urd/urd/StepLimit", name := "count", desc := "(J)V" } : Jvm.MethodName) prog_17_method_2_code (3 : Nat) (Option.none : Option Jvm.ClassFile.FieldType)]
set_option maxRecDepth 65536 in
theorem codes_eq : words1.filter isCode = codes1 := rfl
theorem w_codes : ∀ c ∈ words1.filter isCode, c.before args0 about1 = true := by
  rw [codes_eq]
  intro c hc
  simp only [codes1, List.mem_cons, List.not_mem_nil, or_false] at hc
  rcases hc with rfl | rfl | rfl | rfl
  · exact w_c0
  · exact w_c1
  · exact w_c2
  · exact w_c3
set_option maxRecDepth 65536 in
theorem w_t1 : (words1.take 24).all (fun c => isCode c || c.before args0 about1) = true := by decide +kernel
set_option maxRecDepth 65536 in
theorem w_t2 : (words1.drop 24).all (fun c => isCode c || c.before args0 about1) = true := by decide +kernel
theorem w_tables : (allAtoms (Jvm.Cond.code x code maxLocals ret :: tables_1)).before args0 about1 = true := by
  rw [allAtoms_all]
  show words1.all (fun c => c.before args0 about1) = true
  refine all_split ?_ w_codes
  rw [← List.take_append_drop 24 words1, List.all_append, w_t1, w_t2]
  rfl
set_option maxRecDepth 65536 in
theorem w_case : (Jvm.Cond.and given_1 narrow_1).before args0 about1 = true := by decide +kernel
theorem w_applies : (headSpec (Jvm.Cond.code x code maxLocals ret :: tables_1) room_1).applies x e0.platform about1 = true :=
  (Spec.applies_iff w_frames).mpr ⟨w_running, w_runnable, w_alone, w_named, w_hears, w_ripe, w_room, w_tables⟩
theorem atStart : AtStart classFile x code maxLocals ret World_1 tables_1 room_1 Calls_1 rest_1 Pre_1 launch0 p0 e0 about1 theMethod args0 below0 :=
  ⟨lists_1, trivial, launch0.admits_env _ _ _, launch0.least_env, fairChoices_fair.cas, fairChoices_fair.clock, w_frames, w_args, w_heap, w_applies, trivial, trivial, w_case⟩
end start1
theorem witness_1 : WitnessClaimed_1 := ⟨start1.p0, start1.e0, start1.about1, start1.theMethod, start1.args0, start1.below0, start1.atStart⟩
end Jvm.Pilot.@@N@@

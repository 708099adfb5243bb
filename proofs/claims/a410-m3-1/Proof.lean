import JvmDerived
import JvmDerived.Pilot.@@N@@Statement
import JvmDerived.Pilot.@@N@@Code
set_option linter.unusedVariables false
set_option linter.unusedSimpArgs false
namespace Jvm.Pilot.@@N@@
open Jvm Jvm.ClassFile Sem Op Lib Jvm.Free Jvm.Stand Jvm.LawKit Jvm.RoadKit Bundle Jvm.Pilot.@@N@@.Jvm.D
/-! ### own: what is left of a body's walk, as one word; each step goes back over it -/
def OGo (p : Program) (e : Env) (below : List Frame) (s : State) (Q : Option Value → Heap → List Loc → Prop) (C S : Nat) (T : State) (g : JFrame) : Prop :=
  ∃ s₂ o, Steps p.tables e below (T.setTop g) s₂ ∧ s₂.status = .running ∧ Ended s₂ below o ∧ ∃ v L, o = .returned v ∧ Q v s₂.heap L ∧ FrameEnd s o s₂ L C S
section Own
variable {p : Program} {l : Launch} {e : Env} {R : Room} {s s₁ : State} {m : MethodId} {args : Array Value} {below : List Frame} {meth : Method} {c : Code} {T T' : State} {locs : List Loc} {cells slots : Nat} {g g' : JFrame} {Q : Option Value → Heap → List Loc → Prop} {C S : Nat} {Z : State} {a0 : Array Value} {h h' : Heap}
theorem OGo.st (k : ∀ t, Steps p.tables e below (T'.setTop g') t → Steps p.tables e below (T.setTop g) t) (q : OGo p e below s Q C S T' g') : OGo p e below s Q C S T g := by
  obtain ⟨s₂, o, h1, h2⟩ := q
  exact ⟨s₂, o, k _ h1, h2⟩
theorem OGo.en {ml : Nat} (q : entryFrame m args ml = g) (k : OGo p e below s Q C S s₁ g) : ∃ s₂ o, Steps p.tables e below (s₁.setTop (entryFrame m args ml)) s₂ ∧ s₂.status = .running ∧ Ended s₂ below o ∧ ∃ v L, o = .returned v ∧ Q v s₂.heap L ∧ FrameEnd s o s₂ L C S := by
  rw [q]; exact k
theorem OGo.ret (X : Stand p l e R s m args below meth c T locs cells slots) (hx : p.tables.exec = Jvm.exec) (hlk : meth.locks = false) {pc : Nat} {Ls : Array Slot} {w : Value} {t : FieldType} {i : Instr} {rest : List Value} (hret : meth.sig.returnType = some t) (hn : narrow t w = w)
    (hi : (i = .ireturn ∧ (t = .int ∨ t = .boolean ∨ t = .byte ∨ t = .char ∨ t = .short) ∧ ∃ z, w = .int z) ∨ (i = .lreturn ∧ t = .long ∧ ∃ z, w = .long z) ∨ (i = .dreturn ∧ t = .double ∧ ∃ z, w = .double z) ∨ (i = .freturn ∧ t = .float ∧ ∃ z, w = .float z) ∨ (i = .areturn ∧ t.isReference = true ∧ w.isRef = true))
    (hd : decode c.code pc = .ok (i, 1)) (hC : cells ≤ C) (hS : slots ≤ S) (hh : T.heap = h) (hQ : Q (some w) h locs) : OGo p e below s Q C S T (mkF m pc Ls (w :: rest)) := by
  obtain ⟨fs, hr, hrun, hended, hW, hsame⟩ := X.leave (v := some w) (fun q => by rw [hret] at q; cases q) hlk
  subst hh
  exact ⟨_, _, retOut X hx hret hn hi hd hr, hrun, hended, _, _, rfl, hQ, ⟨_, rfl⟩, hW, hsame.mono hC hS⟩
theorem OGo.retV (X : Stand p l e R s m args below meth c T locs cells slots) (hx : p.tables.exec = Jvm.exec) (hlk : meth.locks = false) {pc : Nat} {Ls : Array Slot} (hret : meth.sig.returnType = none)
    (hd : decode c.code pc = .ok (.return_, 1)) (hC : cells ≤ C) (hS : slots ≤ S) (hh : T.heap = h) (hQ : Q none h locs) : OGo p e below s Q C S T (mkF m pc Ls []) := by
  obtain ⟨fs, hr, hrun, hended, hW, hsame⟩ := X.leave (v := none) (fun _ => rfl) hlk
  subst hh
  exact ⟨_, _, X.returnOut hx hret hd hr, hrun, hended, _, _, rfl, hQ, ⟨_, rfl⟩, hW, hsame.mono hC hS⟩
theorem own_rI {t : FieldType} {z : Int32} (ht : t = .int ∨ t = .boolean ∨ t = .byte ∨ t = .char ∨ t = .short) : ((Instr.ireturn = .ireturn ∧ (t = .int ∨ t = .boolean ∨ t = .byte ∨ t = .char ∨ t = .short) ∧ ∃ z', Value.int z = .int z') ∨ (Instr.ireturn = .lreturn ∧ t = .long ∧ ∃ z', Value.int z = .long z') ∨ (Instr.ireturn = .dreturn ∧ t = .double ∧ ∃ z', Value.int z = .double z') ∨ (Instr.ireturn = .freturn ∧ t = .float ∧ ∃ z', Value.int z = .float z') ∨ (Instr.ireturn = .areturn ∧ t.isReference = true ∧ (Value.int z).isRef = true)) := Or.inl ⟨rfl, ht, z, rfl⟩
theorem own_rJ {z : Int64} : ((Instr.lreturn = .ireturn ∧ (FieldType.long = .int ∨ FieldType.long = .boolean ∨ FieldType.long = .byte ∨ FieldType.long = .char ∨ FieldType.long = .short) ∧ ∃ z', Value.long z = .int z') ∨ (Instr.lreturn = .lreturn ∧ FieldType.long = .long ∧ ∃ z', Value.long z = .long z') ∨ (Instr.lreturn = .dreturn ∧ FieldType.long = .double ∧ ∃ z', Value.long z = .double z') ∨ (Instr.lreturn = .freturn ∧ FieldType.long = .float ∧ ∃ z', Value.long z = .float z') ∨ (Instr.lreturn = .areturn ∧ FieldType.long.isReference = true ∧ (Value.long z).isRef = true)) := Or.inr (Or.inl ⟨rfl, rfl, z, rfl⟩)
theorem own_rR {t : FieldType} {w : Value} (ht : t.isReference = true) (hw : w.isRef = true) : ((Instr.areturn = .ireturn ∧ (t = .int ∨ t = .boolean ∨ t = .byte ∨ t = .char ∨ t = .short) ∧ ∃ z', w = .int z') ∨ (Instr.areturn = .lreturn ∧ t = .long ∧ ∃ z', w = .long z') ∨ (Instr.areturn = .dreturn ∧ t = .double ∧ ∃ z', w = .double z') ∨ (Instr.areturn = .freturn ∧ t = .float ∧ ∃ z', w = .float z') ∨ (Instr.areturn = .areturn ∧ t.isReference = true ∧ w.isRef = true)) := Or.inr (Or.inr (Or.inr (Or.inr ⟨rfl, ht, hw⟩)))
/-! own: an array by its length and a function of the places -/
def own_ix (j : Int32) (i : Nat) : Prop := ¬ j < 0 ∧ j.toNatClampNeg = i
theorem own_ix_of {i : Nat} (hi : i < 2 ^ 31) : own_ix (Int32.ofNat i) i := by
  have q : (Int32.ofNat i).toInt = i := Int32.toInt_ofNat_of_lt hi
  refine ⟨fun w => ?_, ?_⟩
  · rw [Int32.lt_iff_toInt_lt, q, show (0 : Int32).toInt = 0 from rfl] at w; omega
  · rw [Int32.toNatClampNeg, q]; rfl
theorem own_len32 {n : Nat} : n.toInt32 = Int32.ofNat n := rfl
def own_upd {α : Type} (f : Nat → α) (i : Nat) (v : α) (j : Nat) : α := if j = i then v else f j
def own_L {α : Type} (d : α) (l : List α) (j : Nat) : α := l.getD j d
theorem own_L_set {α : Type} (d : α) (l : List α) (i : Nat) (v : α) (hi : i < l.length) (j : Nat) : own_upd (own_L d l) i v j = own_L d (l.set i v) j := by
  unfold own_upd own_L
  by_cases q : j = i
  · subst q; simp [List.getD_eq_getElem?_getD, hi]
  · simp [List.getD_eq_getElem?_getD, q, List.getElem?_set, Ne.symm q]
theorem own_L_rep {α : Type} (d : α) (n : Nat) (j : Nat) : d = own_L d (List.replicate n d) j := by
  unfold own_L
  rw [List.getD_eq_getElem?_getD, List.getElem?_replicate]
  split <;> rfl
theorem own_updI (f : Nat → Int32) (i : Nat) (x : Int32) (j : Nat) : own_upd (fun j => Value.int (f j)) i (.int x) j = Value.int (own_upd f i x j) := by unfold own_upd; split <;> rfl
theorem own_updJ (f : Nat → Int64) (i : Nat) (x : Int64) (j : Nat) : own_upd (fun j => Value.long (f j)) i (.long x) j = Value.long (own_upd f i x j) := by unfold own_upd; split <;> rfl
def OArr (Z : State) (h : Heap) (a : Addr) (ty : FieldType) (n : Nat) (f : Nat → Value) : Prop := ∃ cl : Cell, Arr Z h a cl ty ∧ cl.slots.size = n ∧ n < 2 ^ 31 ∧ ∀ j, j < n → cl.slots[j]? = some (f j)
variable {a b : Addr} {ty : FieldType} {n : Nat} {f f' : Nat → Value} {sl : Nat} {v : Value} {ws : List Addr}
theorem OArr.lt (F : OArr Z h a ty n f) : a < h.size := by obtain ⟨cl, A, -⟩ := F; exact A.lt
theorem OArr.ext (F : OArr Z h a ty n f) (E : Ext h h') : OArr Z h' a ty n f := by obtain ⟨cl, A, r⟩ := F; exact ⟨cl, A.ext E, r⟩
theorem OArr.other (F : OArr Z h a ty n f) (W : Wr h h' b sl v) (q : a ≠ b) : OArr Z h' a ty n f := by obtain ⟨cl, A, r⟩ := F; exact ⟨cl, A.other W q, r⟩
theorem OArr.keep (F : OArr Z h a ty n f) (K : Keep h h' ws) (q : a ∉ ws) : OArr Z h' a ty n f := by obtain ⟨cl, A, r⟩ := F; exact ⟨cl, ⟨K.2.1 a cl A.1 q, A.2⟩, r⟩
theorem OArr.cast (F : OArr Z h a ty n f) (q : ∀ j, j < n → f j = f' j) : OArr Z h a ty n f' := by obtain ⟨cl, A, r1, r2, r3⟩ := F; exact ⟨cl, A, r1, r2, fun j hj => by rw [r3 j hj, q j hj]⟩
theorem own_in {cl : Cell} {j : Int32} {i : Nat} (hs : cl.slots.size = n) (hj : own_ix j i) (hi : i < n) : ¬ (j < 0 ∨ cl.slots.size ≤ j.toNatClampNeg) := by
  rw [hs, hj.2]; exact fun q => q.elim hj.1 (fun q => absurd hi (Nat.not_lt.mpr q))
theorem OArr.wr (F : OArr Z h a ty n f) {j : Int32} {i : Nat} (hj : own_ix j i) (W : Wr h h' a j.toNatClampNeg v) : OArr Z h' a ty n (own_upd f i v) := by
  obtain ⟨cl, A, r1, r2, r3⟩ := F
  refine ⟨_, A.same W, by rw [sz_set, r1], r2, fun k hk => ?_⟩
  show (cl.slots.setIfInBounds _ v)[k]? = _
  rw [hj.2]
  unfold own_upd
  by_cases q : k = i
  · subst q; rw [if_pos rfl, Array.getElem?_setIfInBounds_self_of_lt (by omega)]
  · rw [if_neg q, Array.getElem?_setIfInBounds_ne (Ne.symm q)]; exact r3 k hk
theorem own_len (X : Stand p l e R s m args below meth c T locs cells slots) (hx : p.tables.exec = Jvm.exec) (hZ : Z.Warmed39 s.vm) (eT : T.heap = h) (F : OArr Z h a ty n f) (hg : g.method = m) {rest : List Value} (hs : g.stack = .ref a :: rest) (hd : decode c.code g.pc = .ok (.arraylength, 1)) :
    ∀ t, Steps p.tables e below (T.setTop { g with pc := g.pc + 1, stack := .int (Int32.ofNat n) :: rest }) t → Steps p.tables e below (T.setTop g) t := by
  obtain ⟨cl, A, r1, r2, r3⟩ := F
  subst r1
  exact X.arraylength hx (by rw [eT]; exact A.1) (State.isArrayOf_alike hZ.alike A.2.1) hg hs hd
theorem own_ldI (X : Stand p l e R s m args below meth c T locs cells slots) (hx : p.tables.exec = Jvm.exec) (hZ : Z.Warmed39 s.vm) (eT : T.heap = h) (F : OArr Z h a .int n f) {j : Int32} {i : Nat} (hj : own_ix j i) (hi : i < n) (hg : g.method = m) {rest : List Value} (hs : g.stack = .int j :: .ref a :: rest) (hd : decode c.code g.pc = .ok (.iaload, 1)) :
    ∀ t, Steps p.tables e below (T.setTop { g with pc := g.pc + 1, stack := f i :: rest }) t → Steps p.tables e below (T.setTop g) t := by
  obtain ⟨cl, A, r1, r2, r3⟩ := F
  exact X.iaload hx (by rw [eT]; exact A.1) (State.isArrayOf_alike hZ.alike A.2.1) A.2.2 (own_in r1 hj hi) (by rw [hj.2]; exact r3 i hi) hg hs hd
theorem own_ldJ (X : Stand p l e R s m args below meth c T locs cells slots) (hx : p.tables.exec = Jvm.exec) (hZ : Z.Warmed39 s.vm) (eT : T.heap = h) (F : OArr Z h a .long n f) {j : Int32} {i : Nat} (hj : own_ix j i) (hi : i < n) (hg : g.method = m) {rest : List Value} (hs : g.stack = .int j :: .ref a :: rest) (hd : decode c.code g.pc = .ok (.laload, 1)) :
    ∀ t, Steps p.tables e below (T.setTop { g with pc := g.pc + 1, stack := f i :: rest }) t → Steps p.tables e below (T.setTop g) t := by
  obtain ⟨cl, A, r1, r2, r3⟩ := F
  exact X.laload hx (by rw [eT]; exact A.1) (State.isArrayOf_alike hZ.alike A.2.1) A.2.2 (own_in r1 hj hi) (by rw [hj.2]; exact r3 i hi) hg hs hd
theorem own_ldB (X : Stand p l e R s m args below meth c T locs cells slots) (hx : p.tables.exec = Jvm.exec) (hZ : Z.Warmed39 s.vm) (eT : T.heap = h) (F : OArr Z h a .byte n f) {j : Int32} {i : Nat} (hj : own_ix j i) (hi : i < n) (hg : g.method = m) {rest : List Value} (hs : g.stack = .int j :: .ref a :: rest) (hd : decode c.code g.pc = .ok (.baload, 1)) :
    ∀ t, Steps p.tables e below (T.setTop { g with pc := g.pc + 1, stack := f i :: rest }) t → Steps p.tables e below (T.setTop g) t := by
  obtain ⟨cl, A, r1, r2, r3⟩ := F
  exact X.baloadBytes hx (by rw [eT]; exact A.1) (State.isArrayOf_alike hZ.alike A.2.1) A.2.2 (own_in r1 hj hi) (by rw [hj.2]; exact r3 i hi) hg hs hd
theorem own_stI (X : Stand p l e R s m args below meth c T locs cells slots) (hx : p.tables.exec = Jvm.exec) (hZ : Z.Warmed39 s.vm) (eT : T.heap = h) (F : OArr Z h a .int n f) {j x : Int32} {i : Nat} (hj : own_ix j i) (hi : i < n) (hg : g.method = m) {rest : List Value} (hs : g.stack = .int x :: .int j :: .ref a :: rest) (hd : decode c.code g.pc = .ok (.iastore, 1)) :
    ∃ T' h', Stand p l e R s m args below meth c T' (locs ++ [⟨a, j.toNatClampNeg⟩]) cells slots ∧ T'.heap = h' ∧ Wr h h' a j.toNatClampNeg (.int x) ∧ OArr Z h' a .int n (own_upd f i (.int x)) ∧ ∀ t, Steps p.tables e below (T'.setTop { g with pc := g.pc + 1, stack := rest }) t → Steps p.tables e below (T.setTop g) t := by
  obtain ⟨cl, A, r1, r2, r3⟩ := id F
  obtain ⟨T', h', X', e', W, st⟩ := stI X hx hZ eT A (own_in r1 hj hi) hg hs hd
  exact ⟨T', h', X', e', W, F.wr hj W, st⟩
theorem own_stJ (X : Stand p l e R s m args below meth c T locs cells slots) (hx : p.tables.exec = Jvm.exec) (hZ : Z.Warmed39 s.vm) (eT : T.heap = h) (F : OArr Z h a .long n f) {j : Int32} {x : Int64} {i : Nat} (hj : own_ix j i) (hi : i < n) (hg : g.method = m) {rest : List Value} (hs : g.stack = .long x :: .int j :: .ref a :: rest) (hd : decode c.code g.pc = .ok (.lastore, 1)) :
    ∃ T' h', Stand p l e R s m args below meth c T' (locs ++ [⟨a, j.toNatClampNeg⟩]) cells slots ∧ T'.heap = h' ∧ Wr h h' a j.toNatClampNeg (.long x) ∧ OArr Z h' a .long n (own_upd f i (.long x)) ∧ ∀ t, Steps p.tables e below (T'.setTop { g with pc := g.pc + 1, stack := rest }) t → Steps p.tables e below (T.setTop g) t := by
  obtain ⟨cl, A, r1, r2, r3⟩ := id F
  obtain ⟨T', h', X', e', W, st⟩ := stJ X hx hZ eT A (own_in r1 hj hi) hg hs hd
  exact ⟨T', h', X', e', W, F.wr hj W, st⟩
theorem own_newA (X : Stand p l e R s m args below meth c T locs cells slots) (hx : p.tables.exec = Jvm.exec) (hZ : Z.Warmed39 s.vm) {aty : ArrayType} (w : (Cond.arrayClass (newarray.typeOf aty)).before a0 Z = true) (eT : T.heap = h) (hg : g.method = m) (hd : decode c.code g.pc = .ok (.newarray aty, 2)) {z : Int32} {rest : List Value} (hs : g.stack = .int z :: rest)
    (hj : own_ix z n) {cap : Nat} (hcap : n ≤ cap) (hb : cap * 8 ≤ 536870912) (hc : cells + 1 ≤ R.cells) (hl : slots + cap ≤ R.slots) :
    ∃ T' h' b, b = h.size ∧ Stand p l e R s m args below meth c T' locs (cells + 1) (slots + cap) ∧ T'.heap = h' ∧ Ext h h' ∧ OArr Z h' b (newarray.typeOf aty) n (fun _ => defaultValue (newarray.typeOf aty)) ∧
      ∀ t, Steps p.tables e below (T'.setTop { g with pc := g.pc + 2, stack := .ref b :: rest }) t → Steps p.tables e below (T.setTop g) t := by
  obtain ⟨T', h', cA, X', e', E, A, st⟩ := newP X hx hZ w eT hg hd hs hj.1 (cap := cap) (by rw [hj.2]; exact hcap) hb hc hl
  have q := back32 hj.1
  rw [hj.2] at q
  refine ⟨T', h', _, rfl, X', e', E, ⟨_, A, (sz_new _ _ _).trans hj.2, q.2, fun k hk => ?_⟩, st⟩
  show (Array.replicate z.toNatClampNeg (defaultValue (newarray.typeOf aty)))[k]? = _
  rw [hj.2, Array.getElem?_replicate, if_pos hk]
theorem own_keepL {x : Addr} {L : List Addr} (K : Keep h h' L) (q : x ∉ L) {cl : Cell} (hc : h[x]? = some cl) : h'[x]? = some cl := K.2.1 x cl hc q
theorem own_pop2L {tb : Tables} [Ours tb] {target : State} (h : At T m c below) (hx : tb.exec = Jvm.exec) (hg : g.method = m) {x : Int64} {rest : List Value} (hd : decode c.code g.pc = .ok (.pop2, 1)) (hs : g.stack = .long x :: rest)
    (hr : Steps tb e below (T.setTop { g with pc := g.pc + 1, stack := rest }) target) : Steps tb e below (T.setTop g) target := by
  subst hg
  jvm_step h [h.top, hx, hd, hs, Value.category]
  exact hr
end Own
theorem own_d_prog_71_method_14_0 : decode prog_71_method_14_code 0 = .ok (.aload_n 0, 1) := by decide +kernel
theorem own_d_prog_71_method_14_1 : decode prog_71_method_14_code 1 = .ok (.arraylength, 1) := by decide +kernel
theorem own_d_prog_71_method_14_2 : decode prog_71_method_14_code 2 = .ok (.iconst 2, 1) := by decide +kernel
theorem own_d_prog_71_method_14_3 : decode prog_71_method_14_code 3 = .ok (.if_icmp .lt 32, 3) := by decide +kernel
theorem own_d_prog_71_method_14_35 : decode prog_71_method_14_code 35 = .ok (.aload_n 0, 1) := by decide +kernel
theorem own_d_prog_71_method_14_36 : decode prog_71_method_14_code 36 = .ok (.arraylength, 1) := by decide +kernel
theorem own_d_prog_71_method_14_37 : decode prog_71_method_14_code 37 = .ok (.iconst 1, 1) := by decide +kernel
theorem own_d_prog_71_method_14_38 : decode prog_71_method_14_code 38 = .ok (.if_icmp .ne 7, 3) := by decide +kernel
theorem own_d_prog_71_method_14_45 : decode prog_71_method_14_code 45 = .ok (.return_, 1) := by decide +kernel
theorem own_pn0 : plainName "com/example/unify_to_cover/unifytocover/search/ValueSets" = true := by first | (simp [plainName, overriddenIn]; done) | decide +kernel
theorem own_d_prog_71_method_14_41 : decode prog_71_method_14_code 41 = .ok (.aload_n 0, 1) := by decide +kernel
theorem own_d_prog_71_method_14_42 : decode prog_71_method_14_code 42 = .ok (.iconst 0, 1) := by decide +kernel
theorem own_d_prog_71_method_14_43 : decode prog_71_method_14_code 43 = .ok (.lconst 0, 1) := by decide +kernel
theorem own_d_prog_71_method_14_44 : decode prog_71_method_14_code 44 = .ok (.lastore, 1) := by decide +kernel
theorem own_d_prog_71_method_14_6 : decode prog_71_method_14_code 6 = .ok (.aload_n 0, 1) := by decide +kernel
theorem own_d_prog_71_method_14_7 : decode prog_71_method_14_code 7 = .ok (.iconst 0, 1) := by decide +kernel
theorem own_d_prog_71_method_14_8 : decode prog_71_method_14_code 8 = .ok (.lconst 0, 1) := by decide +kernel
theorem own_d_prog_71_method_14_9 : decode prog_71_method_14_code 9 = .ok (.lastore, 1) := by decide +kernel
theorem own_d_prog_71_method_14_10 : decode prog_71_method_14_code 10 = .ok (.aload_n 0, 1) := by decide +kernel
theorem own_d_prog_71_method_14_11 : decode prog_71_method_14_code 11 = .ok (.iconst 1, 1) := by decide +kernel
theorem own_d_prog_71_method_14_12 : decode prog_71_method_14_code 12 = .ok (.lconst 0, 1) := by decide +kernel
theorem own_d_prog_71_method_14_13 : decode prog_71_method_14_code 13 = .ok (.lastore, 1) := by decide +kernel
theorem own_d_prog_71_method_14_14 : decode prog_71_method_14_code 14 = .ok (.iconst 2, 1) := by decide +kernel
theorem own_d_prog_71_method_14_15 : decode prog_71_method_14_code 15 = .ok (.istore_n 1, 1) := by decide +kernel
theorem own_d_prog_71_method_14_16 : decode prog_71_method_14_code 16 = .ok (.iload_n 1, 1) := by decide +kernel
theorem own_d_prog_71_method_14_17 : decode prog_71_method_14_code 17 = .ok (.aload_n 0, 1) := by decide +kernel
theorem own_d_prog_71_method_14_18 : decode prog_71_method_14_code 18 = .ok (.arraylength, 1) := by decide +kernel
theorem own_d_prog_71_method_14_19 : decode prog_71_method_14_code 19 = .ok (.if_icmp .ge 13, 3) := by decide +kernel
theorem own_d_prog_71_method_14_32 : decode prog_71_method_14_code 32 = .ok (.goto 13, 3) := by decide +kernel
theorem own_d_prog_71_method_14_22 : decode prog_71_method_14_code 22 = .ok (.aload_n 0, 1) := by decide +kernel
theorem own_d_prog_71_method_14_23 : decode prog_71_method_14_code 23 = .ok (.iload_n 1, 1) := by decide +kernel
theorem own_d_prog_71_method_14_24 : decode prog_71_method_14_code 24 = .ok (.lconst 0, 1) := by decide +kernel
theorem own_d_prog_71_method_14_25 : decode prog_71_method_14_code 25 = .ok (.lastore, 1) := by decide +kernel
theorem own_d_prog_71_method_14_26 : decode prog_71_method_14_code 26 = .ok (.iinc 1 1, 3) := by decide +kernel
theorem own_d_prog_71_method_14_29 : decode prog_71_method_14_code 29 = .ok (.goto (-13), 3) := by decide +kernel
theorem own_pd1 : parseMethodDescriptor "([J)V" = some ⟨[(.array .long)], none⟩ := by decide +kernel
theorem own_pn1 : plainName "com/example/unify_to_cover/unifytocover/search/ValueSetsClearPinLaw" = true := by first | (simp [plainName, overriddenIn]; done) | decide +kernel
theorem own_and32 (x m : Int32) (hm : m.toBitVec.msb = false) : ¬ (x &&& m) < 0 := by
  rw [Int32.lt_iff_toInt_lt]
  show ¬ ((x &&& m).toBitVec).toInt < 0
  rw [Int32.toBitVec_and]
  have : (x.toBitVec &&& m.toBitVec).msb = false := by simp [BitVec.msb_and, hm]
  have := BitVec.toInt_eq_toNat_of_msb this
  omega
theorem own_mod6 (a : Int32) (h : ¬ a < 0) : a % (6 : Int32) = (0 : Int32) ∨ a % (6 : Int32) = (1 : Int32) ∨ a % (6 : Int32) = (2 : Int32) ∨ a % (6 : Int32) = (3 : Int32) ∨ a % (6 : Int32) = (4 : Int32) ∨ a % (6 : Int32) = (5 : Int32) := by
  rw [Int32.lt_iff_toInt_lt, show (0 : Int32).toInt = 0 from rfl] at h
  simp only [← Int32.toInt_inj, Int32.toInt_mod, show (0 : Int32).toInt = 0 from rfl, show (1 : Int32).toInt = 1 from rfl, show (2 : Int32).toInt = 2 from rfl, show (3 : Int32).toInt = 3 from rfl, show (4 : Int32).toInt = 4 from rfl, show (5 : Int32).toInt = 5 from rfl, show (6 : Int32).toInt = 6 from rfl]
  rw [Int.tmod_eq_emod_of_nonneg (by omega)]
  omega
theorem own_ef_rmC0 (m : MethodId) (x0 : Addr) : entryFrame m #[(.ref x0)] 2 = mkF m 0 #[.val (.ref x0), .unset] [] := by first | (simp [entryFrame, mkF, argsToLocals, Value.category]; done) | rfl
def R_rmC0 : Room := { frames := 0, cells := 0, slots := 0, locals := 0 }
def Q_rmC0 (Z : State) (d : Addr) (h0 : Heap) (n0 : Nat) (v : Option Value) (h : Heap) (L : List Loc) : Prop := v = none ∧ Fr n0 L ∧ h = h0
set_option maxRecDepth 65536 in
set_option maxHeartbeats 40000000 in
theorem rmC0 (l : Launch) (Z : State) (a0 : Array Value) (hw : ∀ d ∈ tables_1, d.before a0 Z = true) (ws : List Jvm.Cond) (d : Addr) (h0 : Heap) (n0 : Nat) (Z0 : n0 ≤ h0.size) (A_d : OArr Z h0 d .long 0 (fun j => .long ((own_L (0 : Int64) ([] : List Int64)) j))) (g_d : n0 ≤ d) :
    MetFree l (⟨"com/example/unify_to_cover/unifytocover/search/ValueSets", "clear", "([J)V"⟩ : MethodName) (head1 (Jvm.Cond.code (⟨"com/example/unify_to_cover/unifytocover/search/ValueSets", "clear", "([J)V"⟩ : MethodName) prog_71_method_14_code 2 none :: ws) R_rmC0) (fun vs_ U => vs_ = #[(.ref d)] ∧ Z.Warmed39 U.vm ∧ U.heap = h0) (fun _ _ _ _ _ => True) (fun _ U o U' => ∃ v L, o = .returned v ∧ Q_rmC0 Z d h0 n0 v U'.heap L ∧ FrameEnd U o U' L R_rmC0.cells R_rmC0.slots) := by
  refine MetFree.of_bodySF (plainFor_of_name own_pn0) hisR ?_
  intro p e s m args below meth c s₁ Bd hml0 hP hK
  obtain ⟨rfl, hZ, hh⟩ := hP
  have hx := Bd.exec
  have hby := Bd.bytes
  have hml : c.maxLocals = 2 := hml0
  have hown : s.vm.findClass "com/example/unify_to_cover/unifytocover/search/ValueSets" = some m.cls := findClass_of_methodNamed Bd.named
  have hnm := (name_of_methodNamed Bd.named Bd.method).1
  have hlk : meth.locks = false := BodyLoose.notSynchronized Bd
  have X0 : Stand p l e R_rmC0 s m #[(.ref d)] below meth c s₁ [] 0 0 := Stand.of_body Bd
  have e0 : s₁.heap = h0 := by rw [← hh, Bd.state]; rfl
  have N0 := Fr.nil n0
  have K0 : Keep h0 h0 [d] := Keep.refl _ _
  refine OGo.en (Q := Q_rmC0 Z d h0 n0) (C := R_rmC0.cells) (S := R_rmC0.slots) (own_ef_rmC0 m d) ?_
  refine OGo.st (T' := s₁) (g' := (mkF m 1 #[.val (.ref d), .unset] [(.ref d)])) (fun _ k => (XS.aloadN X0.here hx rfl (hb hby own_d_prog_71_method_14_0) rfl rfl k)) ?_
  refine OGo.st (T' := s₁) (g' := (mkF m 36 #[.val (.ref d), .unset] [(.ref d)])) (fun _ k => (own_len X0 hx hZ e0 A_d (g := (mkF m 1 #[.val (.ref d), .unset] [(.ref d)])) rfl rfl (hb hby own_d_prog_71_method_14_1) _ (XS.iconst X0.here hx rfl (hb hby own_d_prog_71_method_14_2) (XS.icmpYes X0.here hx rfl (pc0 := 3) (pc' := 35) rfl (hb hby own_d_prog_71_method_14_3) rfl (tlt (by decide : (0 : Int32) < (2 : Int32))).1 (by decide) (by decide) (XS.aloadN X0.here hx rfl (hb hby own_d_prog_71_method_14_35) rfl rfl k))))) ?_
  refine OGo.st (T' := s₁) (g' := (mkF m 45 #[.val (.ref d), .unset] [])) (fun _ k => (own_len X0 hx hZ e0 A_d (g := (mkF m 36 #[.val (.ref d), .unset] [(.ref d)])) rfl rfl (hb hby own_d_prog_71_method_14_36) _ (XS.iconst X0.here hx rfl (hb hby own_d_prog_71_method_14_37) (XS.icmpYes X0.here hx rfl (pc0 := 38) (pc' := 45) rfl (hb hby own_d_prog_71_method_14_38) rfl (feq (by decide : ¬ ((0 : Int32) = (1 : Int32)))).2 (by decide) (by decide) k)))) ?_
  exact OGo.retV X0 hx hlk Bd.returns (hb hby own_d_prog_71_method_14_45) (by decide) (by decide) e0 (⟨rfl, N0, rfl⟩)
theorem own_ef_rmC1 (m : MethodId) (x0 : Addr) : entryFrame m #[(.ref x0)] 2 = mkF m 0 #[.val (.ref x0), .unset] [] := by first | (simp [entryFrame, mkF, argsToLocals, Value.category]; done) | rfl
def R_rmC1 : Room := { frames := 0, cells := 0, slots := 0, locals := 0 }
def Q_rmC1 (Z : State) (d : Addr) (d_0 : Int64) (h0 : Heap) (n0 : Nat) (v : Option Value) (h : Heap) (L : List Loc) : Prop := v = none ∧ Fr n0 L ∧ Keep h0 h [d] ∧ OArr Z h d .long 1 (fun j => .long ((own_L (0 : Int64) ([(0 : Int64)] : List Int64)) j))
set_option maxRecDepth 65536 in
set_option maxHeartbeats 40000000 in
theorem rmC1 (l : Launch) (Z : State) (a0 : Array Value) (hw : ∀ d ∈ tables_1, d.before a0 Z = true) (ws : List Jvm.Cond) (d : Addr) (d_0 : Int64) (h0 : Heap) (n0 : Nat) (Z0 : n0 ≤ h0.size) (A_d : OArr Z h0 d .long 1 (fun j => .long ((own_L (0 : Int64) ([d_0] : List Int64)) j))) (g_d : n0 ≤ d) :
    MetFree l (⟨"com/example/unify_to_cover/unifytocover/search/ValueSets", "clear", "([J)V"⟩ : MethodName) (head1 (Jvm.Cond.code (⟨"com/example/unify_to_cover/unifytocover/search/ValueSets", "clear", "([J)V"⟩ : MethodName) prog_71_method_14_code 2 none :: ws) R_rmC1) (fun vs_ U => vs_ = #[(.ref d)] ∧ Z.Warmed39 U.vm ∧ U.heap = h0) (fun _ _ _ _ _ => True) (fun _ U o U' => ∃ v L, o = .returned v ∧ Q_rmC1 Z d d_0 h0 n0 v U'.heap L ∧ FrameEnd U o U' L R_rmC1.cells R_rmC1.slots) := by
  refine MetFree.of_bodySF (plainFor_of_name own_pn0) hisR ?_
  intro p e s m args below meth c s₁ Bd hml0 hP hK
  obtain ⟨rfl, hZ, hh⟩ := hP
  have hx := Bd.exec
  have hby := Bd.bytes
  have hml : c.maxLocals = 2 := hml0
  have hown : s.vm.findClass "com/example/unify_to_cover/unifytocover/search/ValueSets" = some m.cls := findClass_of_methodNamed Bd.named
  have hnm := (name_of_methodNamed Bd.named Bd.method).1
  have hlk : meth.locks = false := BodyLoose.notSynchronized Bd
  have X0 : Stand p l e R_rmC1 s m #[(.ref d)] below meth c s₁ [] 0 0 := Stand.of_body Bd
  have e0 : s₁.heap = h0 := by rw [← hh, Bd.state]; rfl
  have N0 := Fr.nil n0
  have K0 : Keep h0 h0 [d] := Keep.refl _ _
  refine OGo.en (Q := Q_rmC1 Z d d_0 h0 n0) (C := R_rmC1.cells) (S := R_rmC1.slots) (own_ef_rmC1 m d) ?_
  refine OGo.st (T' := s₁) (g' := (mkF m 1 #[.val (.ref d), .unset] [(.ref d)])) (fun _ k => (XS.aloadN X0.here hx rfl (hb hby own_d_prog_71_method_14_0) rfl rfl k)) ?_
  refine OGo.st (T' := s₁) (g' := (mkF m 36 #[.val (.ref d), .unset] [(.ref d)])) (fun _ k => (own_len X0 hx hZ e0 A_d (g := (mkF m 1 #[.val (.ref d), .unset] [(.ref d)])) rfl rfl (hb hby own_d_prog_71_method_14_1) _ (XS.iconst X0.here hx rfl (hb hby own_d_prog_71_method_14_2) (XS.icmpYes X0.here hx rfl (pc0 := 3) (pc' := 35) rfl (hb hby own_d_prog_71_method_14_3) rfl (tlt (by decide : (1 : Int32) < (2 : Int32))).1 (by decide) (by decide) (XS.aloadN X0.here hx rfl (hb hby own_d_prog_71_method_14_35) rfl rfl k))))) ?_
  refine OGo.st (T' := s₁) (g' := (mkF m 44 #[.val (.ref d), .unset] [(.long (0 : Int64)), (.int (0 : Int32)), (.ref d)])) (fun _ k => (own_len X0 hx hZ e0 A_d (g := (mkF m 36 #[.val (.ref d), .unset] [(.ref d)])) rfl rfl (hb hby own_d_prog_71_method_14_36) _ (XS.iconst X0.here hx rfl (hb hby own_d_prog_71_method_14_37) (XS.icmpNo X0.here hx rfl (hb hby own_d_prog_71_method_14_38) rfl (teq (by decide : (1 : Int32) = (1 : Int32))).2 (XS.aloadN X0.here hx rfl (hb hby own_d_prog_71_method_14_41) rfl rfl (XS.iconst X0.here hx rfl (hb hby own_d_prog_71_method_14_42) (XS.lconst X0.here hx rfl (hb hby own_d_prog_71_method_14_43) k))))))) ?_
  obtain ⟨T1, h1, X1, e1, W1, V1, st1⟩ := own_stJ X0 hx hZ e0 A_d (j := (0 : Int32)) (i := 0) ⟨by decide, by decide⟩ (by decide) (g := (mkF m 44 #[.val (.ref d), .unset] [(.long (0 : Int64)), (.int (0 : Int32)), (.ref d)])) rfl rfl (hb hby own_d_prog_71_method_14_44)
  have Ad_1 : OArr Z h1 d .long 1 (fun j => .long ((own_L (0 : Int64) ([(0 : Int64)] : List Int64)) j)) := V1.cast (fun j _ => (own_updJ _ _ _ j).trans (congrArg Value.long (own_L_set (0 : Int64) ([d_0] : List Int64) 0 (0 : Int64) (Nat.le_of_ble_eq_true rfl) j)))
  have N1 := Fr.snoc X1 N0 g_d
  have Zn1 : n0 ≤ h1.size := Nat.le_trans Z0 (Nat.le_of_eq W1.size.symm)
  have K1 : Keep h0 h1 [d] := K0.wr W1 (Or.inl (List.mem_of_getElem? (i := 0) rfl))
  refine OGo.st (T' := T1) (g' := (mkF m 45 #[.val (.ref d), .unset] [])) (fun _ k => st1 _ k) ?_
  exact OGo.retV X1 hx hlk Bd.returns (hb hby own_d_prog_71_method_14_45) (by decide) (by decide) e1 (⟨rfl, N1, K1, Ad_1⟩)
theorem own_ef_rmC2 (m : MethodId) (x0 : Addr) : entryFrame m #[(.ref x0)] 2 = mkF m 0 #[.val (.ref x0), .unset] [] := by first | (simp [entryFrame, mkF, argsToLocals, Value.category]; done) | rfl
def R_rmC2 : Room := { frames := 0, cells := 0, slots := 0, locals := 0 }
def Q_rmC2 (Z : State) (d : Addr) (d_0 : Int64) (d_1 : Int64) (h0 : Heap) (n0 : Nat) (v : Option Value) (h : Heap) (L : List Loc) : Prop := v = none ∧ Fr n0 L ∧ Keep h0 h [d] ∧ OArr Z h d .long 2 (fun j => .long ((own_L (0 : Int64) ([(0 : Int64), (0 : Int64)] : List Int64)) j))
set_option maxRecDepth 65536 in
set_option maxHeartbeats 40000000 in
theorem rmC2 (l : Launch) (Z : State) (a0 : Array Value) (hw : ∀ d ∈ tables_1, d.before a0 Z = true) (ws : List Jvm.Cond) (d : Addr) (d_0 : Int64) (d_1 : Int64) (h0 : Heap) (n0 : Nat) (Z0 : n0 ≤ h0.size) (A_d : OArr Z h0 d .long 2 (fun j => .long ((own_L (0 : Int64) ([d_0, d_1] : List Int64)) j))) (g_d : n0 ≤ d) :
    MetFree l (⟨"com/example/unify_to_cover/unifytocover/search/ValueSets", "clear", "([J)V"⟩ : MethodName) (head1 (Jvm.Cond.code (⟨"com/example/unify_to_cover/unifytocover/search/ValueSets", "clear", "([J)V"⟩ : MethodName) prog_71_method_14_code 2 none :: ws) R_rmC2) (fun vs_ U => vs_ = #[(.ref d)] ∧ Z.Warmed39 U.vm ∧ U.heap = h0) (fun _ _ _ _ _ => True) (fun _ U o U' => ∃ v L, o = .returned v ∧ Q_rmC2 Z d d_0 d_1 h0 n0 v U'.heap L ∧ FrameEnd U o U' L R_rmC2.cells R_rmC2.slots) := by
  refine MetFree.of_bodySF (plainFor_of_name own_pn0) hisR ?_
  intro p e s m args below meth c s₁ Bd hml0 hP hK
  obtain ⟨rfl, hZ, hh⟩ := hP
  have hx := Bd.exec
  have hby := Bd.bytes
  have hml : c.maxLocals = 2 := hml0
  have hown : s.vm.findClass "com/example/unify_to_cover/unifytocover/search/ValueSets" = some m.cls := findClass_of_methodNamed Bd.named
  have hnm := (name_of_methodNamed Bd.named Bd.method).1
  have hlk : meth.locks = false := BodyLoose.notSynchronized Bd
  have X0 : Stand p l e R_rmC2 s m #[(.ref d)] below meth c s₁ [] 0 0 := Stand.of_body Bd
  have e0 : s₁.heap = h0 := by rw [← hh, Bd.state]; rfl
  have N0 := Fr.nil n0
  have K0 : Keep h0 h0 [d] := Keep.refl _ _
  refine OGo.en (Q := Q_rmC2 Z d d_0 d_1 h0 n0) (C := R_rmC2.cells) (S := R_rmC2.slots) (own_ef_rmC2 m d) ?_
  refine OGo.st (T' := s₁) (g' := (mkF m 1 #[.val (.ref d), .unset] [(.ref d)])) (fun _ k => (XS.aloadN X0.here hx rfl (hb hby own_d_prog_71_method_14_0) rfl rfl k)) ?_
  refine OGo.st (T' := s₁) (g' := (mkF m 9 #[.val (.ref d), .unset] [(.long (0 : Int64)), (.int (0 : Int32)), (.ref d)])) (fun _ k => (own_len X0 hx hZ e0 A_d (g := (mkF m 1 #[.val (.ref d), .unset] [(.ref d)])) rfl rfl (hb hby own_d_prog_71_method_14_1) _ (XS.iconst X0.here hx rfl (hb hby own_d_prog_71_method_14_2) (XS.icmpNo X0.here hx rfl (hb hby own_d_prog_71_method_14_3) rfl (flt (by decide : ¬ ((2 : Int32) < (2 : Int32)))).1 (XS.aloadN X0.here hx rfl (hb hby own_d_prog_71_method_14_6) rfl rfl (XS.iconst X0.here hx rfl (hb hby own_d_prog_71_method_14_7) (XS.lconst X0.here hx rfl (hb hby own_d_prog_71_method_14_8) k))))))) ?_
  obtain ⟨T1, h1, X1, e1, W1, V1, st1⟩ := own_stJ X0 hx hZ e0 A_d (j := (0 : Int32)) (i := 0) ⟨by decide, by decide⟩ (by decide) (g := (mkF m 9 #[.val (.ref d), .unset] [(.long (0 : Int64)), (.int (0 : Int32)), (.ref d)])) rfl rfl (hb hby own_d_prog_71_method_14_9)
  have Ad_1 : OArr Z h1 d .long 2 (fun j => .long ((own_L (0 : Int64) ([(0 : Int64), d_1] : List Int64)) j)) := V1.cast (fun j _ => (own_updJ _ _ _ j).trans (congrArg Value.long (own_L_set (0 : Int64) ([d_0, d_1] : List Int64) 0 (0 : Int64) (Nat.le_of_ble_eq_true rfl) j)))
  have N1 := Fr.snoc X1 N0 g_d
  have Zn1 : n0 ≤ h1.size := Nat.le_trans Z0 (Nat.le_of_eq W1.size.symm)
  have K1 : Keep h0 h1 [d] := K0.wr W1 (Or.inl (List.mem_of_getElem? (i := 0) rfl))
  refine OGo.st (T' := T1) (g' := (mkF m 10 #[.val (.ref d), .unset] [])) (fun _ k => st1 _ k) ?_
  refine OGo.st (T' := T1) (g' := (mkF m 13 #[.val (.ref d), .unset] [(.long (0 : Int64)), (.int (1 : Int32)), (.ref d)])) (fun _ k => (XS.aloadN X1.here hx rfl (hb hby own_d_prog_71_method_14_10) rfl rfl (XS.iconst X1.here hx rfl (hb hby own_d_prog_71_method_14_11) (XS.lconst X1.here hx rfl (hb hby own_d_prog_71_method_14_12) k)))) ?_
  obtain ⟨T2, h2, X2, e2, W2, V2, st2⟩ := own_stJ X1 hx hZ e1 Ad_1 (j := (1 : Int32)) (i := 1) ⟨by decide, by decide⟩ (by decide) (g := (mkF m 13 #[.val (.ref d), .unset] [(.long (0 : Int64)), (.int (1 : Int32)), (.ref d)])) rfl rfl (hb hby own_d_prog_71_method_14_13)
  have Ad_2 : OArr Z h2 d .long 2 (fun j => .long ((own_L (0 : Int64) ([(0 : Int64), (0 : Int64)] : List Int64)) j)) := V2.cast (fun j _ => (own_updJ _ _ _ j).trans (congrArg Value.long (own_L_set (0 : Int64) ([(0 : Int64), d_1] : List Int64) 1 (0 : Int64) (Nat.le_of_ble_eq_true rfl) j)))
  have N2 := Fr.snoc X2 N1 g_d
  have Zn2 : n0 ≤ h2.size := Nat.le_trans Zn1 (Nat.le_of_eq W2.size.symm)
  have K2 : Keep h0 h2 [d] := K1.wr W2 (Or.inl (List.mem_of_getElem? (i := 0) rfl))
  refine OGo.st (T' := T2) (g' := (mkF m 14 #[.val (.ref d), .unset] [])) (fun _ k => st2 _ k) ?_
  refine OGo.st (T' := T2) (g' := (mkF m 18 #[.val (.ref d), .val (.int (2 : Int32))] [(.ref d), (.int (2 : Int32))])) (fun _ k => (XS.iconst X2.here hx rfl (hb hby own_d_prog_71_method_14_14) (XS.istoreN X2.here hx rfl (hb hby own_d_prog_71_method_14_15) rfl (l' := #[.val (.ref d), .val (.int (2 : Int32))]) rfl (XS.iloadN X2.here hx rfl (hb hby own_d_prog_71_method_14_16) rfl (XS.aloadN X2.here hx rfl (hb hby own_d_prog_71_method_14_17) rfl rfl k))))) ?_
  refine OGo.st (T' := T2) (g' := (mkF m 45 #[.val (.ref d), .val (.int (2 : Int32))] [])) (fun _ k => (own_len X2 hx hZ e2 Ad_2 (g := (mkF m 18 #[.val (.ref d), .val (.int (2 : Int32))] [(.ref d), (.int (2 : Int32))])) rfl rfl (hb hby own_d_prog_71_method_14_18) _ (XS.icmpYes X2.here hx rfl (pc0 := 19) (pc' := 32) rfl (hb hby own_d_prog_71_method_14_19) rfl (flt (by decide : ¬ ((2 : Int32) < (2 : Int32)))).2.1 (by decide) (by decide) (XS.goto X2.here hx rfl (pc0 := 32) (pc' := 45) rfl (hb hby own_d_prog_71_method_14_32) (by decide) (by decide) k)))) ?_
  exact OGo.retV X2 hx hlk Bd.returns (hb hby own_d_prog_71_method_14_45) (by decide) (by decide) e2 (⟨rfl, N2, K2, Ad_2⟩)
theorem own_ef_rmC3 (m : MethodId) (x0 : Addr) : entryFrame m #[(.ref x0)] 2 = mkF m 0 #[.val (.ref x0), .unset] [] := by first | (simp [entryFrame, mkF, argsToLocals, Value.category]; done) | rfl
def R_rmC3 : Room := { frames := 0, cells := 0, slots := 0, locals := 0 }
def Q_rmC3 (Z : State) (d : Addr) (d_0 : Int64) (d_1 : Int64) (d_2 : Int64) (h0 : Heap) (n0 : Nat) (v : Option Value) (h : Heap) (L : List Loc) : Prop := v = none ∧ Fr n0 L ∧ Keep h0 h [d] ∧ OArr Z h d .long 3 (fun j => .long ((own_L (0 : Int64) ([(0 : Int64), (0 : Int64), (0 : Int64)] : List Int64)) j))
set_option maxRecDepth 65536 in
set_option maxHeartbeats 40000000 in
theorem rmC3 (l : Launch) (Z : State) (a0 : Array Value) (hw : ∀ d ∈ tables_1, d.before a0 Z = true) (ws : List Jvm.Cond) (d : Addr) (d_0 : Int64) (d_1 : Int64) (d_2 : Int64) (h0 : Heap) (n0 : Nat) (Z0 : n0 ≤ h0.size) (A_d : OArr Z h0 d .long 3 (fun j => .long ((own_L (0 : Int64) ([d_0, d_1, d_2] : List Int64)) j))) (g_d : n0 ≤ d) :
    MetFree l (⟨"com/example/unify_to_cover/unifytocover/search/ValueSets", "clear", "([J)V"⟩ : MethodName) (head1 (Jvm.Cond.code (⟨"com/example/unify_to_cover/unifytocover/search/ValueSets", "clear", "([J)V"⟩ : MethodName) prog_71_method_14_code 2 none :: ws) R_rmC3) (fun vs_ U => vs_ = #[(.ref d)] ∧ Z.Warmed39 U.vm ∧ U.heap = h0) (fun _ _ _ _ _ => True) (fun _ U o U' => ∃ v L, o = .returned v ∧ Q_rmC3 Z d d_0 d_1 d_2 h0 n0 v U'.heap L ∧ FrameEnd U o U' L R_rmC3.cells R_rmC3.slots) := by
  refine MetFree.of_bodySF (plainFor_of_name own_pn0) hisR ?_
  intro p e s m args below meth c s₁ Bd hml0 hP hK
  obtain ⟨rfl, hZ, hh⟩ := hP
  have hx := Bd.exec
  have hby := Bd.bytes
  have hml : c.maxLocals = 2 := hml0
  have hown : s.vm.findClass "com/example/unify_to_cover/unifytocover/search/ValueSets" = some m.cls := findClass_of_methodNamed Bd.named
  have hnm := (name_of_methodNamed Bd.named Bd.method).1
  have hlk : meth.locks = false := BodyLoose.notSynchronized Bd
  have X0 : Stand p l e R_rmC3 s m #[(.ref d)] below meth c s₁ [] 0 0 := Stand.of_body Bd
  have e0 : s₁.heap = h0 := by rw [← hh, Bd.state]; rfl
  have N0 := Fr.nil n0
  have K0 : Keep h0 h0 [d] := Keep.refl _ _
  refine OGo.en (Q := Q_rmC3 Z d d_0 d_1 d_2 h0 n0) (C := R_rmC3.cells) (S := R_rmC3.slots) (own_ef_rmC3 m d) ?_
  refine OGo.st (T' := s₁) (g' := (mkF m 1 #[.val (.ref d), .unset] [(.ref d)])) (fun _ k => (XS.aloadN X0.here hx rfl (hb hby own_d_prog_71_method_14_0) rfl rfl k)) ?_
  refine OGo.st (T' := s₁) (g' := (mkF m 9 #[.val (.ref d), .unset] [(.long (0 : Int64)), (.int (0 : Int32)), (.ref d)])) (fun _ k => (own_len X0 hx hZ e0 A_d (g := (mkF m 1 #[.val (.ref d), .unset] [(.ref d)])) rfl rfl (hb hby own_d_prog_71_method_14_1) _ (XS.iconst X0.here hx rfl (hb hby own_d_prog_71_method_14_2) (XS.icmpNo X0.here hx rfl (hb hby own_d_prog_71_method_14_3) rfl (flt (by decide : ¬ ((3 : Int32) < (2 : Int32)))).1 (XS.aloadN X0.here hx rfl (hb hby own_d_prog_71_method_14_6) rfl rfl (XS.iconst X0.here hx rfl (hb hby own_d_prog_71_method_14_7) (XS.lconst X0.here hx rfl (hb hby own_d_prog_71_method_14_8) k))))))) ?_
  obtain ⟨T1, h1, X1, e1, W1, V1, st1⟩ := own_stJ X0 hx hZ e0 A_d (j := (0 : Int32)) (i := 0) ⟨by decide, by decide⟩ (by decide) (g := (mkF m 9 #[.val (.ref d), .unset] [(.long (0 : Int64)), (.int (0 : Int32)), (.ref d)])) rfl rfl (hb hby own_d_prog_71_method_14_9)
  have Ad_1 : OArr Z h1 d .long 3 (fun j => .long ((own_L (0 : Int64) ([(0 : Int64), d_1, d_2] : List Int64)) j)) := V1.cast (fun j _ => (own_updJ _ _ _ j).trans (congrArg Value.long (own_L_set (0 : Int64) ([d_0, d_1, d_2] : List Int64) 0 (0 : Int64) (Nat.le_of_ble_eq_true rfl) j)))
  have N1 := Fr.snoc X1 N0 g_d
  have Zn1 : n0 ≤ h1.size := Nat.le_trans Z0 (Nat.le_of_eq W1.size.symm)
  have K1 : Keep h0 h1 [d] := K0.wr W1 (Or.inl (List.mem_of_getElem? (i := 0) rfl))
  refine OGo.st (T' := T1) (g' := (mkF m 10 #[.val (.ref d), .unset] [])) (fun _ k => st1 _ k) ?_
  refine OGo.st (T' := T1) (g' := (mkF m 13 #[.val (.ref d), .unset] [(.long (0 : Int64)), (.int (1 : Int32)), (.ref d)])) (fun _ k => (XS.aloadN X1.here hx rfl (hb hby own_d_prog_71_method_14_10) rfl rfl (XS.iconst X1.here hx rfl (hb hby own_d_prog_71_method_14_11) (XS.lconst X1.here hx rfl (hb hby own_d_prog_71_method_14_12) k)))) ?_
  obtain ⟨T2, h2, X2, e2, W2, V2, st2⟩ := own_stJ X1 hx hZ e1 Ad_1 (j := (1 : Int32)) (i := 1) ⟨by decide, by decide⟩ (by decide) (g := (mkF m 13 #[.val (.ref d), .unset] [(.long (0 : Int64)), (.int (1 : Int32)), (.ref d)])) rfl rfl (hb hby own_d_prog_71_method_14_13)
  have Ad_2 : OArr Z h2 d .long 3 (fun j => .long ((own_L (0 : Int64) ([(0 : Int64), (0 : Int64), d_2] : List Int64)) j)) := V2.cast (fun j _ => (own_updJ _ _ _ j).trans (congrArg Value.long (own_L_set (0 : Int64) ([(0 : Int64), d_1, d_2] : List Int64) 1 (0 : Int64) (Nat.le_of_ble_eq_true rfl) j)))
  have N2 := Fr.snoc X2 N1 g_d
  have Zn2 : n0 ≤ h2.size := Nat.le_trans Zn1 (Nat.le_of_eq W2.size.symm)
  have K2 : Keep h0 h2 [d] := K1.wr W2 (Or.inl (List.mem_of_getElem? (i := 0) rfl))
  refine OGo.st (T' := T2) (g' := (mkF m 14 #[.val (.ref d), .unset] [])) (fun _ k => st2 _ k) ?_
  refine OGo.st (T' := T2) (g' := (mkF m 18 #[.val (.ref d), .val (.int (2 : Int32))] [(.ref d), (.int (2 : Int32))])) (fun _ k => (XS.iconst X2.here hx rfl (hb hby own_d_prog_71_method_14_14) (XS.istoreN X2.here hx rfl (hb hby own_d_prog_71_method_14_15) rfl (l' := #[.val (.ref d), .val (.int (2 : Int32))]) rfl (XS.iloadN X2.here hx rfl (hb hby own_d_prog_71_method_14_16) rfl (XS.aloadN X2.here hx rfl (hb hby own_d_prog_71_method_14_17) rfl rfl k))))) ?_
  refine OGo.st (T' := T2) (g' := (mkF m 25 #[.val (.ref d), .val (.int (2 : Int32))] [(.long (0 : Int64)), (.int (2 : Int32)), (.ref d)])) (fun _ k => (own_len X2 hx hZ e2 Ad_2 (g := (mkF m 18 #[.val (.ref d), .val (.int (2 : Int32))] [(.ref d), (.int (2 : Int32))])) rfl rfl (hb hby own_d_prog_71_method_14_18) _ (XS.icmpNo X2.here hx rfl (hb hby own_d_prog_71_method_14_19) rfl (tlt (by decide : (2 : Int32) < (3 : Int32))).2.1 (XS.aloadN X2.here hx rfl (hb hby own_d_prog_71_method_14_22) rfl rfl (XS.iloadN X2.here hx rfl (hb hby own_d_prog_71_method_14_23) rfl (XS.lconst X2.here hx rfl (hb hby own_d_prog_71_method_14_24) k)))))) ?_
  obtain ⟨T3, h3, X3, e3, W3, V3, st3⟩ := own_stJ X2 hx hZ e2 Ad_2 (j := (2 : Int32)) (i := 2) ⟨by decide, by decide⟩ (by decide) (g := (mkF m 25 #[.val (.ref d), .val (.int (2 : Int32))] [(.long (0 : Int64)), (.int (2 : Int32)), (.ref d)])) rfl rfl (hb hby own_d_prog_71_method_14_25)
  have Ad_3 : OArr Z h3 d .long 3 (fun j => .long ((own_L (0 : Int64) ([(0 : Int64), (0 : Int64), (0 : Int64)] : List Int64)) j)) := V3.cast (fun j _ => (own_updJ _ _ _ j).trans (congrArg Value.long (own_L_set (0 : Int64) ([(0 : Int64), (0 : Int64), d_2] : List Int64) 2 (0 : Int64) (Nat.le_of_ble_eq_true rfl) j)))
  have N3 := Fr.snoc X3 N2 g_d
  have Zn3 : n0 ≤ h3.size := Nat.le_trans Zn2 (Nat.le_of_eq W3.size.symm)
  have K3 : Keep h0 h3 [d] := K2.wr W3 (Or.inl (List.mem_of_getElem? (i := 0) rfl))
  refine OGo.st (T' := T3) (g' := (mkF m 26 #[.val (.ref d), .val (.int (2 : Int32))] [])) (fun _ k => st3 _ k) ?_
  refine OGo.st (T' := T3) (g' := (mkF m 18 #[.val (.ref d), .val (.int (3 : Int32))] [(.ref d), (.int (3 : Int32))])) (fun _ k => (XS.iinc X3.here hx rfl (hb hby own_d_prog_71_method_14_26) rfl (l' := #[.val (.ref d), .val (.int (3 : Int32))]) rfl (XS.goto X3.here hx rfl (pc0 := 29) (pc' := 16) rfl (hb hby own_d_prog_71_method_14_29) (by decide) (by decide) (XS.iloadN X3.here hx rfl (hb hby own_d_prog_71_method_14_16) rfl (XS.aloadN X3.here hx rfl (hb hby own_d_prog_71_method_14_17) rfl rfl k))))) ?_
  refine OGo.st (T' := T3) (g' := (mkF m 45 #[.val (.ref d), .val (.int (3 : Int32))] [])) (fun _ k => (own_len X3 hx hZ e3 Ad_3 (g := (mkF m 18 #[.val (.ref d), .val (.int (3 : Int32))] [(.ref d), (.int (3 : Int32))])) rfl rfl (hb hby own_d_prog_71_method_14_18) _ (XS.icmpYes X3.here hx rfl (pc0 := 19) (pc' := 32) rfl (hb hby own_d_prog_71_method_14_19) rfl (flt (by decide : ¬ ((3 : Int32) < (3 : Int32)))).2.1 (by decide) (by decide) (XS.goto X3.here hx rfl (pc0 := 32) (pc' := 45) rfl (hb hby own_d_prog_71_method_14_32) (by decide) (by decide) k)))) ?_
  exact OGo.retV X3 hx hlk Bd.returns (hb hby own_d_prog_71_method_14_45) (by decide) (by decide) e3 (⟨rfl, N3, K3, Ad_3⟩)
theorem own_ef_rmC4 (m : MethodId) (x0 : Addr) : entryFrame m #[(.ref x0)] 2 = mkF m 0 #[.val (.ref x0), .unset] [] := by first | (simp [entryFrame, mkF, argsToLocals, Value.category]; done) | rfl
def R_rmC4 : Room := { frames := 0, cells := 0, slots := 0, locals := 0 }
def Q_rmC4 (Z : State) (d : Addr) (d_0 : Int64) (d_1 : Int64) (d_2 : Int64) (d_3 : Int64) (h0 : Heap) (n0 : Nat) (v : Option Value) (h : Heap) (L : List Loc) : Prop := v = none ∧ Fr n0 L ∧ Keep h0 h [d] ∧ OArr Z h d .long 4 (fun j => .long ((own_L (0 : Int64) ([(0 : Int64), (0 : Int64), (0 : Int64), (0 : Int64)] : List Int64)) j))
set_option maxRecDepth 65536 in
set_option maxHeartbeats 40000000 in
theorem rmC4 (l : Launch) (Z : State) (a0 : Array Value) (hw : ∀ d ∈ tables_1, d.before a0 Z = true) (ws : List Jvm.Cond) (d : Addr) (d_0 : Int64) (d_1 : Int64) (d_2 : Int64) (d_3 : Int64) (h0 : Heap) (n0 : Nat) (Z0 : n0 ≤ h0.size) (A_d : OArr Z h0 d .long 4 (fun j => .long ((own_L (0 : Int64) ([d_0, d_1, d_2, d_3] : List Int64)) j))) (g_d : n0 ≤ d) :
    MetFree l (⟨"com/example/unify_to_cover/unifytocover/search/ValueSets", "clear", "([J)V"⟩ : MethodName) (head1 (Jvm.Cond.code (⟨"com/example/unify_to_cover/unifytocover/search/ValueSets", "clear", "([J)V"⟩ : MethodName) prog_71_method_14_code 2 none :: ws) R_rmC4) (fun vs_ U => vs_ = #[(.ref d)] ∧ Z.Warmed39 U.vm ∧ U.heap = h0) (fun _ _ _ _ _ => True) (fun _ U o U' => ∃ v L, o = .returned v ∧ Q_rmC4 Z d d_0 d_1 d_2 d_3 h0 n0 v U'.heap L ∧ FrameEnd U o U' L R_rmC4.cells R_rmC4.slots) := by
  refine MetFree.of_bodySF (plainFor_of_name own_pn0) hisR ?_
  intro p e s m args below meth c s₁ Bd hml0 hP hK
  obtain ⟨rfl, hZ, hh⟩ := hP
  have hx := Bd.exec
  have hby := Bd.bytes
  have hml : c.maxLocals = 2 := hml0
  have hown : s.vm.findClass "com/example/unify_to_cover/unifytocover/search/ValueSets" = some m.cls := findClass_of_methodNamed Bd.named
  have hnm := (name_of_methodNamed Bd.named Bd.method).1
  have hlk : meth.locks = false := BodyLoose.notSynchronized Bd
  have X0 : Stand p l e R_rmC4 s m #[(.ref d)] below meth c s₁ [] 0 0 := Stand.of_body Bd
  have e0 : s₁.heap = h0 := by rw [← hh, Bd.state]; rfl
  have N0 := Fr.nil n0
  have K0 : Keep h0 h0 [d] := Keep.refl _ _
  refine OGo.en (Q := Q_rmC4 Z d d_0 d_1 d_2 d_3 h0 n0) (C := R_rmC4.cells) (S := R_rmC4.slots) (own_ef_rmC4 m d) ?_
  refine OGo.st (T' := s₁) (g' := (mkF m 1 #[.val (.ref d), .unset] [(.ref d)])) (fun _ k => (XS.aloadN X0.here hx rfl (hb hby own_d_prog_71_method_14_0) rfl rfl k)) ?_
  refine OGo.st (T' := s₁) (g' := (mkF m 9 #[.val (.ref d), .unset] [(.long (0 : Int64)), (.int (0 : Int32)), (.ref d)])) (fun _ k => (own_len X0 hx hZ e0 A_d (g := (mkF m 1 #[.val (.ref d), .unset] [(.ref d)])) rfl rfl (hb hby own_d_prog_71_method_14_1) _ (XS.iconst X0.here hx rfl (hb hby own_d_prog_71_method_14_2) (XS.icmpNo X0.here hx rfl (hb hby own_d_prog_71_method_14_3) rfl (flt (by decide : ¬ ((4 : Int32) < (2 : Int32)))).1 (XS.aloadN X0.here hx rfl (hb hby own_d_prog_71_method_14_6) rfl rfl (XS.iconst X0.here hx rfl (hb hby own_d_prog_71_method_14_7) (XS.lconst X0.here hx rfl (hb hby own_d_prog_71_method_14_8) k))))))) ?_
  obtain ⟨T1, h1, X1, e1, W1, V1, st1⟩ := own_stJ X0 hx hZ e0 A_d (j := (0 : Int32)) (i := 0) ⟨by decide, by decide⟩ (by decide) (g := (mkF m 9 #[.val (.ref d), .unset] [(.long (0 : Int64)), (.int (0 : Int32)), (.ref d)])) rfl rfl (hb hby own_d_prog_71_method_14_9)
  have Ad_1 : OArr Z h1 d .long 4 (fun j => .long ((own_L (0 : Int64) ([(0 : Int64), d_1, d_2, d_3] : List Int64)) j)) := V1.cast (fun j _ => (own_updJ _ _ _ j).trans (congrArg Value.long (own_L_set (0 : Int64) ([d_0, d_1, d_2, d_3] : List Int64) 0 (0 : Int64) (Nat.le_of_ble_eq_true rfl) j)))
  have N1 := Fr.snoc X1 N0 g_d
  have Zn1 : n0 ≤ h1.size := Nat.le_trans Z0 (Nat.le_of_eq W1.size.symm)
  have K1 : Keep h0 h1 [d] := K0.wr W1 (Or.inl (List.mem_of_getElem? (i := 0) rfl))
  refine OGo.st (T' := T1) (g' := (mkF m 10 #[.val (.ref d), .unset] [])) (fun _ k => st1 _ k) ?_
  refine OGo.st (T' := T1) (g' := (mkF m 13 #[.val (.ref d), .unset] [(.long (0 : Int64)), (.int (1 : Int32)), (.ref d)])) (fun _ k => (XS.aloadN X1.here hx rfl (hb hby own_d_prog_71_method_14_10) rfl rfl (XS.iconst X1.here hx rfl (hb hby own_d_prog_71_method_14_11) (XS.lconst X1.here hx rfl (hb hby own_d_prog_71_method_14_12) k)))) ?_
  obtain ⟨T2, h2, X2, e2, W2, V2, st2⟩ := own_stJ X1 hx hZ e1 Ad_1 (j := (1 : Int32)) (i := 1) ⟨by decide, by decide⟩ (by decide) (g := (mkF m 13 #[.val (.ref d), .unset] [(.long (0 : Int64)), (.int (1 : Int32)), (.ref d)])) rfl rfl (hb hby own_d_prog_71_method_14_13)
  have Ad_2 : OArr Z h2 d .long 4 (fun j => .long ((own_L (0 : Int64) ([(0 : Int64), (0 : Int64), d_2, d_3] : List Int64)) j)) := V2.cast (fun j _ => (own_updJ _ _ _ j).trans (congrArg Value.long (own_L_set (0 : Int64) ([(0 : Int64), d_1, d_2, d_3] : List Int64) 1 (0 : Int64) (Nat.le_of_ble_eq_true rfl) j)))
  have N2 := Fr.snoc X2 N1 g_d
  have Zn2 : n0 ≤ h2.size := Nat.le_trans Zn1 (Nat.le_of_eq W2.size.symm)
  have K2 : Keep h0 h2 [d] := K1.wr W2 (Or.inl (List.mem_of_getElem? (i := 0) rfl))
  refine OGo.st (T' := T2) (g' := (mkF m 14 #[.val (.ref d), .unset] [])) (fun _ k => st2 _ k) ?_
  refine OGo.st (T' := T2) (g' := (mkF m 18 #[.val (.ref d), .val (.int (2 : Int32))] [(.ref d), (.int (2 : Int32))])) (fun _ k => (XS.iconst X2.here hx rfl (hb hby own_d_prog_71_method_14_14) (XS.istoreN X2.here hx rfl (hb hby own_d_prog_71_method_14_15) rfl (l' := #[.val (.ref d), .val (.int (2 : Int32))]) rfl (XS.iloadN X2.here hx rfl (hb hby own_d_prog_71_method_14_16) rfl (XS.aloadN X2.here hx rfl (hb hby own_d_prog_71_method_14_17) rfl rfl k))))) ?_
  refine OGo.st (T' := T2) (g' := (mkF m 25 #[.val (.ref d), .val (.int (2 : Int32))] [(.long (0 : Int64)), (.int (2 : Int32)), (.ref d)])) (fun _ k => (own_len X2 hx hZ e2 Ad_2 (g := (mkF m 18 #[.val (.ref d), .val (.int (2 : Int32))] [(.ref d), (.int (2 : Int32))])) rfl rfl (hb hby own_d_prog_71_method_14_18) _ (XS.icmpNo X2.here hx rfl (hb hby own_d_prog_71_method_14_19) rfl (tlt (by decide : (2 : Int32) < (4 : Int32))).2.1 (XS.aloadN X2.here hx rfl (hb hby own_d_prog_71_method_14_22) rfl rfl (XS.iloadN X2.here hx rfl (hb hby own_d_prog_71_method_14_23) rfl (XS.lconst X2.here hx rfl (hb hby own_d_prog_71_method_14_24) k)))))) ?_
  obtain ⟨T3, h3, X3, e3, W3, V3, st3⟩ := own_stJ X2 hx hZ e2 Ad_2 (j := (2 : Int32)) (i := 2) ⟨by decide, by decide⟩ (by decide) (g := (mkF m 25 #[.val (.ref d), .val (.int (2 : Int32))] [(.long (0 : Int64)), (.int (2 : Int32)), (.ref d)])) rfl rfl (hb hby own_d_prog_71_method_14_25)
  have Ad_3 : OArr Z h3 d .long 4 (fun j => .long ((own_L (0 : Int64) ([(0 : Int64), (0 : Int64), (0 : Int64), d_3] : List Int64)) j)) := V3.cast (fun j _ => (own_updJ _ _ _ j).trans (congrArg Value.long (own_L_set (0 : Int64) ([(0 : Int64), (0 : Int64), d_2, d_3] : List Int64) 2 (0 : Int64) (Nat.le_of_ble_eq_true rfl) j)))
  have N3 := Fr.snoc X3 N2 g_d
  have Zn3 : n0 ≤ h3.size := Nat.le_trans Zn2 (Nat.le_of_eq W3.size.symm)
  have K3 : Keep h0 h3 [d] := K2.wr W3 (Or.inl (List.mem_of_getElem? (i := 0) rfl))
  refine OGo.st (T' := T3) (g' := (mkF m 26 #[.val (.ref d), .val (.int (2 : Int32))] [])) (fun _ k => st3 _ k) ?_
  refine OGo.st (T' := T3) (g' := (mkF m 18 #[.val (.ref d), .val (.int (3 : Int32))] [(.ref d), (.int (3 : Int32))])) (fun _ k => (XS.iinc X3.here hx rfl (hb hby own_d_prog_71_method_14_26) rfl (l' := #[.val (.ref d), .val (.int (3 : Int32))]) rfl (XS.goto X3.here hx rfl (pc0 := 29) (pc' := 16) rfl (hb hby own_d_prog_71_method_14_29) (by decide) (by decide) (XS.iloadN X3.here hx rfl (hb hby own_d_prog_71_method_14_16) rfl (XS.aloadN X3.here hx rfl (hb hby own_d_prog_71_method_14_17) rfl rfl k))))) ?_
  refine OGo.st (T' := T3) (g' := (mkF m 25 #[.val (.ref d), .val (.int (3 : Int32))] [(.long (0 : Int64)), (.int (3 : Int32)), (.ref d)])) (fun _ k => (own_len X3 hx hZ e3 Ad_3 (g := (mkF m 18 #[.val (.ref d), .val (.int (3 : Int32))] [(.ref d), (.int (3 : Int32))])) rfl rfl (hb hby own_d_prog_71_method_14_18) _ (XS.icmpNo X3.here hx rfl (hb hby own_d_prog_71_method_14_19) rfl (tlt (by decide : (3 : Int32) < (4 : Int32))).2.1 (XS.aloadN X3.here hx rfl (hb hby own_d_prog_71_method_14_22) rfl rfl (XS.iloadN X3.here hx rfl (hb hby own_d_prog_71_method_14_23) rfl (XS.lconst X3.here hx rfl (hb hby own_d_prog_71_method_14_24) k)))))) ?_
  obtain ⟨T4, h4, X4, e4, W4, V4, st4⟩ := own_stJ X3 hx hZ e3 Ad_3 (j := (3 : Int32)) (i := 3) ⟨by decide, by decide⟩ (by decide) (g := (mkF m 25 #[.val (.ref d), .val (.int (3 : Int32))] [(.long (0 : Int64)), (.int (3 : Int32)), (.ref d)])) rfl rfl (hb hby own_d_prog_71_method_14_25)
  have Ad_4 : OArr Z h4 d .long 4 (fun j => .long ((own_L (0 : Int64) ([(0 : Int64), (0 : Int64), (0 : Int64), (0 : Int64)] : List Int64)) j)) := V4.cast (fun j _ => (own_updJ _ _ _ j).trans (congrArg Value.long (own_L_set (0 : Int64) ([(0 : Int64), (0 : Int64), (0 : Int64), d_3] : List Int64) 3 (0 : Int64) (Nat.le_of_ble_eq_true rfl) j)))
  have N4 := Fr.snoc X4 N3 g_d
  have Zn4 : n0 ≤ h4.size := Nat.le_trans Zn3 (Nat.le_of_eq W4.size.symm)
  have K4 : Keep h0 h4 [d] := K3.wr W4 (Or.inl (List.mem_of_getElem? (i := 0) rfl))
  refine OGo.st (T' := T4) (g' := (mkF m 26 #[.val (.ref d), .val (.int (3 : Int32))] [])) (fun _ k => st4 _ k) ?_
  refine OGo.st (T' := T4) (g' := (mkF m 18 #[.val (.ref d), .val (.int (4 : Int32))] [(.ref d), (.int (4 : Int32))])) (fun _ k => (XS.iinc X4.here hx rfl (hb hby own_d_prog_71_method_14_26) rfl (l' := #[.val (.ref d), .val (.int (4 : Int32))]) rfl (XS.goto X4.here hx rfl (pc0 := 29) (pc' := 16) rfl (hb hby own_d_prog_71_method_14_29) (by decide) (by decide) (XS.iloadN X4.here hx rfl (hb hby own_d_prog_71_method_14_16) rfl (XS.aloadN X4.here hx rfl (hb hby own_d_prog_71_method_14_17) rfl rfl k))))) ?_
  refine OGo.st (T' := T4) (g' := (mkF m 45 #[.val (.ref d), .val (.int (4 : Int32))] [])) (fun _ k => (own_len X4 hx hZ e4 Ad_4 (g := (mkF m 18 #[.val (.ref d), .val (.int (4 : Int32))] [(.ref d), (.int (4 : Int32))])) rfl rfl (hb hby own_d_prog_71_method_14_18) _ (XS.icmpYes X4.here hx rfl (pc0 := 19) (pc' := 32) rfl (hb hby own_d_prog_71_method_14_19) rfl (flt (by decide : ¬ ((4 : Int32) < (4 : Int32)))).2.1 (by decide) (by decide) (XS.goto X4.here hx rfl (pc0 := 32) (pc' := 45) rfl (hb hby own_d_prog_71_method_14_32) (by decide) (by decide) k)))) ?_
  exact OGo.retV X4 hx hlk Bd.returns (hb hby own_d_prog_71_method_14_45) (by decide) (by decide) e4 (⟨rfl, N4, K4, Ad_4⟩)
theorem own_ef_rmC5 (m : MethodId) (x0 : Addr) : entryFrame m #[(.ref x0)] 2 = mkF m 0 #[.val (.ref x0), .unset] [] := by first | (simp [entryFrame, mkF, argsToLocals, Value.category]; done) | rfl
def R_rmC5 : Room := { frames := 0, cells := 0, slots := 0, locals := 0 }
def Q_rmC5 (Z : State) (d : Addr) (d_0 : Int64) (d_1 : Int64) (d_2 : Int64) (d_3 : Int64) (d_4 : Int64) (h0 : Heap) (n0 : Nat) (v : Option Value) (h : Heap) (L : List Loc) : Prop := v = none ∧ Fr n0 L ∧ Keep h0 h [d] ∧ OArr Z h d .long 5 (fun j => .long ((own_L (0 : Int64) ([(0 : Int64), (0 : Int64), (0 : Int64), (0 : Int64), (0 : Int64)] : List Int64)) j))
set_option maxRecDepth 65536 in
set_option maxHeartbeats 40000000 in
theorem rmC5 (l : Launch) (Z : State) (a0 : Array Value) (hw : ∀ d ∈ tables_1, d.before a0 Z = true) (ws : List Jvm.Cond) (d : Addr) (d_0 : Int64) (d_1 : Int64) (d_2 : Int64) (d_3 : Int64) (d_4 : Int64) (h0 : Heap) (n0 : Nat) (Z0 : n0 ≤ h0.size) (A_d : OArr Z h0 d .long 5 (fun j => .long ((own_L (0 : Int64) ([d_0, d_1, d_2, d_3, d_4] : List Int64)) j))) (g_d : n0 ≤ d) :
    MetFree l (⟨"com/example/unify_to_cover/unifytocover/search/ValueSets", "clear", "([J)V"⟩ : MethodName) (head1 (Jvm.Cond.code (⟨"com/example/unify_to_cover/unifytocover/search/ValueSets", "clear", "([J)V"⟩ : MethodName) prog_71_method_14_code 2 none :: ws) R_rmC5) (fun vs_ U => vs_ = #[(.ref d)] ∧ Z.Warmed39 U.vm ∧ U.heap = h0) (fun _ _ _ _ _ => True) (fun _ U o U' => ∃ v L, o = .returned v ∧ Q_rmC5 Z d d_0 d_1 d_2 d_3 d_4 h0 n0 v U'.heap L ∧ FrameEnd U o U' L R_rmC5.cells R_rmC5.slots) := by
  refine MetFree.of_bodySF (plainFor_of_name own_pn0) hisR ?_
  intro p e s m args below meth c s₁ Bd hml0 hP hK
  obtain ⟨rfl, hZ, hh⟩ := hP
  have hx := Bd.exec
  have hby := Bd.bytes
  have hml : c.maxLocals = 2 := hml0
  have hown : s.vm.findClass "com/example/unify_to_cover/unifytocover/search/ValueSets" = some m.cls := findClass_of_methodNamed Bd.named
  have hnm := (name_of_methodNamed Bd.named Bd.method).1
  have hlk : meth.locks = false := BodyLoose.notSynchronized Bd
  have X0 : Stand p l e R_rmC5 s m #[(.ref d)] below meth c s₁ [] 0 0 := Stand.of_body Bd
  have e0 : s₁.heap = h0 := by rw [← hh, Bd.state]; rfl
  have N0 := Fr.nil n0
  have K0 : Keep h0 h0 [d] := Keep.refl _ _
  refine OGo.en (Q := Q_rmC5 Z d d_0 d_1 d_2 d_3 d_4 h0 n0) (C := R_rmC5.cells) (S := R_rmC5.slots) (own_ef_rmC5 m d) ?_
  refine OGo.st (T' := s₁) (g' := (mkF m 1 #[.val (.ref d), .unset] [(.ref d)])) (fun _ k => (XS.aloadN X0.here hx rfl (hb hby own_d_prog_71_method_14_0) rfl rfl k)) ?_
  refine OGo.st (T' := s₁) (g' := (mkF m 9 #[.val (.ref d), .unset] [(.long (0 : Int64)), (.int (0 : Int32)), (.ref d)])) (fun _ k => (own_len X0 hx hZ e0 A_d (g := (mkF m 1 #[.val (.ref d), .unset] [(.ref d)])) rfl rfl (hb hby own_d_prog_71_method_14_1) _ (XS.iconst X0.here hx rfl (hb hby own_d_prog_71_method_14_2) (XS.icmpNo X0.here hx rfl (hb hby own_d_prog_71_method_14_3) rfl (flt (by decide : ¬ ((5 : Int32) < (2 : Int32)))).1 (XS.aloadN X0.here hx rfl (hb hby own_d_prog_71_method_14_6) rfl rfl (XS.iconst X0.here hx rfl (hb hby own_d_prog_71_method_14_7) (XS.lconst X0.here hx rfl (hb hby own_d_prog_71_method_14_8) k))))))) ?_
  obtain ⟨T1, h1, X1, e1, W1, V1, st1⟩ := own_stJ X0 hx hZ e0 A_d (j := (0 : Int32)) (i := 0) ⟨by decide, by decide⟩ (by decide) (g := (mkF m 9 #[.val (.ref d), .unset] [(.long (0 : Int64)), (.int (0 : Int32)), (.ref d)])) rfl rfl (hb hby own_d_prog_71_method_14_9)
  have Ad_1 : OArr Z h1 d .long 5 (fun j => .long ((own_L (0 : Int64) ([(0 : Int64), d_1, d_2, d_3, d_4] : List Int64)) j)) := V1.cast (fun j _ => (own_updJ _ _ _ j).trans (congrArg Value.long (own_L_set (0 : Int64) ([d_0, d_1, d_2, d_3, d_4] : List Int64) 0 (0 : Int64) (Nat.le_of_ble_eq_true rfl) j)))
  have N1 := Fr.snoc X1 N0 g_d
  have Zn1 : n0 ≤ h1.size := Nat.le_trans Z0 (Nat.le_of_eq W1.size.symm)
  have K1 : Keep h0 h1 [d] := K0.wr W1 (Or.inl (List.mem_of_getElem? (i := 0) rfl))
  refine OGo.st (T' := T1) (g' := (mkF m 10 #[.val (.ref d), .unset] [])) (fun _ k => st1 _ k) ?_
  refine OGo.st (T' := T1) (g' := (mkF m 13 #[.val (.ref d), .unset] [(.long (0 : Int64)), (.int (1 : Int32)), (.ref d)])) (fun _ k => (XS.aloadN X1.here hx rfl (hb hby own_d_prog_71_method_14_10) rfl rfl (XS.iconst X1.here hx rfl (hb hby own_d_prog_71_method_14_11) (XS.lconst X1.here hx rfl (hb hby own_d_prog_71_method_14_12) k)))) ?_
  obtain ⟨T2, h2, X2, e2, W2, V2, st2⟩ := own_stJ X1 hx hZ e1 Ad_1 (j := (1 : Int32)) (i := 1) ⟨by decide, by decide⟩ (by decide) (g := (mkF m 13 #[.val (.ref d), .unset] [(.long (0 : Int64)), (.int (1 : Int32)), (.ref d)])) rfl rfl (hb hby own_d_prog_71_method_14_13)
  have Ad_2 : OArr Z h2 d .long 5 (fun j => .long ((own_L (0 : Int64) ([(0 : Int64), (0 : Int64), d_2, d_3, d_4] : List Int64)) j)) := V2.cast (fun j _ => (own_updJ _ _ _ j).trans (congrArg Value.long (own_L_set (0 : Int64) ([(0 : Int64), d_1, d_2, d_3, d_4] : List Int64) 1 (0 : Int64) (Nat.le_of_ble_eq_true rfl) j)))
  have N2 := Fr.snoc X2 N1 g_d
  have Zn2 : n0 ≤ h2.size := Nat.le_trans Zn1 (Nat.le_of_eq W2.size.symm)
  have K2 : Keep h0 h2 [d] := K1.wr W2 (Or.inl (List.mem_of_getElem? (i := 0) rfl))
  refine OGo.st (T' := T2) (g' := (mkF m 14 #[.val (.ref d), .unset] [])) (fun _ k => st2 _ k) ?_
  refine OGo.st (T' := T2) (g' := (mkF m 18 #[.val (.ref d), .val (.int (2 : Int32))] [(.ref d), (.int (2 : Int32))])) (fun _ k => (XS.iconst X2.here hx rfl (hb hby own_d_prog_71_method_14_14) (XS.istoreN X2.here hx rfl (hb hby own_d_prog_71_method_14_15) rfl (l' := #[.val (.ref d), .val (.int (2 : Int32))]) rfl (XS.iloadN X2.here hx rfl (hb hby own_d_prog_71_method_14_16) rfl (XS.aloadN X2.here hx rfl (hb hby own_d_prog_71_method_14_17) rfl rfl k))))) ?_
  refine OGo.st (T' := T2) (g' := (mkF m 25 #[.val (.ref d), .val (.int (2 : Int32))] [(.long (0 : Int64)), (.int (2 : Int32)), (.ref d)])) (fun _ k => (own_len X2 hx hZ e2 Ad_2 (g := (mkF m 18 #[.val (.ref d), .val (.int (2 : Int32))] [(.ref d), (.int (2 : Int32))])) rfl rfl (hb hby own_d_prog_71_method_14_18) _ (XS.icmpNo X2.here hx rfl (hb hby own_d_prog_71_method_14_19) rfl (tlt (by decide : (2 : Int32) < (5 : Int32))).2.1 (XS.aloadN X2.here hx rfl (hb hby own_d_prog_71_method_14_22) rfl rfl (XS.iloadN X2.here hx rfl (hb hby own_d_prog_71_method_14_23) rfl (XS.lconst X2.here hx rfl (hb hby own_d_prog_71_method_14_24) k)))))) ?_
  obtain ⟨T3, h3, X3, e3, W3, V3, st3⟩ := own_stJ X2 hx hZ e2 Ad_2 (j := (2 : Int32)) (i := 2) ⟨by decide, by decide⟩ (by decide) (g := (mkF m 25 #[.val (.ref d), .val (.int (2 : Int32))] [(.long (0 : Int64)), (.int (2 : Int32)), (.ref d)])) rfl rfl (hb hby own_d_prog_71_method_14_25)
  have Ad_3 : OArr Z h3 d .long 5 (fun j => .long ((own_L (0 : Int64) ([(0 : Int64), (0 : Int64), (0 : Int64), d_3, d_4] : List Int64)) j)) := V3.cast (fun j _ => (own_updJ _ _ _ j).trans (congrArg Value.long (own_L_set (0 : Int64) ([(0 : Int64), (0 : Int64), d_2, d_3, d_4] : List Int64) 2 (0 : Int64) (Nat.le_of_ble_eq_true rfl) j)))
  have N3 := Fr.snoc X3 N2 g_d
  have Zn3 : n0 ≤ h3.size := Nat.le_trans Zn2 (Nat.le_of_eq W3.size.symm)
  have K3 : Keep h0 h3 [d] := K2.wr W3 (Or.inl (List.mem_of_getElem? (i := 0) rfl))
  refine OGo.st (T' := T3) (g' := (mkF m 26 #[.val (.ref d), .val (.int (2 : Int32))] [])) (fun _ k => st3 _ k) ?_
  refine OGo.st (T' := T3) (g' := (mkF m 18 #[.val (.ref d), .val (.int (3 : Int32))] [(.ref d), (.int (3 : Int32))])) (fun _ k => (XS.iinc X3.here hx rfl (hb hby own_d_prog_71_method_14_26) rfl (l' := #[.val (.ref d), .val (.int (3 : Int32))]) rfl (XS.goto X3.here hx rfl (pc0 := 29) (pc' := 16) rfl (hb hby own_d_prog_71_method_14_29) (by decide) (by decide) (XS.iloadN X3.here hx rfl (hb hby own_d_prog_71_method_14_16) rfl (XS.aloadN X3.here hx rfl (hb hby own_d_prog_71_method_14_17) rfl rfl k))))) ?_
  refine OGo.st (T' := T3) (g' := (mkF m 25 #[.val (.ref d), .val (.int (3 : Int32))] [(.long (0 : Int64)), (.int (3 : Int32)), (.ref d)])) (fun _ k => (own_len X3 hx hZ e3 Ad_3 (g := (mkF m 18 #[.val (.ref d), .val (.int (3 : Int32))] [(.ref d), (.int (3 : Int32))])) rfl rfl (hb hby own_d_prog_71_method_14_18) _ (XS.icmpNo X3.here hx rfl (hb hby own_d_prog_71_method_14_19) rfl (tlt (by decide : (3 : Int32) < (5 : Int32))).2.1 (XS.aloadN X3.here hx rfl (hb hby own_d_prog_71_method_14_22) rfl rfl (XS.iloadN X3.here hx rfl (hb hby own_d_prog_71_method_14_23) rfl (XS.lconst X3.here hx rfl (hb hby own_d_prog_71_method_14_24) k)))))) ?_
  obtain ⟨T4, h4, X4, e4, W4, V4, st4⟩ := own_stJ X3 hx hZ e3 Ad_3 (j := (3 : Int32)) (i := 3) ⟨by decide, by decide⟩ (by decide) (g := (mkF m 25 #[.val (.ref d), .val (.int (3 : Int32))] [(.long (0 : Int64)), (.int (3 : Int32)), (.ref d)])) rfl rfl (hb hby own_d_prog_71_method_14_25)
  have Ad_4 : OArr Z h4 d .long 5 (fun j => .long ((own_L (0 : Int64) ([(0 : Int64), (0 : Int64), (0 : Int64), (0 : Int64), d_4] : List Int64)) j)) := V4.cast (fun j _ => (own_updJ _ _ _ j).trans (congrArg Value.long (own_L_set (0 : Int64) ([(0 : Int64), (0 : Int64), (0 : Int64), d_3, d_4] : List Int64) 3 (0 : Int64) (Nat.le_of_ble_eq_true rfl) j)))
  have N4 := Fr.snoc X4 N3 g_d
  have Zn4 : n0 ≤ h4.size := Nat.le_trans Zn3 (Nat.le_of_eq W4.size.symm)
  have K4 : Keep h0 h4 [d] := K3.wr W4 (Or.inl (List.mem_of_getElem? (i := 0) rfl))
  refine OGo.st (T' := T4) (g' := (mkF m 26 #[.val (.ref d), .val (.int (3 : Int32))] [])) (fun _ k => st4 _ k) ?_
  refine OGo.st (T' := T4) (g' := (mkF m 18 #[.val (.ref d), .val (.int (4 : Int32))] [(.ref d), (.int (4 : Int32))])) (fun _ k => (XS.iinc X4.here hx rfl (hb hby own_d_prog_71_method_14_26) rfl (l' := #[.val (.ref d), .val (.int (4 : Int32))]) rfl (XS.goto X4.here hx rfl (pc0 := 29) (pc' := 16) rfl (hb hby own_d_prog_71_method_14_29) (by decide) (by decide) (XS.iloadN X4.here hx rfl (hb hby own_d_prog_71_method_14_16) rfl (XS.aloadN X4.here hx rfl (hb hby own_d_prog_71_method_14_17) rfl rfl k))))) ?_
  refine OGo.st (T' := T4) (g' := (mkF m 25 #[.val (.ref d), .val (.int (4 : Int32))] [(.long (0 : Int64)), (.int (4 : Int32)), (.ref d)])) (fun _ k => (own_len X4 hx hZ e4 Ad_4 (g := (mkF m 18 #[.val (.ref d), .val (.int (4 : Int32))] [(.ref d), (.int (4 : Int32))])) rfl rfl (hb hby own_d_prog_71_method_14_18) _ (XS.icmpNo X4.here hx rfl (hb hby own_d_prog_71_method_14_19) rfl (tlt (by decide : (4 : Int32) < (5 : Int32))).2.1 (XS.aloadN X4.here hx rfl (hb hby own_d_prog_71_method_14_22) rfl rfl (XS.iloadN X4.here hx rfl (hb hby own_d_prog_71_method_14_23) rfl (XS.lconst X4.here hx rfl (hb hby own_d_prog_71_method_14_24) k)))))) ?_
  obtain ⟨T5, h5, X5, e5, W5, V5, st5⟩ := own_stJ X4 hx hZ e4 Ad_4 (j := (4 : Int32)) (i := 4) ⟨by decide, by decide⟩ (by decide) (g := (mkF m 25 #[.val (.ref d), .val (.int (4 : Int32))] [(.long (0 : Int64)), (.int (4 : Int32)), (.ref d)])) rfl rfl (hb hby own_d_prog_71_method_14_25)
  have Ad_5 : OArr Z h5 d .long 5 (fun j => .long ((own_L (0 : Int64) ([(0 : Int64), (0 : Int64), (0 : Int64), (0 : Int64), (0 : Int64)] : List Int64)) j)) := V5.cast (fun j _ => (own_updJ _ _ _ j).trans (congrArg Value.long (own_L_set (0 : Int64) ([(0 : Int64), (0 : Int64), (0 : Int64), (0 : Int64), d_4] : List Int64) 4 (0 : Int64) (Nat.le_of_ble_eq_true rfl) j)))
  have N5 := Fr.snoc X5 N4 g_d
  have Zn5 : n0 ≤ h5.size := Nat.le_trans Zn4 (Nat.le_of_eq W5.size.symm)
  have K5 : Keep h0 h5 [d] := K4.wr W5 (Or.inl (List.mem_of_getElem? (i := 0) rfl))
  refine OGo.st (T' := T5) (g' := (mkF m 26 #[.val (.ref d), .val (.int (4 : Int32))] [])) (fun _ k => st5 _ k) ?_
  refine OGo.st (T' := T5) (g' := (mkF m 18 #[.val (.ref d), .val (.int (5 : Int32))] [(.ref d), (.int (5 : Int32))])) (fun _ k => (XS.iinc X5.here hx rfl (hb hby own_d_prog_71_method_14_26) rfl (l' := #[.val (.ref d), .val (.int (5 : Int32))]) rfl (XS.goto X5.here hx rfl (pc0 := 29) (pc' := 16) rfl (hb hby own_d_prog_71_method_14_29) (by decide) (by decide) (XS.iloadN X5.here hx rfl (hb hby own_d_prog_71_method_14_16) rfl (XS.aloadN X5.here hx rfl (hb hby own_d_prog_71_method_14_17) rfl rfl k))))) ?_
  refine OGo.st (T' := T5) (g' := (mkF m 45 #[.val (.ref d), .val (.int (5 : Int32))] [])) (fun _ k => (own_len X5 hx hZ e5 Ad_5 (g := (mkF m 18 #[.val (.ref d), .val (.int (5 : Int32))] [(.ref d), (.int (5 : Int32))])) rfl rfl (hb hby own_d_prog_71_method_14_18) _ (XS.icmpYes X5.here hx rfl (pc0 := 19) (pc' := 32) rfl (hb hby own_d_prog_71_method_14_19) rfl (flt (by decide : ¬ ((5 : Int32) < (5 : Int32)))).2.1 (by decide) (by decide) (XS.goto X5.here hx rfl (pc0 := 32) (pc' := 45) rfl (hb hby own_d_prog_71_method_14_32) (by decide) (by decide) k)))) ?_
  exact OGo.retV X5 hx hlk Bd.returns (hb hby own_d_prog_71_method_14_45) (by decide) (by decide) e5 (⟨rfl, N5, K5, Ad_5⟩)
theorem own_ef_rm0 (m : MethodId) (x0 : Int32) (x1 : Int64) (x2 : Int64) (x3 : Int64) (x4 : Int64) (x5 : Int64) : entryFrame m #[(.int x0), (.long x1), (.long x2), (.long x3), (.long x4), (.long x5)] maxLocals = mkF m 0 #[.val (.int x0), .val (.long x1), .second, .val (.long x2), .second, .val (.long x3), .second, .val (.long x4), .second, .val (.long x5), .second, .unset, .unset, .unset] [] := by first | (simp [entryFrame, mkF, argsToLocals, Value.category, maxLocals]; done) | rfl
def Q_rm0 (Z : State) (p0 : Int32) (p1 : Int64) (p2 : Int64) (p3 : Int64) (p4 : Int64) (p5 : Int64) (h0 : Heap) (n0 : Nat) (v : Option Value) (h : Heap) (L : List Loc) : Prop := v = some (.int 1) ∧ Fr n0 L
set_option maxRecDepth 65536 in
set_option maxHeartbeats 40000000 in
theorem rm0 (l : Launch) (Z : State) (a0 : Array Value) (hw : ∀ d ∈ tables_1, d.before a0 Z = true) (ws : List Jvm.Cond) (p0 : Int32) (p1 : Int64) (p2 : Int64) (p3 : Int64) (p4 : Int64) (p5 : Int64) (h0 : Heap) (n0 : Nat) (Z0 : n0 ≤ h0.size) :
    MetFree l x (head1 (Jvm.Cond.code x code maxLocals ret :: ws) room_1) (fun vs_ U => vs_ = #[(.int p0), (.long p1), (.long p2), (.long p3), (.long p4), (.long p5)] ∧ Z.Warmed39 U.vm ∧ U.heap = h0) (fun _ _ _ _ _ => True) (fun _ U o U' => ∃ v L, o = .returned v ∧ Q_rm0 Z p0 p1 p2 p3 p4 p5 h0 n0 v U'.heap L ∧ FrameEnd U o U' L 16 128) := by
  refine MetFree.of_bodySF (plainFor_of_name own_pn1) hisR ?_
  intro p e s m args below meth c s₁ Bd hml0 hP hK
  obtain ⟨rfl, hZ, hh⟩ := hP
  have hx := Bd.exec
  have hby := Bd.bytes
  have hml : c.maxLocals = 14 := hml0
  have hown : s.vm.findClass "com/example/unify_to_cover/unifytocover/search/ValueSetsClearPinLaw" = some m.cls := findClass_of_methodNamed Bd.named
  have hnm := (name_of_methodNamed Bd.named Bd.method).1
  have hlk : meth.locks = false := BodyLoose.notSynchronized Bd
  have X0 : Stand p l e room_1 s m #[(.int p0), (.long p1), (.long p2), (.long p3), (.long p4), (.long p5)] below meth c s₁ [] 0 0 := Stand.of_body Bd
  have e0 : s₁.heap = h0 := by rw [← hh, Bd.state]; rfl
  have N0 := Fr.nil n0
  refine OGo.en (Q := Q_rm0 Z p0 p1 p2 p3 p4 p5 h0 n0) (C := 16) (S := 128) (own_ef_rm0 m p0 p1 p2 p3 p4 p5) ?_
  refine OGo.st (T' := s₁) (g' := (mkF m 9 #[.val (.int p0), .val (.long p1), .second, .val (.long p2), .second, .val (.long p3), .second, .val (.long p4), .second, .val (.long p5), .second, .val (.int ((p0 &&& (2147483647 : Int32)) % (6 : Int32))), .unset, .unset] [])) (fun _ k => (XS.iloadN X0.here hx rfl (hb hby at_0) rfl (X0.ldcInt hx hown (mvT hZ (hw _ (List.mem_of_getElem? (i := 0) rfl))) (g := (mkF m 1 #[.val (.int p0), .val (.long p1), .second, .val (.long p2), .second, .val (.long p3), .second, .val (.long p4), .second, .val (.long p5), .second, .unset, .unset, .unset] [(.int p0)])) rfl (hb hby at_1) _ (XS.iand X0.here hx rfl (hb hby at_3) rfl (XS.bipush X0.here hx rfl (hb hby at_4) (iremM X0 hx rfl (hb hby at_6) rfl (by decide) (XS.istore X0.here hx rfl (hb hby at_7) rfl (l' := #[.val (.int p0), .val (.long p1), .second, .val (.long p2), .second, .val (.long p3), .second, .val (.long p4), .second, .val (.long p5), .second, .val (.int ((p0 &&& (2147483647 : Int32)) % (6 : Int32))), .unset, .unset]) rfl k))))))) ?_
  rcases own_mod6 (p0 &&& (2147483647 : Int32)) (own_and32 _ _ (by decide)) with hl1 | hl1 | hl1 | hl1 | hl1 | hl1
  · rw [hl1]
    refine OGo.st (T' := s₁) (g' := (mkF m 11 #[.val (.int p0), .val (.long p1), .second, .val (.long p2), .second, .val (.long p3), .second, .val (.long p4), .second, .val (.long p5), .second, .val (.int (0 : Int32)), .unset, .unset] [(.int (0 : Int32))])) (fun _ k => (XS.iload X0.here hx rfl (hb hby at_9) rfl k)) ?_
    obtain ⟨T2, h2, b2, g2, X2, e2, E2, V2, st2⟩ := own_newA X0 hx hZ (hw _ (List.mem_of_getElem? (i := 1) rfl)) e0 (g := (mkF m 11 #[.val (.int p0), .val (.long p1), .second, .val (.long p2), .second, .val (.long p3), .second, .val (.long p4), .second, .val (.long p5), .second, .val (.int (0 : Int32)), .unset, .unset] [(.int (0 : Int32))])) rfl (hb hby at_11) rfl (n := 0) ⟨by decide, by decide⟩ (cap := 0) (by decide) (by decide) (by decide) (by decide)
    have g_b2 : n0 ≤ b2 := Nat.le_trans Z0 (Nat.le_of_eq g2.symm)
    have A2 : OArr Z h2 b2 .long 0 (fun j => .long ((own_L (0 : Int64) ([] : List Int64)) j)) := OArr.cast V2 (fun j _ => congrArg Value.long (own_L_rep (0 : Int64) 0 j))
    have Zn2 : n0 ≤ h2.size := Nat.le_trans Z0 E2.1
    have X2 : Stand p l e room_1 s m _ below meth c T2 _ 1 0 := X2
    refine OGo.st (T' := T2) (g' := (mkF m 13 #[.val (.int p0), .val (.long p1), .second, .val (.long p2), .second, .val (.long p3), .second, .val (.long p4), .second, .val (.long p5), .second, .val (.int (0 : Int32)), .unset, .unset] [(.ref b2)])) (fun _ k => st2 _ k) ?_
    refine OGo.st (T' := T2) (g' := (mkF m 36 #[.val (.int p0), .val (.long p1), .second, .val (.long p2), .second, .val (.long p3), .second, .val (.long p4), .second, .val (.long p5), .second, .val (.int (0 : Int32)), .val (.ref b2), .unset] [])) (fun _ k => (XS.astore X2.here hx rfl (hb hby at_13) rfl rfl (l' := #[.val (.int p0), .val (.long p1), .second, .val (.long p2), .second, .val (.long p3), .second, .val (.long p4), .second, .val (.long p5), .second, .val (.int (0 : Int32)), .val (.ref b2), .unset]) rfl (XS.iload X2.here hx rfl (hb hby at_15) rfl (XS.ifYes X2.here hx rfl (pc0 := 17) (pc' := 25) rfl (hb hby at_17) rfl ((if0 _ _).trans (flt (by decide : ¬ ((0 : Int32) < (0 : Int32)))).2.2.2) (by decide) (by decide) (XS.iload X2.here hx rfl (hb hby at_25) rfl (XS.iconst X2.here hx rfl (hb hby at_27) (XS.icmpYes X2.here hx rfl (pc0 := 28) (pc' := 36) rfl (hb hby at_28) rfl (flt (by decide : ¬ ((1 : Int32) < (0 : Int32)))).2.2.2 (by decide) (by decide) k))))))) ?_
    refine OGo.st (T' := T2) (g' := (mkF m 60 #[.val (.int p0), .val (.long p1), .second, .val (.long p2), .second, .val (.long p3), .second, .val (.long p4), .second, .val (.long p5), .second, .val (.int (0 : Int32)), .val (.ref b2), .unset] [])) (fun _ k => (XS.iload X2.here hx rfl (hb hby at_36) rfl (XS.iconst X2.here hx rfl (hb hby at_38) (XS.icmpYes X2.here hx rfl (pc0 := 39) (pc' := 48) rfl (hb hby at_39) rfl (flt (by decide : ¬ ((2 : Int32) < (0 : Int32)))).2.2.2 (by decide) (by decide) (XS.iload X2.here hx rfl (hb hby at_48) rfl (XS.iconst X2.here hx rfl (hb hby at_50) (XS.icmpYes X2.here hx rfl (pc0 := 51) (pc' := 60) rfl (hb hby at_51) rfl (flt (by decide : ¬ ((3 : Int32) < (0 : Int32)))).2.2.2 (by decide) (by decide) k))))))) ?_
    refine OGo.st (T' := T2) (g' := (mkF m 74 #[.val (.int p0), .val (.long p1), .second, .val (.long p2), .second, .val (.long p3), .second, .val (.long p4), .second, .val (.long p5), .second, .val (.int (0 : Int32)), .val (.ref b2), .unset] [(.ref b2)])) (fun _ k => (XS.iload X2.here hx rfl (hb hby at_60) rfl (XS.iconst X2.here hx rfl (hb hby at_62) (XS.icmpYes X2.here hx rfl (pc0 := 63) (pc' := 72) rfl (hb hby at_63) rfl (flt (by decide : ¬ ((4 : Int32) < (0 : Int32)))).2.2.2 (by decide) (by decide) (XS.aload X2.here hx rfl (hb hby at_72) rfl rfl k))))) ?_
    obtain ⟨_, _, ⟨T3, L3, k3, n3⟩, -, X3, ⟨Lc3, hQ3, l3, y3, z3⟩, st3⟩ := Jvm.LawKit.callS X2 hx (y := (⟨"com/example/unify_to_cover/unifytocover/search/ValueSets", "clear", "([J)V"⟩ : MethodName)) hown (mvT hZ (hw _ (List.mem_of_getElem? (i := 2) rfl))) (mvT hZ (hw _ (List.mem_of_getElem? (i := 3) rfl))) (mvT hZ (hw _ (List.mem_of_getElem? (i := 4) rfl))) (mvT hZ (hw _ (List.mem_of_getElem? (i := 5) rfl))) (by decide) (backOf (W := 0) (rmC0 l Z a0 hw [] (b2) h2 n0 Zn2 (A2) (g_b2)) hZ (hw _ (List.mem_of_getElem? (i := 5) rfl)) (hw _ (List.mem_of_getElem? (i := 4) rfl)) (by decide) (by decide)) (g := (mkF m 74 #[.val (.int p0), .val (.long p1), .second, .val (.long p2), .second, .val (.long p3), .second, .val (.long p4), .second, .val (.long p5), .second, .val (.int (0 : Int32)), .val (.ref b2), .unset] [(.ref b2)])) rfl (by rw [hml]; rfl) (argsL := [(.ref b2)]) (rest := []) (lenOf own_pd1 rfl) rfl (by show 2 * 0 + _ ≤ _; exact Nat.le_of_eq rfl) (hb hby at_74) (fun _ _ => ⟨rfl, e2, (by decide : 1 + 0 ≤ _), (by decide : 0 + 0 ≤ _)⟩)
    dsimp only [Pt.U, Pt.locs, Pt.cells, Pt.slots] at X3 l3 y3 z3 st3 hQ3
    subst l3 y3 z3
    have X3 : Stand p l e room_1 s m _ below meth c T3 _ 1 0 := X3
    obtain ⟨rfl, Nq3, e3⟩ := hQ3
    have N3 := Fr.app N0 Nq3
    refine OGo.st (T' := T3) (g' := (mkF m 77 #[.val (.int p0), .val (.long p1), .second, .val (.long p2), .second, .val (.long p3), .second, .val (.long p4), .second, .val (.long p5), .second, .val (.int (0 : Int32)), .val (.ref b2), .unset] [])) (fun _ k => st3 _ k) ?_
    refine OGo.st (T' := T3) (g' := (mkF m 79 #[.val (.int p0), .val (.long p1), .second, .val (.long p2), .second, .val (.long p3), .second, .val (.long p4), .second, .val (.long p5), .second, .val (.int (0 : Int32)), .val (.ref b2), .unset] [(.ref b2)])) (fun _ k => (XS.aload X3.here hx rfl (hb hby at_77) rfl rfl k)) ?_
    refine OGo.st (T' := T3) (g' := (mkF m 92 #[.val (.int p0), .val (.long p1), .second, .val (.long p2), .second, .val (.long p3), .second, .val (.long p4), .second, .val (.long p5), .second, .val (.int (0 : Int32)), .val (.ref b2), .val (.int (1 : Int32))] [])) (fun _ k => (own_len X3 hx hZ e3 A2 (g := (mkF m 79 #[.val (.int p0), .val (.long p1), .second, .val (.long p2), .second, .val (.long p3), .second, .val (.long p4), .second, .val (.long p5), .second, .val (.int (0 : Int32)), .val (.ref b2), .unset] [(.ref b2)])) rfl rfl (hb hby at_79) _ (XS.iload X3.here hx rfl (hb hby at_80) rfl (XS.icmpNo X3.here hx rfl (hb hby at_82) rfl (teq (by decide : (0 : Int32) = (0 : Int32))).2 (XS.iconst X3.here hx rfl (hb hby at_85) (XS.goto X3.here hx rfl (pc0 := 86) (pc' := 90) rfl (hb hby at_86) (by decide) (by decide) (XS.istore X3.here hx rfl (hb hby at_90) rfl (l' := #[.val (.int p0), .val (.long p1), .second, .val (.long p2), .second, .val (.long p3), .second, .val (.long p4), .second, .val (.long p5), .second, .val (.int (0 : Int32)), .val (.ref b2), .val (.int (1 : Int32))]) rfl k))))))) ?_
    refine OGo.st (T' := T3) (g' := (mkF m 147 #[.val (.int p0), .val (.long p1), .second, .val (.long p2), .second, .val (.long p3), .second, .val (.long p4), .second, .val (.long p5), .second, .val (.int (0 : Int32)), .val (.ref b2), .val (.int (1 : Int32))] [(.int (0 : Int32))])) (fun _ k => (XS.iload X3.here hx rfl (hb hby at_92) rfl (XS.ifYes X3.here hx rfl (pc0 := 94) (pc' := 118) rfl (hb hby at_94) rfl ((if0 _ _).trans (flt (by decide : ¬ ((0 : Int32) < (0 : Int32)))).2.2.2) (by decide) (by decide) (XS.iload X3.here hx rfl (hb hby at_118) rfl (XS.iconst X3.here hx rfl (hb hby at_120) (XS.icmpYes X3.here hx rfl (pc0 := 121) (pc' := 145) rfl (hb hby at_121) rfl (flt (by decide : ¬ ((1 : Int32) < (0 : Int32)))).2.2.2 (by decide) (by decide) (XS.iload X3.here hx rfl (hb hby at_145) rfl k))))))) ?_
    refine OGo.st (T' := T3) (g' := (mkF m 201 #[.val (.int p0), .val (.long p1), .second, .val (.long p2), .second, .val (.long p3), .second, .val (.long p4), .second, .val (.long p5), .second, .val (.int (0 : Int32)), .val (.ref b2), .val (.int (1 : Int32))] [(.int (0 : Int32))])) (fun _ k => (XS.iconst X3.here hx rfl (hb hby at_147) (XS.icmpYes X3.here hx rfl (pc0 := 148) (pc' := 172) rfl (hb hby at_148) rfl (flt (by decide : ¬ ((2 : Int32) < (0 : Int32)))).2.2.2 (by decide) (by decide) (XS.iload X3.here hx rfl (hb hby at_172) rfl (XS.iconst X3.here hx rfl (hb hby at_174) (XS.icmpYes X3.here hx rfl (pc0 := 175) (pc' := 199) rfl (hb hby at_175) rfl (flt (by decide : ¬ ((3 : Int32) < (0 : Int32)))).2.2.2 (by decide) (by decide) (XS.iload X3.here hx rfl (hb hby at_199) rfl k))))))) ?_
    refine OGo.st (T' := T3) (g' := (mkF m 228 #[.val (.int p0), .val (.long p1), .second, .val (.long p2), .second, .val (.long p3), .second, .val (.long p4), .second, .val (.long p5), .second, .val (.int (0 : Int32)), .val (.ref b2), .val (.int (1 : Int32))] [(.int (1 : Int32))])) (fun _ k => (XS.iconst X3.here hx rfl (hb hby at_201) (XS.icmpYes X3.here hx rfl (pc0 := 202) (pc' := 226) rfl (hb hby at_202) rfl (flt (by decide : ¬ ((4 : Int32) < (0 : Int32)))).2.2.2 (by decide) (by decide) (XS.iload X3.here hx rfl (hb hby at_226) rfl k)))) ?_
    exact OGo.ret X3 hx hlk Bd.returns rfl (own_rI (Or.inr (Or.inl rfl))) (hb hby at_228) (by decide) (by decide) e3 (⟨rfl, N3⟩)
  · rw [hl1]
    refine OGo.st (T' := s₁) (g' := (mkF m 11 #[.val (.int p0), .val (.long p1), .second, .val (.long p2), .second, .val (.long p3), .second, .val (.long p4), .second, .val (.long p5), .second, .val (.int (1 : Int32)), .unset, .unset] [(.int (1 : Int32))])) (fun _ k => (XS.iload X0.here hx rfl (hb hby at_9) rfl k)) ?_
    obtain ⟨T4, h4, b4, g4, X4, e4, E4, V4, st4⟩ := own_newA X0 hx hZ (hw _ (List.mem_of_getElem? (i := 1) rfl)) e0 (g := (mkF m 11 #[.val (.int p0), .val (.long p1), .second, .val (.long p2), .second, .val (.long p3), .second, .val (.long p4), .second, .val (.long p5), .second, .val (.int (1 : Int32)), .unset, .unset] [(.int (1 : Int32))])) rfl (hb hby at_11) rfl (n := 1) ⟨by decide, by decide⟩ (cap := 1) (by decide) (by decide) (by decide) (by decide)
    have g_b4 : n0 ≤ b4 := Nat.le_trans Z0 (Nat.le_of_eq g4.symm)
    have A4 : OArr Z h4 b4 .long 1 (fun j => .long ((own_L (0 : Int64) ([(0 : Int64)] : List Int64)) j)) := OArr.cast V4 (fun j _ => congrArg Value.long (own_L_rep (0 : Int64) 1 j))
    have Zn4 : n0 ≤ h4.size := Nat.le_trans Z0 E4.1
    have X4 : Stand p l e room_1 s m _ below meth c T4 _ 1 1 := X4
    refine OGo.st (T' := T4) (g' := (mkF m 13 #[.val (.int p0), .val (.long p1), .second, .val (.long p2), .second, .val (.long p3), .second, .val (.long p4), .second, .val (.long p5), .second, .val (.int (1 : Int32)), .unset, .unset] [(.ref b4)])) (fun _ k => st4 _ k) ?_
    refine OGo.st (T' := T4) (g' := (mkF m 24 #[.val (.int p0), .val (.long p1), .second, .val (.long p2), .second, .val (.long p3), .second, .val (.long p4), .second, .val (.long p5), .second, .val (.int (1 : Int32)), .val (.ref b4), .unset] [(.long p1), (.int (0 : Int32)), (.ref b4)])) (fun _ k => (XS.astore X4.here hx rfl (hb hby at_13) rfl rfl (l' := #[.val (.int p0), .val (.long p1), .second, .val (.long p2), .second, .val (.long p3), .second, .val (.long p4), .second, .val (.long p5), .second, .val (.int (1 : Int32)), .val (.ref b4), .unset]) rfl (XS.iload X4.here hx rfl (hb hby at_15) rfl (XS.ifNo X4.here hx rfl (hb hby at_17) rfl ((if0 _ _).trans (tlt (by decide : (0 : Int32) < (1 : Int32))).2.2.2) (XS.aload X4.here hx rfl (hb hby at_20) rfl rfl (XS.iconst X4.here hx rfl (hb hby at_22) (XS.lloadN X4.here hx rfl (hb hby at_23) rfl k))))))) ?_
    obtain ⟨T5, h5, X5, e5, W5, V5, st5⟩ := own_stJ X4 hx hZ e4 A4 (j := (0 : Int32)) (i := 0) ⟨by decide, by decide⟩ (by decide) (g := (mkF m 24 #[.val (.int p0), .val (.long p1), .second, .val (.long p2), .second, .val (.long p3), .second, .val (.long p4), .second, .val (.long p5), .second, .val (.int (1 : Int32)), .val (.ref b4), .unset] [(.long p1), (.int (0 : Int32)), (.ref b4)])) rfl rfl (hb hby at_24)
    have Ab4_5 : OArr Z h5 b4 .long 1 (fun j => .long ((own_L (0 : Int64) ([p1] : List Int64)) j)) := V5.cast (fun j _ => (own_updJ _ _ _ j).trans (congrArg Value.long (own_L_set (0 : Int64) ([(0 : Int64)] : List Int64) 0 p1 (Nat.le_of_ble_eq_true rfl) j)))
    have N5 := Fr.snoc X5 N0 g_b4
    have Zn5 : n0 ≤ h5.size := Nat.le_trans Zn4 (Nat.le_of_eq W5.size.symm)
    refine OGo.st (T' := T5) (g' := (mkF m 25 #[.val (.int p0), .val (.long p1), .second, .val (.long p2), .second, .val (.long p3), .second, .val (.long p4), .second, .val (.long p5), .second, .val (.int (1 : Int32)), .val (.ref b4), .unset] [])) (fun _ k => st5 _ k) ?_
    refine OGo.st (T' := T5) (g' := (mkF m 48 #[.val (.int p0), .val (.long p1), .second, .val (.long p2), .second, .val (.long p3), .second, .val (.long p4), .second, .val (.long p5), .second, .val (.int (1 : Int32)), .val (.ref b4), .unset] [])) (fun _ k => (XS.iload X5.here hx rfl (hb hby at_25) rfl (XS.iconst X5.here hx rfl (hb hby at_27) (XS.icmpYes X5.here hx rfl (pc0 := 28) (pc' := 36) rfl (hb hby at_28) rfl (flt (by decide : ¬ ((1 : Int32) < (1 : Int32)))).2.2.2 (by decide) (by decide) (XS.iload X5.here hx rfl (hb hby at_36) rfl (XS.iconst X5.here hx rfl (hb hby at_38) (XS.icmpYes X5.here hx rfl (pc0 := 39) (pc' := 48) rfl (hb hby at_39) rfl (flt (by decide : ¬ ((2 : Int32) < (1 : Int32)))).2.2.2 (by decide) (by decide) k))))))) ?_
    refine OGo.st (T' := T5) (g' := (mkF m 72 #[.val (.int p0), .val (.long p1), .second, .val (.long p2), .second, .val (.long p3), .second, .val (.long p4), .second, .val (.long p5), .second, .val (.int (1 : Int32)), .val (.ref b4), .unset] [])) (fun _ k => (XS.iload X5.here hx rfl (hb hby at_48) rfl (XS.iconst X5.here hx rfl (hb hby at_50) (XS.icmpYes X5.here hx rfl (pc0 := 51) (pc' := 60) rfl (hb hby at_51) rfl (flt (by decide : ¬ ((3 : Int32) < (1 : Int32)))).2.2.2 (by decide) (by decide) (XS.iload X5.here hx rfl (hb hby at_60) rfl (XS.iconst X5.here hx rfl (hb hby at_62) (XS.icmpYes X5.here hx rfl (pc0 := 63) (pc' := 72) rfl (hb hby at_63) rfl (flt (by decide : ¬ ((4 : Int32) < (1 : Int32)))).2.2.2 (by decide) (by decide) k))))))) ?_
    refine OGo.st (T' := T5) (g' := (mkF m 74 #[.val (.int p0), .val (.long p1), .second, .val (.long p2), .second, .val (.long p3), .second, .val (.long p4), .second, .val (.long p5), .second, .val (.int (1 : Int32)), .val (.ref b4), .unset] [(.ref b4)])) (fun _ k => (XS.aload X5.here hx rfl (hb hby at_72) rfl rfl k)) ?_
    obtain ⟨_, _, ⟨T6, L6, k6, n6⟩, -, X6, ⟨Lc6, hQ6, l6, y6, z6⟩, st6⟩ := Jvm.LawKit.callS X5 hx (y := (⟨"com/example/unify_to_cover/unifytocover/search/ValueSets", "clear", "([J)V"⟩ : MethodName)) hown (mvT hZ (hw _ (List.mem_of_getElem? (i := 2) rfl))) (mvT hZ (hw _ (List.mem_of_getElem? (i := 3) rfl))) (mvT hZ (hw _ (List.mem_of_getElem? (i := 4) rfl))) (mvT hZ (hw _ (List.mem_of_getElem? (i := 5) rfl))) (by decide) (backOf (W := 0) (rmC1 l Z a0 hw [] (b4) (p1) h5 n0 Zn5 (Ab4_5) (g_b4)) hZ (hw _ (List.mem_of_getElem? (i := 5) rfl)) (hw _ (List.mem_of_getElem? (i := 4) rfl)) (by decide) (by decide)) (g := (mkF m 74 #[.val (.int p0), .val (.long p1), .second, .val (.long p2), .second, .val (.long p3), .second, .val (.long p4), .second, .val (.long p5), .second, .val (.int (1 : Int32)), .val (.ref b4), .unset] [(.ref b4)])) rfl (by rw [hml]; rfl) (argsL := [(.ref b4)]) (rest := []) (lenOf own_pd1 rfl) rfl (by show 2 * 0 + _ ≤ _; exact Nat.le_of_eq rfl) (hb hby at_74) (fun _ _ => ⟨rfl, e5, (by decide : 1 + 0 ≤ _), (by decide : 1 + 0 ≤ _)⟩)
    dsimp only [Pt.U, Pt.locs, Pt.cells, Pt.slots] at X6 l6 y6 z6 st6 hQ6
    subst l6 y6 z6
    have X6 : Stand p l e room_1 s m _ below meth c T6 _ 1 1 := X6
    obtain ⟨h6, e6⟩ : ∃ z, T6.heap = z := ⟨_, rfl⟩
    rw [e6] at hQ6
    obtain ⟨rfl, Nq6, Kc6, G6x0⟩ := hQ6
    have N6 := Fr.app N5 Nq6
    have Zn6 : n0 ≤ h6.size := Nat.le_trans Zn5 Kc6.1
    refine OGo.st (T' := T6) (g' := (mkF m 77 #[.val (.int p0), .val (.long p1), .second, .val (.long p2), .second, .val (.long p3), .second, .val (.long p4), .second, .val (.long p5), .second, .val (.int (1 : Int32)), .val (.ref b4), .unset] [])) (fun _ k => st6 _ k) ?_
    refine OGo.st (T' := T6) (g' := (mkF m 79 #[.val (.int p0), .val (.long p1), .second, .val (.long p2), .second, .val (.long p3), .second, .val (.long p4), .second, .val (.long p5), .second, .val (.int (1 : Int32)), .val (.ref b4), .unset] [(.ref b4)])) (fun _ k => (XS.aload X6.here hx rfl (hb hby at_77) rfl rfl k)) ?_
    refine OGo.st (T' := T6) (g' := (mkF m 92 #[.val (.int p0), .val (.long p1), .second, .val (.long p2), .second, .val (.long p3), .second, .val (.long p4), .second, .val (.long p5), .second, .val (.int (1 : Int32)), .val (.ref b4), .val (.int (1 : Int32))] [])) (fun _ k => (own_len X6 hx hZ e6 G6x0 (g := (mkF m 79 #[.val (.int p0), .val (.long p1), .second, .val (.long p2), .second, .val (.long p3), .second, .val (.long p4), .second, .val (.long p5), .second, .val (.int (1 : Int32)), .val (.ref b4), .unset] [(.ref b4)])) rfl rfl (hb hby at_79) _ (XS.iload X6.here hx rfl (hb hby at_80) rfl (XS.icmpNo X6.here hx rfl (hb hby at_82) rfl (teq (by decide : (1 : Int32) = (1 : Int32))).2 (XS.iconst X6.here hx rfl (hb hby at_85) (XS.goto X6.here hx rfl (pc0 := 86) (pc' := 90) rfl (hb hby at_86) (by decide) (by decide) (XS.istore X6.here hx rfl (hb hby at_90) rfl (l' := #[.val (.int p0), .val (.long p1), .second, .val (.long p2), .second, .val (.long p3), .second, .val (.long p4), .second, .val (.long p5), .second, .val (.int (1 : Int32)), .val (.ref b4), .val (.int (1 : Int32))]) rfl k))))))) ?_
    refine OGo.st (T' := T6) (g' := (mkF m 105 #[.val (.int p0), .val (.long p1), .second, .val (.long p2), .second, .val (.long p3), .second, .val (.long p4), .second, .val (.long p5), .second, .val (.int (1 : Int32)), .val (.ref b4), .val (.int (1 : Int32))] [(.int (0 : Int32)), (.ref b4)])) (fun _ k => (XS.iload X6.here hx rfl (hb hby at_92) rfl (XS.ifNo X6.here hx rfl (hb hby at_94) rfl ((if0 _ _).trans (tlt (by decide : (0 : Int32) < (1 : Int32))).2.2.2) (XS.iload X6.here hx rfl (hb hby at_97) rfl (XS.ifNo X6.here hx rfl (hb hby at_99) rfl ((if0 _ _).trans (feq (by decide : ¬ ((1 : Int32) = (0 : Int32)))).1) (XS.aload X6.here hx rfl (hb hby at_102) rfl rfl (XS.iconst X6.here hx rfl (hb hby at_104) k))))))) ?_
    refine OGo.st (T' := T6) (g' := (mkF m 106 #[.val (.int p0), .val (.long p1), .second, .val (.long p2), .second, .val (.long p3), .second, .val (.long p4), .second, .val (.long p5), .second, .val (.int (1 : Int32)), .val (.ref b4), .val (.int (1 : Int32))] [(.long (0 : Int64))])) (fun _ k => (own_ldJ X6 hx hZ e6 G6x0 (j := (0 : Int32)) (i := 0) ⟨by decide, by decide⟩ (by decide) (g := (mkF m 105 #[.val (.int p0), .val (.long p1), .second, .val (.long p2), .second, .val (.long p3), .second, .val (.long p4), .second, .val (.long p5), .second, .val (.int (1 : Int32)), .val (.ref b4), .val (.int (1 : Int32))] [(.int (0 : Int32)), (.ref b4)])) rfl rfl (hb hby at_105) _ k)) ?_
    refine OGo.st (T' := T6) (g' := (mkF m 118 #[.val (.int p0), .val (.long p1), .second, .val (.long p2), .second, .val (.long p3), .second, .val (.long p4), .second, .val (.long p5), .second, .val (.int (1 : Int32)), .val (.ref b4), .val (.int (1 : Int32))] [])) (fun _ k => (XS.lconst X6.here hx rfl (hb hby at_106) (XS.lcmp X6.here hx rfl (hb hby at_107) rfl (XS.ifNo X6.here hx rfl (hb hby at_108) rfl ((if0 _ _).trans (teq ((lw_eq (0 : Int64) (0 : Int64)).mpr (by decide : (0 : Int64) = (0 : Int64)))).2) (XS.iconst X6.here hx rfl (hb hby at_111) (XS.goto X6.here hx rfl (pc0 := 112) (pc' := 116) rfl (hb hby at_112) (by decide) (by decide) (XS.istore X6.here hx rfl (hb hby at_116) rfl (l' := #[.val (.int p0), .val (.long p1), .second, .val (.long p2), .second, .val (.long p3), .second, .val (.long p4), .second, .val (.long p5), .second, .val (.int (1 : Int32)), .val (.ref b4), .val (.int (1 : Int32))]) rfl k))))))) ?_
    refine OGo.st (T' := T6) (g' := (mkF m 172 #[.val (.int p0), .val (.long p1), .second, .val (.long p2), .second, .val (.long p3), .second, .val (.long p4), .second, .val (.long p5), .second, .val (.int (1 : Int32)), .val (.ref b4), .val (.int (1 : Int32))] [])) (fun _ k => (XS.iload X6.here hx rfl (hb hby at_118) rfl (XS.iconst X6.here hx rfl (hb hby at_120) (XS.icmpYes X6.here hx rfl (pc0 := 121) (pc' := 145) rfl (hb hby at_121) rfl (flt (by decide : ¬ ((1 : Int32) < (1 : Int32)))).2.2.2 (by decide) (by decide) (XS.iload X6.here hx rfl (hb hby at_145) rfl (XS.iconst X6.here hx rfl (hb hby at_147) (XS.icmpYes X6.here hx rfl (pc0 := 148) (pc' := 172) rfl (hb hby at_148) rfl (flt (by decide : ¬ ((2 : Int32) < (1 : Int32)))).2.2.2 (by decide) (by decide) k))))))) ?_
    refine OGo.st (T' := T6) (g' := (mkF m 226 #[.val (.int p0), .val (.long p1), .second, .val (.long p2), .second, .val (.long p3), .second, .val (.long p4), .second, .val (.long p5), .second, .val (.int (1 : Int32)), .val (.ref b4), .val (.int (1 : Int32))] [])) (fun _ k => (XS.iload X6.here hx rfl (hb hby at_172) rfl (XS.iconst X6.here hx rfl (hb hby at_174) (XS.icmpYes X6.here hx rfl (pc0 := 175) (pc' := 199) rfl (hb hby at_175) rfl (flt (by decide : ¬ ((3 : Int32) < (1 : Int32)))).2.2.2 (by decide) (by decide) (XS.iload X6.here hx rfl (hb hby at_199) rfl (XS.iconst X6.here hx rfl (hb hby at_201) (XS.icmpYes X6.here hx rfl (pc0 := 202) (pc' := 226) rfl (hb hby at_202) rfl (flt (by decide : ¬ ((4 : Int32) < (1 : Int32)))).2.2.2 (by decide) (by decide) k))))))) ?_
    refine OGo.st (T' := T6) (g' := (mkF m 228 #[.val (.int p0), .val (.long p1), .second, .val (.long p2), .second, .val (.long p3), .second, .val (.long p4), .second, .val (.long p5), .second, .val (.int (1 : Int32)), .val (.ref b4), .val (.int (1 : Int32))] [(.int (1 : Int32))])) (fun _ k => (XS.iload X6.here hx rfl (hb hby at_226) rfl k)) ?_
    exact OGo.ret X6 hx hlk Bd.returns rfl (own_rI (Or.inr (Or.inl rfl))) (hb hby at_228) (by decide) (by decide) e6 (⟨rfl, N6⟩)
  · rw [hl1]
    refine OGo.st (T' := s₁) (g' := (mkF m 11 #[.val (.int p0), .val (.long p1), .second, .val (.long p2), .second, .val (.long p3), .second, .val (.long p4), .second, .val (.long p5), .second, .val (.int (2 : Int32)), .unset, .unset] [(.int (2 : Int32))])) (fun _ k => (XS.iload X0.here hx rfl (hb hby at_9) rfl k)) ?_
    obtain ⟨T7, h7, b7, g7, X7, e7, E7, V7, st7⟩ := own_newA X0 hx hZ (hw _ (List.mem_of_getElem? (i := 1) rfl)) e0 (g := (mkF m 11 #[.val (.int p0), .val (.long p1), .second, .val (.long p2), .second, .val (.long p3), .second, .val (.long p4), .second, .val (.long p5), .second, .val (.int (2 : Int32)), .unset, .unset] [(.int (2 : Int32))])) rfl (hb hby at_11) rfl (n := 2) ⟨by decide, by decide⟩ (cap := 2) (by decide) (by decide) (by decide) (by decide)
    have g_b7 : n0 ≤ b7 := Nat.le_trans Z0 (Nat.le_of_eq g7.symm)
    have A7 : OArr Z h7 b7 .long 2 (fun j => .long ((own_L (0 : Int64) ([(0 : Int64), (0 : Int64)] : List Int64)) j)) := OArr.cast V7 (fun j _ => congrArg Value.long (own_L_rep (0 : Int64) 2 j))
    have Zn7 : n0 ≤ h7.size := Nat.le_trans Z0 E7.1
    have X7 : Stand p l e room_1 s m _ below meth c T7 _ 1 2 := X7
    refine OGo.st (T' := T7) (g' := (mkF m 13 #[.val (.int p0), .val (.long p1), .second, .val (.long p2), .second, .val (.long p3), .second, .val (.long p4), .second, .val (.long p5), .second, .val (.int (2 : Int32)), .unset, .unset] [(.ref b7)])) (fun _ k => st7 _ k) ?_
    refine OGo.st (T' := T7) (g' := (mkF m 24 #[.val (.int p0), .val (.long p1), .second, .val (.long p2), .second, .val (.long p3), .second, .val (.long p4), .second, .val (.long p5), .second, .val (.int (2 : Int32)), .val (.ref b7), .unset] [(.long p1), (.int (0 : Int32)), (.ref b7)])) (fun _ k => (XS.astore X7.here hx rfl (hb hby at_13) rfl rfl (l' := #[.val (.int p0), .val (.long p1), .second, .val (.long p2), .second, .val (.long p3), .second, .val (.long p4), .second, .val (.long p5), .second, .val (.int (2 : Int32)), .val (.ref b7), .unset]) rfl (XS.iload X7.here hx rfl (hb hby at_15) rfl (XS.ifNo X7.here hx rfl (hb hby at_17) rfl ((if0 _ _).trans (tlt (by decide : (0 : Int32) < (2 : Int32))).2.2.2) (XS.aload X7.here hx rfl (hb hby at_20) rfl rfl (XS.iconst X7.here hx rfl (hb hby at_22) (XS.lloadN X7.here hx rfl (hb hby at_23) rfl k))))))) ?_
    obtain ⟨T8, h8, X8, e8, W8, V8, st8⟩ := own_stJ X7 hx hZ e7 A7 (j := (0 : Int32)) (i := 0) ⟨by decide, by decide⟩ (by decide) (g := (mkF m 24 #[.val (.int p0), .val (.long p1), .second, .val (.long p2), .second, .val (.long p3), .second, .val (.long p4), .second, .val (.long p5), .second, .val (.int (2 : Int32)), .val (.ref b7), .unset] [(.long p1), (.int (0 : Int32)), (.ref b7)])) rfl rfl (hb hby at_24)
    have Ab7_8 : OArr Z h8 b7 .long 2 (fun j => .long ((own_L (0 : Int64) ([p1, (0 : Int64)] : List Int64)) j)) := V8.cast (fun j _ => (own_updJ _ _ _ j).trans (congrArg Value.long (own_L_set (0 : Int64) ([(0 : Int64), (0 : Int64)] : List Int64) 0 p1 (Nat.le_of_ble_eq_true rfl) j)))
    have N8 := Fr.snoc X8 N0 g_b7
    have Zn8 : n0 ≤ h8.size := Nat.le_trans Zn7 (Nat.le_of_eq W8.size.symm)
    refine OGo.st (T' := T8) (g' := (mkF m 25 #[.val (.int p0), .val (.long p1), .second, .val (.long p2), .second, .val (.long p3), .second, .val (.long p4), .second, .val (.long p5), .second, .val (.int (2 : Int32)), .val (.ref b7), .unset] [])) (fun _ k => st8 _ k) ?_
    refine OGo.st (T' := T8) (g' := (mkF m 35 #[.val (.int p0), .val (.long p1), .second, .val (.long p2), .second, .val (.long p3), .second, .val (.long p4), .second, .val (.long p5), .second, .val (.int (2 : Int32)), .val (.ref b7), .unset] [(.long p2), (.int (1 : Int32)), (.ref b7)])) (fun _ k => (XS.iload X8.here hx rfl (hb hby at_25) rfl (XS.iconst X8.here hx rfl (hb hby at_27) (XS.icmpNo X8.here hx rfl (hb hby at_28) rfl (tlt (by decide : (1 : Int32) < (2 : Int32))).2.2.2 (XS.aload X8.here hx rfl (hb hby at_31) rfl rfl (XS.iconst X8.here hx rfl (hb hby at_33) (XS.lloadN X8.here hx rfl (hb hby at_34) rfl k))))))) ?_
    obtain ⟨T9, h9, X9, e9, W9, V9, st9⟩ := own_stJ X8 hx hZ e8 Ab7_8 (j := (1 : Int32)) (i := 1) ⟨by decide, by decide⟩ (by decide) (g := (mkF m 35 #[.val (.int p0), .val (.long p1), .second, .val (.long p2), .second, .val (.long p3), .second, .val (.long p4), .second, .val (.long p5), .second, .val (.int (2 : Int32)), .val (.ref b7), .unset] [(.long p2), (.int (1 : Int32)), (.ref b7)])) rfl rfl (hb hby at_35)
    have Ab7_9 : OArr Z h9 b7 .long 2 (fun j => .long ((own_L (0 : Int64) ([p1, p2] : List Int64)) j)) := V9.cast (fun j _ => (own_updJ _ _ _ j).trans (congrArg Value.long (own_L_set (0 : Int64) ([p1, (0 : Int64)] : List Int64) 1 p2 (Nat.le_of_ble_eq_true rfl) j)))
    have N9 := Fr.snoc X9 N8 g_b7
    have Zn9 : n0 ≤ h9.size := Nat.le_trans Zn8 (Nat.le_of_eq W9.size.symm)
    refine OGo.st (T' := T9) (g' := (mkF m 36 #[.val (.int p0), .val (.long p1), .second, .val (.long p2), .second, .val (.long p3), .second, .val (.long p4), .second, .val (.long p5), .second, .val (.int (2 : Int32)), .val (.ref b7), .unset] [])) (fun _ k => st9 _ k) ?_
    refine OGo.st (T' := T9) (g' := (mkF m 60 #[.val (.int p0), .val (.long p1), .second, .val (.long p2), .second, .val (.long p3), .second, .val (.long p4), .second, .val (.long p5), .second, .val (.int (2 : Int32)), .val (.ref b7), .unset] [])) (fun _ k => (XS.iload X9.here hx rfl (hb hby at_36) rfl (XS.iconst X9.here hx rfl (hb hby at_38) (XS.icmpYes X9.here hx rfl (pc0 := 39) (pc' := 48) rfl (hb hby at_39) rfl (flt (by decide : ¬ ((2 : Int32) < (2 : Int32)))).2.2.2 (by decide) (by decide) (XS.iload X9.here hx rfl (hb hby at_48) rfl (XS.iconst X9.here hx rfl (hb hby at_50) (XS.icmpYes X9.here hx rfl (pc0 := 51) (pc' := 60) rfl (hb hby at_51) rfl (flt (by decide : ¬ ((3 : Int32) < (2 : Int32)))).2.2.2 (by decide) (by decide) k))))))) ?_
    refine OGo.st (T' := T9) (g' := (mkF m 74 #[.val (.int p0), .val (.long p1), .second, .val (.long p2), .second, .val (.long p3), .second, .val (.long p4), .second, .val (.long p5), .second, .val (.int (2 : Int32)), .val (.ref b7), .unset] [(.ref b7)])) (fun _ k => (XS.iload X9.here hx rfl (hb hby at_60) rfl (XS.iconst X9.here hx rfl (hb hby at_62) (XS.icmpYes X9.here hx rfl (pc0 := 63) (pc' := 72) rfl (hb hby at_63) rfl (flt (by decide : ¬ ((4 : Int32) < (2 : Int32)))).2.2.2 (by decide) (by decide) (XS.aload X9.here hx rfl (hb hby at_72) rfl rfl k))))) ?_
    obtain ⟨_, _, ⟨T10, L10, k10, n10⟩, -, X10, ⟨Lc10, hQ10, l10, y10, z10⟩, st10⟩ := Jvm.LawKit.callS X9 hx (y := (⟨"com/example/unify_to_cover/unifytocover/search/ValueSets", "clear", "([J)V"⟩ : MethodName)) hown (mvT hZ (hw _ (List.mem_of_getElem? (i := 2) rfl))) (mvT hZ (hw _ (List.mem_of_getElem? (i := 3) rfl))) (mvT hZ (hw _ (List.mem_of_getElem? (i := 4) rfl))) (mvT hZ (hw _ (List.mem_of_getElem? (i := 5) rfl))) (by decide) (backOf (W := 0) (rmC2 l Z a0 hw [] (b7) (p1) (p2) h9 n0 Zn9 (Ab7_9) (g_b7)) hZ (hw _ (List.mem_of_getElem? (i := 5) rfl)) (hw _ (List.mem_of_getElem? (i := 4) rfl)) (by decide) (by decide)) (g := (mkF m 74 #[.val (.int p0), .val (.long p1), .second, .val (.long p2), .second, .val (.long p3), .second, .val (.long p4), .second, .val (.long p5), .second, .val (.int (2 : Int32)), .val (.ref b7), .unset] [(.ref b7)])) rfl (by rw [hml]; rfl) (argsL := [(.ref b7)]) (rest := []) (lenOf own_pd1 rfl) rfl (by show 2 * 0 + _ ≤ _; exact Nat.le_of_eq rfl) (hb hby at_74) (fun _ _ => ⟨rfl, e9, (by decide : 1 + 0 ≤ _), (by decide : 2 + 0 ≤ _)⟩)
    dsimp only [Pt.U, Pt.locs, Pt.cells, Pt.slots] at X10 l10 y10 z10 st10 hQ10
    subst l10 y10 z10
    have X10 : Stand p l e room_1 s m _ below meth c T10 _ 1 2 := X10
    obtain ⟨h10, e10⟩ : ∃ z, T10.heap = z := ⟨_, rfl⟩
    rw [e10] at hQ10
    obtain ⟨rfl, Nq10, Kc10, G10x0⟩ := hQ10
    have N10 := Fr.app N9 Nq10
    have Zn10 : n0 ≤ h10.size := Nat.le_trans Zn9 Kc10.1
    refine OGo.st (T' := T10) (g' := (mkF m 77 #[.val (.int p0), .val (.long p1), .second, .val (.long p2), .second, .val (.long p3), .second, .val (.long p4), .second, .val (.long p5), .second, .val (.int (2 : Int32)), .val (.ref b7), .unset] [])) (fun _ k => st10 _ k) ?_
    refine OGo.st (T' := T10) (g' := (mkF m 79 #[.val (.int p0), .val (.long p1), .second, .val (.long p2), .second, .val (.long p3), .second, .val (.long p4), .second, .val (.long p5), .second, .val (.int (2 : Int32)), .val (.ref b7), .unset] [(.ref b7)])) (fun _ k => (XS.aload X10.here hx rfl (hb hby at_77) rfl rfl k)) ?_
    refine OGo.st (T' := T10) (g' := (mkF m 92 #[.val (.int p0), .val (.long p1), .second, .val (.long p2), .second, .val (.long p3), .second, .val (.long p4), .second, .val (.long p5), .second, .val (.int (2 : Int32)), .val (.ref b7), .val (.int (1 : Int32))] [])) (fun _ k => (own_len X10 hx hZ e10 G10x0 (g := (mkF m 79 #[.val (.int p0), .val (.long p1), .second, .val (.long p2), .second, .val (.long p3), .second, .val (.long p4), .second, .val (.long p5), .second, .val (.int (2 : Int32)), .val (.ref b7), .unset] [(.ref b7)])) rfl rfl (hb hby at_79) _ (XS.iload X10.here hx rfl (hb hby at_80) rfl (XS.icmpNo X10.here hx rfl (hb hby at_82) rfl (teq (by decide : (2 : Int32) = (2 : Int32))).2 (XS.iconst X10.here hx rfl (hb hby at_85) (XS.goto X10.here hx rfl (pc0 := 86) (pc' := 90) rfl (hb hby at_86) (by decide) (by decide) (XS.istore X10.here hx rfl (hb hby at_90) rfl (l' := #[.val (.int p0), .val (.long p1), .second, .val (.long p2), .second, .val (.long p3), .second, .val (.long p4), .second, .val (.long p5), .second, .val (.int (2 : Int32)), .val (.ref b7), .val (.int (1 : Int32))]) rfl k))))))) ?_
    refine OGo.st (T' := T10) (g' := (mkF m 105 #[.val (.int p0), .val (.long p1), .second, .val (.long p2), .second, .val (.long p3), .second, .val (.long p4), .second, .val (.long p5), .second, .val (.int (2 : Int32)), .val (.ref b7), .val (.int (1 : Int32))] [(.int (0 : Int32)), (.ref b7)])) (fun _ k => (XS.iload X10.here hx rfl (hb hby at_92) rfl (XS.ifNo X10.here hx rfl (hb hby at_94) rfl ((if0 _ _).trans (tlt (by decide : (0 : Int32) < (2 : Int32))).2.2.2) (XS.iload X10.here hx rfl (hb hby at_97) rfl (XS.ifNo X10.here hx rfl (hb hby at_99) rfl ((if0 _ _).trans (feq (by decide : ¬ ((1 : Int32) = (0 : Int32)))).1) (XS.aload X10.here hx rfl (hb hby at_102) rfl rfl (XS.iconst X10.here hx rfl (hb hby at_104) k))))))) ?_
    refine OGo.st (T' := T10) (g' := (mkF m 106 #[.val (.int p0), .val (.long p1), .second, .val (.long p2), .second, .val (.long p3), .second, .val (.long p4), .second, .val (.long p5), .second, .val (.int (2 : Int32)), .val (.ref b7), .val (.int (1 : Int32))] [(.long (0 : Int64))])) (fun _ k => (own_ldJ X10 hx hZ e10 G10x0 (j := (0 : Int32)) (i := 0) ⟨by decide, by decide⟩ (by decide) (g := (mkF m 105 #[.val (.int p0), .val (.long p1), .second, .val (.long p2), .second, .val (.long p3), .second, .val (.long p4), .second, .val (.long p5), .second, .val (.int (2 : Int32)), .val (.ref b7), .val (.int (1 : Int32))] [(.int (0 : Int32)), (.ref b7)])) rfl rfl (hb hby at_105) _ k)) ?_
    refine OGo.st (T' := T10) (g' := (mkF m 118 #[.val (.int p0), .val (.long p1), .second, .val (.long p2), .second, .val (.long p3), .second, .val (.long p4), .second, .val (.long p5), .second, .val (.int (2 : Int32)), .val (.ref b7), .val (.int (1 : Int32))] [])) (fun _ k => (XS.lconst X10.here hx rfl (hb hby at_106) (XS.lcmp X10.here hx rfl (hb hby at_107) rfl (XS.ifNo X10.here hx rfl (hb hby at_108) rfl ((if0 _ _).trans (teq ((lw_eq (0 : Int64) (0 : Int64)).mpr (by decide : (0 : Int64) = (0 : Int64)))).2) (XS.iconst X10.here hx rfl (hb hby at_111) (XS.goto X10.here hx rfl (pc0 := 112) (pc' := 116) rfl (hb hby at_112) (by decide) (by decide) (XS.istore X10.here hx rfl (hb hby at_116) rfl (l' := #[.val (.int p0), .val (.long p1), .second, .val (.long p2), .second, .val (.long p3), .second, .val (.long p4), .second, .val (.long p5), .second, .val (.int (2 : Int32)), .val (.ref b7), .val (.int (1 : Int32))]) rfl k))))))) ?_
    refine OGo.st (T' := T10) (g' := (mkF m 131 #[.val (.int p0), .val (.long p1), .second, .val (.long p2), .second, .val (.long p3), .second, .val (.long p4), .second, .val (.long p5), .second, .val (.int (2 : Int32)), .val (.ref b7), .val (.int (1 : Int32))] [(.ref b7)])) (fun _ k => (XS.iload X10.here hx rfl (hb hby at_118) rfl (XS.iconst X10.here hx rfl (hb hby at_120) (XS.icmpNo X10.here hx rfl (hb hby at_121) rfl (tlt (by decide : (1 : Int32) < (2 : Int32))).2.2.2 (XS.iload X10.here hx rfl (hb hby at_124) rfl (XS.ifNo X10.here hx rfl (hb hby at_126) rfl ((if0 _ _).trans (feq (by decide : ¬ ((1 : Int32) = (0 : Int32)))).1) (XS.aload X10.here hx rfl (hb hby at_129) rfl rfl k))))))) ?_
    refine OGo.st (T' := T10) (g' := (mkF m 132 #[.val (.int p0), .val (.long p1), .second, .val (.long p2), .second, .val (.long p3), .second, .val (.long p4), .second, .val (.long p5), .second, .val (.int (2 : Int32)), .val (.ref b7), .val (.int (1 : Int32))] [(.int (1 : Int32)), (.ref b7)])) (fun _ k => (XS.iconst X10.here hx rfl (hb hby at_131) k)) ?_
    refine OGo.st (T' := T10) (g' := (mkF m 133 #[.val (.int p0), .val (.long p1), .second, .val (.long p2), .second, .val (.long p3), .second, .val (.long p4), .second, .val (.long p5), .second, .val (.int (2 : Int32)), .val (.ref b7), .val (.int (1 : Int32))] [(.long (0 : Int64))])) (fun _ k => (own_ldJ X10 hx hZ e10 G10x0 (j := (1 : Int32)) (i := 1) ⟨by decide, by decide⟩ (by decide) (g := (mkF m 132 #[.val (.int p0), .val (.long p1), .second, .val (.long p2), .second, .val (.long p3), .second, .val (.long p4), .second, .val (.long p5), .second, .val (.int (2 : Int32)), .val (.ref b7), .val (.int (1 : Int32))] [(.int (1 : Int32)), (.ref b7)])) rfl rfl (hb hby at_132) _ k)) ?_
    refine OGo.st (T' := T10) (g' := (mkF m 145 #[.val (.int p0), .val (.long p1), .second, .val (.long p2), .second, .val (.long p3), .second, .val (.long p4), .second, .val (.long p5), .second, .val (.int (2 : Int32)), .val (.ref b7), .val (.int (1 : Int32))] [])) (fun _ k => (XS.lconst X10.here hx rfl (hb hby at_133) (XS.lcmp X10.here hx rfl (hb hby at_134) rfl (XS.ifNo X10.here hx rfl (hb hby at_135) rfl ((if0 _ _).trans (teq ((lw_eq (0 : Int64) (0 : Int64)).mpr (by decide : (0 : Int64) = (0 : Int64)))).2) (XS.iconst X10.here hx rfl (hb hby at_138) (XS.goto X10.here hx rfl (pc0 := 139) (pc' := 143) rfl (hb hby at_139) (by decide) (by decide) (XS.istore X10.here hx rfl (hb hby at_143) rfl (l' := #[.val (.int p0), .val (.long p1), .second, .val (.long p2), .second, .val (.long p3), .second, .val (.long p4), .second, .val (.long p5), .second, .val (.int (2 : Int32)), .val (.ref b7), .val (.int (1 : Int32))]) rfl k))))))) ?_
    refine OGo.st (T' := T10) (g' := (mkF m 199 #[.val (.int p0), .val (.long p1), .second, .val (.long p2), .second, .val (.long p3), .second, .val (.long p4), .second, .val (.long p5), .second, .val (.int (2 : Int32)), .val (.ref b7), .val (.int (1 : Int32))] [])) (fun _ k => (XS.iload X10.here hx rfl (hb hby at_145) rfl (XS.iconst X10.here hx rfl (hb hby at_147) (XS.icmpYes X10.here hx rfl (pc0 := 148) (pc' := 172) rfl (hb hby at_148) rfl (flt (by decide : ¬ ((2 : Int32) < (2 : Int32)))).2.2.2 (by decide) (by decide) (XS.iload X10.here hx rfl (hb hby at_172) rfl (XS.iconst X10.here hx rfl (hb hby at_174) (XS.icmpYes X10.here hx rfl (pc0 := 175) (pc' := 199) rfl (hb hby at_175) rfl (flt (by decide : ¬ ((3 : Int32) < (2 : Int32)))).2.2.2 (by decide) (by decide) k))))))) ?_
    refine OGo.st (T' := T10) (g' := (mkF m 228 #[.val (.int p0), .val (.long p1), .second, .val (.long p2), .second, .val (.long p3), .second, .val (.long p4), .second, .val (.long p5), .second, .val (.int (2 : Int32)), .val (.ref b7), .val (.int (1 : Int32))] [(.int (1 : Int32))])) (fun _ k => (XS.iload X10.here hx rfl (hb hby at_199) rfl (XS.iconst X10.here hx rfl (hb hby at_201) (XS.icmpYes X10.here hx rfl (pc0 := 202) (pc' := 226) rfl (hb hby at_202) rfl (flt (by decide : ¬ ((4 : Int32) < (2 : Int32)))).2.2.2 (by decide) (by decide) (XS.iload X10.here hx rfl (hb hby at_226) rfl k))))) ?_
    exact OGo.ret X10 hx hlk Bd.returns rfl (own_rI (Or.inr (Or.inl rfl))) (hb hby at_228) (by decide) (by decide) e10 (⟨rfl, N10⟩)
  · rw [hl1]
    refine OGo.st (T' := s₁) (g' := (mkF m 11 #[.val (.int p0), .val (.long p1), .second, .val (.long p2), .second, .val (.long p3), .second, .val (.long p4), .second, .val (.long p5), .second, .val (.int (3 : Int32)), .unset, .unset] [(.int (3 : Int32))])) (fun _ k => (XS.iload X0.here hx rfl (hb hby at_9) rfl k)) ?_
    obtain ⟨T11, h11, b11, g11, X11, e11, E11, V11, st11⟩ := own_newA X0 hx hZ (hw _ (List.mem_of_getElem? (i := 1) rfl)) e0 (g := (mkF m 11 #[.val (.int p0), .val (.long p1), .second, .val (.long p2), .second, .val (.long p3), .second, .val (.long p4), .second, .val (.long p5), .second, .val (.int (3 : Int32)), .unset, .unset] [(.int (3 : Int32))])) rfl (hb hby at_11) rfl (n := 3) ⟨by decide, by decide⟩ (cap := 3) (by decide) (by decide) (by decide) (by decide)
    have g_b11 : n0 ≤ b11 := Nat.le_trans Z0 (Nat.le_of_eq g11.symm)
    have A11 : OArr Z h11 b11 .long 3 (fun j => .long ((own_L (0 : Int64) ([(0 : Int64), (0 : Int64), (0 : Int64)] : List Int64)) j)) := OArr.cast V11 (fun j _ => congrArg Value.long (own_L_rep (0 : Int64) 3 j))
    have Zn11 : n0 ≤ h11.size := Nat.le_trans Z0 E11.1
    have X11 : Stand p l e room_1 s m _ below meth c T11 _ 1 3 := X11
    refine OGo.st (T' := T11) (g' := (mkF m 13 #[.val (.int p0), .val (.long p1), .second, .val (.long p2), .second, .val (.long p3), .second, .val (.long p4), .second, .val (.long p5), .second, .val (.int (3 : Int32)), .unset, .unset] [(.ref b11)])) (fun _ k => st11 _ k) ?_
    refine OGo.st (T' := T11) (g' := (mkF m 24 #[.val (.int p0), .val (.long p1), .second, .val (.long p2), .second, .val (.long p3), .second, .val (.long p4), .second, .val (.long p5), .second, .val (.int (3 : Int32)), .val (.ref b11), .unset] [(.long p1), (.int (0 : Int32)), (.ref b11)])) (fun _ k => (XS.astore X11.here hx rfl (hb hby at_13) rfl rfl (l' := #[.val (.int p0), .val (.long p1), .second, .val (.long p2), .second, .val (.long p3), .second, .val (.long p4), .second, .val (.long p5), .second, .val (.int (3 : Int32)), .val (.ref b11), .unset]) rfl (XS.iload X11.here hx rfl (hb hby at_15) rfl (XS.ifNo X11.here hx rfl (hb hby at_17) rfl ((if0 _ _).trans (tlt (by decide : (0 : Int32) < (3 : Int32))).2.2.2) (XS.aload X11.here hx rfl (hb hby at_20) rfl rfl (XS.iconst X11.here hx rfl (hb hby at_22) (XS.lloadN X11.here hx rfl (hb hby at_23) rfl k))))))) ?_
    obtain ⟨T12, h12, X12, e12, W12, V12, st12⟩ := own_stJ X11 hx hZ e11 A11 (j := (0 : Int32)) (i := 0) ⟨by decide, by decide⟩ (by decide) (g := (mkF m 24 #[.val (.int p0), .val (.long p1), .second, .val (.long p2), .second, .val (.long p3), .second, .val (.long p4), .second, .val (.long p5), .second, .val (.int (3 : Int32)), .val (.ref b11), .unset] [(.long p1), (.int (0 : Int32)), (.ref b11)])) rfl rfl (hb hby at_24)
    have Ab11_12 : OArr Z h12 b11 .long 3 (fun j => .long ((own_L (0 : Int64) ([p1, (0 : Int64), (0 : Int64)] : List Int64)) j)) := V12.cast (fun j _ => (own_updJ _ _ _ j).trans (congrArg Value.long (own_L_set (0 : Int64) ([(0 : Int64), (0 : Int64), (0 : Int64)] : List Int64) 0 p1 (Nat.le_of_ble_eq_true rfl) j)))
    have N12 := Fr.snoc X12 N0 g_b11
    have Zn12 : n0 ≤ h12.size := Nat.le_trans Zn11 (Nat.le_of_eq W12.size.symm)
    refine OGo.st (T' := T12) (g' := (mkF m 25 #[.val (.int p0), .val (.long p1), .second, .val (.long p2), .second, .val (.long p3), .second, .val (.long p4), .second, .val (.long p5), .second, .val (.int (3 : Int32)), .val (.ref b11), .unset] [])) (fun _ k => st12 _ k) ?_
    refine OGo.st (T' := T12) (g' := (mkF m 35 #[.val (.int p0), .val (.long p1), .second, .val (.long p2), .second, .val (.long p3), .second, .val (.long p4), .second, .val (.long p5), .second, .val (.int (3 : Int32)), .val (.ref b11), .unset] [(.long p2), (.int (1 : Int32)), (.ref b11)])) (fun _ k => (XS.iload X12.here hx rfl (hb hby at_25) rfl (XS.iconst X12.here hx rfl (hb hby at_27) (XS.icmpNo X12.here hx rfl (hb hby at_28) rfl (tlt (by decide : (1 : Int32) < (3 : Int32))).2.2.2 (XS.aload X12.here hx rfl (hb hby at_31) rfl rfl (XS.iconst X12.here hx rfl (hb hby at_33) (XS.lloadN X12.here hx rfl (hb hby at_34) rfl k))))))) ?_
    obtain ⟨T13, h13, X13, e13, W13, V13, st13⟩ := own_stJ X12 hx hZ e12 Ab11_12 (j := (1 : Int32)) (i := 1) ⟨by decide, by decide⟩ (by decide) (g := (mkF m 35 #[.val (.int p0), .val (.long p1), .second, .val (.long p2), .second, .val (.long p3), .second, .val (.long p4), .second, .val (.long p5), .second, .val (.int (3 : Int32)), .val (.ref b11), .unset] [(.long p2), (.int (1 : Int32)), (.ref b11)])) rfl rfl (hb hby at_35)
    have Ab11_13 : OArr Z h13 b11 .long 3 (fun j => .long ((own_L (0 : Int64) ([p1, p2, (0 : Int64)] : List Int64)) j)) := V13.cast (fun j _ => (own_updJ _ _ _ j).trans (congrArg Value.long (own_L_set (0 : Int64) ([p1, (0 : Int64), (0 : Int64)] : List Int64) 1 p2 (Nat.le_of_ble_eq_true rfl) j)))
    have N13 := Fr.snoc X13 N12 g_b11
    have Zn13 : n0 ≤ h13.size := Nat.le_trans Zn12 (Nat.le_of_eq W13.size.symm)
    refine OGo.st (T' := T13) (g' := (mkF m 36 #[.val (.int p0), .val (.long p1), .second, .val (.long p2), .second, .val (.long p3), .second, .val (.long p4), .second, .val (.long p5), .second, .val (.int (3 : Int32)), .val (.ref b11), .unset] [])) (fun _ k => st13 _ k) ?_
    refine OGo.st (T' := T13) (g' := (mkF m 47 #[.val (.int p0), .val (.long p1), .second, .val (.long p2), .second, .val (.long p3), .second, .val (.long p4), .second, .val (.long p5), .second, .val (.int (3 : Int32)), .val (.ref b11), .unset] [(.long p3), (.int (2 : Int32)), (.ref b11)])) (fun _ k => (XS.iload X13.here hx rfl (hb hby at_36) rfl (XS.iconst X13.here hx rfl (hb hby at_38) (XS.icmpNo X13.here hx rfl (hb hby at_39) rfl (tlt (by decide : (2 : Int32) < (3 : Int32))).2.2.2 (XS.aload X13.here hx rfl (hb hby at_42) rfl rfl (XS.iconst X13.here hx rfl (hb hby at_44) (XS.lload X13.here hx rfl (hb hby at_45) rfl k))))))) ?_
    obtain ⟨T14, h14, X14, e14, W14, V14, st14⟩ := own_stJ X13 hx hZ e13 Ab11_13 (j := (2 : Int32)) (i := 2) ⟨by decide, by decide⟩ (by decide) (g := (mkF m 47 #[.val (.int p0), .val (.long p1), .second, .val (.long p2), .second, .val (.long p3), .second, .val (.long p4), .second, .val (.long p5), .second, .val (.int (3 : Int32)), .val (.ref b11), .unset] [(.long p3), (.int (2 : Int32)), (.ref b11)])) rfl rfl (hb hby at_47)
    have Ab11_14 : OArr Z h14 b11 .long 3 (fun j => .long ((own_L (0 : Int64) ([p1, p2, p3] : List Int64)) j)) := V14.cast (fun j _ => (own_updJ _ _ _ j).trans (congrArg Value.long (own_L_set (0 : Int64) ([p1, p2, (0 : Int64)] : List Int64) 2 p3 (Nat.le_of_ble_eq_true rfl) j)))
    have N14 := Fr.snoc X14 N13 g_b11
    have Zn14 : n0 ≤ h14.size := Nat.le_trans Zn13 (Nat.le_of_eq W14.size.symm)
    refine OGo.st (T' := T14) (g' := (mkF m 48 #[.val (.int p0), .val (.long p1), .second, .val (.long p2), .second, .val (.long p3), .second, .val (.long p4), .second, .val (.long p5), .second, .val (.int (3 : Int32)), .val (.ref b11), .unset] [])) (fun _ k => st14 _ k) ?_
    refine OGo.st (T' := T14) (g' := (mkF m 72 #[.val (.int p0), .val (.long p1), .second, .val (.long p2), .second, .val (.long p3), .second, .val (.long p4), .second, .val (.long p5), .second, .val (.int (3 : Int32)), .val (.ref b11), .unset] [])) (fun _ k => (XS.iload X14.here hx rfl (hb hby at_48) rfl (XS.iconst X14.here hx rfl (hb hby at_50) (XS.icmpYes X14.here hx rfl (pc0 := 51) (pc' := 60) rfl (hb hby at_51) rfl (flt (by decide : ¬ ((3 : Int32) < (3 : Int32)))).2.2.2 (by decide) (by decide) (XS.iload X14.here hx rfl (hb hby at_60) rfl (XS.iconst X14.here hx rfl (hb hby at_62) (XS.icmpYes X14.here hx rfl (pc0 := 63) (pc' := 72) rfl (hb hby at_63) rfl (flt (by decide : ¬ ((4 : Int32) < (3 : Int32)))).2.2.2 (by decide) (by decide) k))))))) ?_
    refine OGo.st (T' := T14) (g' := (mkF m 74 #[.val (.int p0), .val (.long p1), .second, .val (.long p2), .second, .val (.long p3), .second, .val (.long p4), .second, .val (.long p5), .second, .val (.int (3 : Int32)), .val (.ref b11), .unset] [(.ref b11)])) (fun _ k => (XS.aload X14.here hx rfl (hb hby at_72) rfl rfl k)) ?_
    obtain ⟨_, _, ⟨T15, L15, k15, n15⟩, -, X15, ⟨Lc15, hQ15, l15, y15, z15⟩, st15⟩ := Jvm.LawKit.callS X14 hx (y := (⟨"com/example/unify_to_cover/unifytocover/search/ValueSets", "clear", "([J)V"⟩ : MethodName)) hown (mvT hZ (hw _ (List.mem_of_getElem? (i := 2) rfl))) (mvT hZ (hw _ (List.mem_of_getElem? (i := 3) rfl))) (mvT hZ (hw _ (List.mem_of_getElem? (i := 4) rfl))) (mvT hZ (hw _ (List.mem_of_getElem? (i := 5) rfl))) (by decide) (backOf (W := 0) (rmC3 l Z a0 hw [] (b11) (p1) (p2) (p3) h14 n0 Zn14 (Ab11_14) (g_b11)) hZ (hw _ (List.mem_of_getElem? (i := 5) rfl)) (hw _ (List.mem_of_getElem? (i := 4) rfl)) (by decide) (by decide)) (g := (mkF m 74 #[.val (.int p0), .val (.long p1), .second, .val (.long p2), .second, .val (.long p3), .second, .val (.long p4), .second, .val (.long p5), .second, .val (.int (3 : Int32)), .val (.ref b11), .unset] [(.ref b11)])) rfl (by rw [hml]; rfl) (argsL := [(.ref b11)]) (rest := []) (lenOf own_pd1 rfl) rfl (by show 2 * 0 + _ ≤ _; exact Nat.le_of_eq rfl) (hb hby at_74) (fun _ _ => ⟨rfl, e14, (by decide : 1 + 0 ≤ _), (by decide : 3 + 0 ≤ _)⟩)
    dsimp only [Pt.U, Pt.locs, Pt.cells, Pt.slots] at X15 l15 y15 z15 st15 hQ15
    subst l15 y15 z15
    have X15 : Stand p l e room_1 s m _ below meth c T15 _ 1 3 := X15
    obtain ⟨h15, e15⟩ : ∃ z, T15.heap = z := ⟨_, rfl⟩
    rw [e15] at hQ15
    obtain ⟨rfl, Nq15, Kc15, G15x0⟩ := hQ15
    have N15 := Fr.app N14 Nq15
    have Zn15 : n0 ≤ h15.size := Nat.le_trans Zn14 Kc15.1
    refine OGo.st (T' := T15) (g' := (mkF m 77 #[.val (.int p0), .val (.long p1), .second, .val (.long p2), .second, .val (.long p3), .second, .val (.long p4), .second, .val (.long p5), .second, .val (.int (3 : Int32)), .val (.ref b11), .unset] [])) (fun _ k => st15 _ k) ?_
    refine OGo.st (T' := T15) (g' := (mkF m 79 #[.val (.int p0), .val (.long p1), .second, .val (.long p2), .second, .val (.long p3), .second, .val (.long p4), .second, .val (.long p5), .second, .val (.int (3 : Int32)), .val (.ref b11), .unset] [(.ref b11)])) (fun _ k => (XS.aload X15.here hx rfl (hb hby at_77) rfl rfl k)) ?_
    refine OGo.st (T' := T15) (g' := (mkF m 92 #[.val (.int p0), .val (.long p1), .second, .val (.long p2), .second, .val (.long p3), .second, .val (.long p4), .second, .val (.long p5), .second, .val (.int (3 : Int32)), .val (.ref b11), .val (.int (1 : Int32))] [])) (fun _ k => (own_len X15 hx hZ e15 G15x0 (g := (mkF m 79 #[.val (.int p0), .val (.long p1), .second, .val (.long p2), .second, .val (.long p3), .second, .val (.long p4), .second, .val (.long p5), .second, .val (.int (3 : Int32)), .val (.ref b11), .unset] [(.ref b11)])) rfl rfl (hb hby at_79) _ (XS.iload X15.here hx rfl (hb hby at_80) rfl (XS.icmpNo X15.here hx rfl (hb hby at_82) rfl (teq (by decide : (3 : Int32) = (3 : Int32))).2 (XS.iconst X15.here hx rfl (hb hby at_85) (XS.goto X15.here hx rfl (pc0 := 86) (pc' := 90) rfl (hb hby at_86) (by decide) (by decide) (XS.istore X15.here hx rfl (hb hby at_90) rfl (l' := #[.val (.int p0), .val (.long p1), .second, .val (.long p2), .second, .val (.long p3), .second, .val (.long p4), .second, .val (.long p5), .second, .val (.int (3 : Int32)), .val (.ref b11), .val (.int (1 : Int32))]) rfl k))))))) ?_
    refine OGo.st (T' := T15) (g' := (mkF m 105 #[.val (.int p0), .val (.long p1), .second, .val (.long p2), .second, .val (.long p3), .second, .val (.long p4), .second, .val (.long p5), .second, .val (.int (3 : Int32)), .val (.ref b11), .val (.int (1 : Int32))] [(.int (0 : Int32)), (.ref b11)])) (fun _ k => (XS.iload X15.here hx rfl (hb hby at_92) rfl (XS.ifNo X15.here hx rfl (hb hby at_94) rfl ((if0 _ _).trans (tlt (by decide : (0 : Int32) < (3 : Int32))).2.2.2) (XS.iload X15.here hx rfl (hb hby at_97) rfl (XS.ifNo X15.here hx rfl (hb hby at_99) rfl ((if0 _ _).trans (feq (by decide : ¬ ((1 : Int32) = (0 : Int32)))).1) (XS.aload X15.here hx rfl (hb hby at_102) rfl rfl (XS.iconst X15.here hx rfl (hb hby at_104) k))))))) ?_
    refine OGo.st (T' := T15) (g' := (mkF m 106 #[.val (.int p0), .val (.long p1), .second, .val (.long p2), .second, .val (.long p3), .second, .val (.long p4), .second, .val (.long p5), .second, .val (.int (3 : Int32)), .val (.ref b11), .val (.int (1 : Int32))] [(.long (0 : Int64))])) (fun _ k => (own_ldJ X15 hx hZ e15 G15x0 (j := (0 : Int32)) (i := 0) ⟨by decide, by decide⟩ (by decide) (g := (mkF m 105 #[.val (.int p0), .val (.long p1), .second, .val (.long p2), .second, .val (.long p3), .second, .val (.long p4), .second, .val (.long p5), .second, .val (.int (3 : Int32)), .val (.ref b11), .val (.int (1 : Int32))] [(.int (0 : Int32)), (.ref b11)])) rfl rfl (hb hby at_105) _ k)) ?_
    refine OGo.st (T' := T15) (g' := (mkF m 118 #[.val (.int p0), .val (.long p1), .second, .val (.long p2), .second, .val (.long p3), .second, .val (.long p4), .second, .val (.long p5), .second, .val (.int (3 : Int32)), .val (.ref b11), .val (.int (1 : Int32))] [])) (fun _ k => (XS.lconst X15.here hx rfl (hb hby at_106) (XS.lcmp X15.here hx rfl (hb hby at_107) rfl (XS.ifNo X15.here hx rfl (hb hby at_108) rfl ((if0 _ _).trans (teq ((lw_eq (0 : Int64) (0 : Int64)).mpr (by decide : (0 : Int64) = (0 : Int64)))).2) (XS.iconst X15.here hx rfl (hb hby at_111) (XS.goto X15.here hx rfl (pc0 := 112) (pc' := 116) rfl (hb hby at_112) (by decide) (by decide) (XS.istore X15.here hx rfl (hb hby at_116) rfl (l' := #[.val (.int p0), .val (.long p1), .second, .val (.long p2), .second, .val (.long p3), .second, .val (.long p4), .second, .val (.long p5), .second, .val (.int (3 : Int32)), .val (.ref b11), .val (.int (1 : Int32))]) rfl k))))))) ?_
    refine OGo.st (T' := T15) (g' := (mkF m 131 #[.val (.int p0), .val (.long p1), .second, .val (.long p2), .second, .val (.long p3), .second, .val (.long p4), .second, .val (.long p5), .second, .val (.int (3 : Int32)), .val (.ref b11), .val (.int (1 : Int32))] [(.ref b11)])) (fun _ k => (XS.iload X15.here hx rfl (hb hby at_118) rfl (XS.iconst X15.here hx rfl (hb hby at_120) (XS.icmpNo X15.here hx rfl (hb hby at_121) rfl (tlt (by decide : (1 : Int32) < (3 : Int32))).2.2.2 (XS.iload X15.here hx rfl (hb hby at_124) rfl (XS.ifNo X15.here hx rfl (hb hby at_126) rfl ((if0 _ _).trans (feq (by decide : ¬ ((1 : Int32) = (0 : Int32)))).1) (XS.aload X15.here hx rfl (hb hby at_129) rfl rfl k))))))) ?_
    refine OGo.st (T' := T15) (g' := (mkF m 132 #[.val (.int p0), .val (.long p1), .second, .val (.long p2), .second, .val (.long p3), .second, .val (.long p4), .second, .val (.long p5), .second, .val (.int (3 : Int32)), .val (.ref b11), .val (.int (1 : Int32))] [(.int (1 : Int32)), (.ref b11)])) (fun _ k => (XS.iconst X15.here hx rfl (hb hby at_131) k)) ?_
    refine OGo.st (T' := T15) (g' := (mkF m 133 #[.val (.int p0), .val (.long p1), .second, .val (.long p2), .second, .val (.long p3), .second, .val (.long p4), .second, .val (.long p5), .second, .val (.int (3 : Int32)), .val (.ref b11), .val (.int (1 : Int32))] [(.long (0 : Int64))])) (fun _ k => (own_ldJ X15 hx hZ e15 G15x0 (j := (1 : Int32)) (i := 1) ⟨by decide, by decide⟩ (by decide) (g := (mkF m 132 #[.val (.int p0), .val (.long p1), .second, .val (.long p2), .second, .val (.long p3), .second, .val (.long p4), .second, .val (.long p5), .second, .val (.int (3 : Int32)), .val (.ref b11), .val (.int (1 : Int32))] [(.int (1 : Int32)), (.ref b11)])) rfl rfl (hb hby at_132) _ k)) ?_
    refine OGo.st (T' := T15) (g' := (mkF m 145 #[.val (.int p0), .val (.long p1), .second, .val (.long p2), .second, .val (.long p3), .second, .val (.long p4), .second, .val (.long p5), .second, .val (.int (3 : Int32)), .val (.ref b11), .val (.int (1 : Int32))] [])) (fun _ k => (XS.lconst X15.here hx rfl (hb hby at_133) (XS.lcmp X15.here hx rfl (hb hby at_134) rfl (XS.ifNo X15.here hx rfl (hb hby at_135) rfl ((if0 _ _).trans (teq ((lw_eq (0 : Int64) (0 : Int64)).mpr (by decide : (0 : Int64) = (0 : Int64)))).2) (XS.iconst X15.here hx rfl (hb hby at_138) (XS.goto X15.here hx rfl (pc0 := 139) (pc' := 143) rfl (hb hby at_139) (by decide) (by decide) (XS.istore X15.here hx rfl (hb hby at_143) rfl (l' := #[.val (.int p0), .val (.long p1), .second, .val (.long p2), .second, .val (.long p3), .second, .val (.long p4), .second, .val (.long p5), .second, .val (.int (3 : Int32)), .val (.ref b11), .val (.int (1 : Int32))]) rfl k))))))) ?_
    refine OGo.st (T' := T15) (g' := (mkF m 158 #[.val (.int p0), .val (.long p1), .second, .val (.long p2), .second, .val (.long p3), .second, .val (.long p4), .second, .val (.long p5), .second, .val (.int (3 : Int32)), .val (.ref b11), .val (.int (1 : Int32))] [(.ref b11)])) (fun _ k => (XS.iload X15.here hx rfl (hb hby at_145) rfl (XS.iconst X15.here hx rfl (hb hby at_147) (XS.icmpNo X15.here hx rfl (hb hby at_148) rfl (tlt (by decide : (2 : Int32) < (3 : Int32))).2.2.2 (XS.iload X15.here hx rfl (hb hby at_151) rfl (XS.ifNo X15.here hx rfl (hb hby at_153) rfl ((if0 _ _).trans (feq (by decide : ¬ ((1 : Int32) = (0 : Int32)))).1) (XS.aload X15.here hx rfl (hb hby at_156) rfl rfl k))))))) ?_
    refine OGo.st (T' := T15) (g' := (mkF m 159 #[.val (.int p0), .val (.long p1), .second, .val (.long p2), .second, .val (.long p3), .second, .val (.long p4), .second, .val (.long p5), .second, .val (.int (3 : Int32)), .val (.ref b11), .val (.int (1 : Int32))] [(.int (2 : Int32)), (.ref b11)])) (fun _ k => (XS.iconst X15.here hx rfl (hb hby at_158) k)) ?_
    refine OGo.st (T' := T15) (g' := (mkF m 160 #[.val (.int p0), .val (.long p1), .second, .val (.long p2), .second, .val (.long p3), .second, .val (.long p4), .second, .val (.long p5), .second, .val (.int (3 : Int32)), .val (.ref b11), .val (.int (1 : Int32))] [(.long (0 : Int64))])) (fun _ k => (own_ldJ X15 hx hZ e15 G15x0 (j := (2 : Int32)) (i := 2) ⟨by decide, by decide⟩ (by decide) (g := (mkF m 159 #[.val (.int p0), .val (.long p1), .second, .val (.long p2), .second, .val (.long p3), .second, .val (.long p4), .second, .val (.long p5), .second, .val (.int (3 : Int32)), .val (.ref b11), .val (.int (1 : Int32))] [(.int (2 : Int32)), (.ref b11)])) rfl rfl (hb hby at_159) _ k)) ?_
    refine OGo.st (T' := T15) (g' := (mkF m 172 #[.val (.int p0), .val (.long p1), .second, .val (.long p2), .second, .val (.long p3), .second, .val (.long p4), .second, .val (.long p5), .second, .val (.int (3 : Int32)), .val (.ref b11), .val (.int (1 : Int32))] [])) (fun _ k => (XS.lconst X15.here hx rfl (hb hby at_160) (XS.lcmp X15.here hx rfl (hb hby at_161) rfl (XS.ifNo X15.here hx rfl (hb hby at_162) rfl ((if0 _ _).trans (teq ((lw_eq (0 : Int64) (0 : Int64)).mpr (by decide : (0 : Int64) = (0 : Int64)))).2) (XS.iconst X15.here hx rfl (hb hby at_165) (XS.goto X15.here hx rfl (pc0 := 166) (pc' := 170) rfl (hb hby at_166) (by decide) (by decide) (XS.istore X15.here hx rfl (hb hby at_170) rfl (l' := #[.val (.int p0), .val (.long p1), .second, .val (.long p2), .second, .val (.long p3), .second, .val (.long p4), .second, .val (.long p5), .second, .val (.int (3 : Int32)), .val (.ref b11), .val (.int (1 : Int32))]) rfl k))))))) ?_
    refine OGo.st (T' := T15) (g' := (mkF m 226 #[.val (.int p0), .val (.long p1), .second, .val (.long p2), .second, .val (.long p3), .second, .val (.long p4), .second, .val (.long p5), .second, .val (.int (3 : Int32)), .val (.ref b11), .val (.int (1 : Int32))] [])) (fun _ k => (XS.iload X15.here hx rfl (hb hby at_172) rfl (XS.iconst X15.here hx rfl (hb hby at_174) (XS.icmpYes X15.here hx rfl (pc0 := 175) (pc' := 199) rfl (hb hby at_175) rfl (flt (by decide : ¬ ((3 : Int32) < (3 : Int32)))).2.2.2 (by decide) (by decide) (XS.iload X15.here hx rfl (hb hby at_199) rfl (XS.iconst X15.here hx rfl (hb hby at_201) (XS.icmpYes X15.here hx rfl (pc0 := 202) (pc' := 226) rfl (hb hby at_202) rfl (flt (by decide : ¬ ((4 : Int32) < (3 : Int32)))).2.2.2 (by decide) (by decide) k))))))) ?_
    refine OGo.st (T' := T15) (g' := (mkF m 228 #[.val (.int p0), .val (.long p1), .second, .val (.long p2), .second, .val (.long p3), .second, .val (.long p4), .second, .val (.long p5), .second, .val (.int (3 : Int32)), .val (.ref b11), .val (.int (1 : Int32))] [(.int (1 : Int32))])) (fun _ k => (XS.iload X15.here hx rfl (hb hby at_226) rfl k)) ?_
    exact OGo.ret X15 hx hlk Bd.returns rfl (own_rI (Or.inr (Or.inl rfl))) (hb hby at_228) (by decide) (by decide) e15 (⟨rfl, N15⟩)
  · rw [hl1]
    refine OGo.st (T' := s₁) (g' := (mkF m 11 #[.val (.int p0), .val (.long p1), .second, .val (.long p2), .second, .val (.long p3), .second, .val (.long p4), .second, .val (.long p5), .second, .val (.int (4 : Int32)), .unset, .unset] [(.int (4 : Int32))])) (fun _ k => (XS.iload X0.here hx rfl (hb hby at_9) rfl k)) ?_
    obtain ⟨T16, h16, b16, g16, X16, e16, E16, V16, st16⟩ := own_newA X0 hx hZ (hw _ (List.mem_of_getElem? (i := 1) rfl)) e0 (g := (mkF m 11 #[.val (.int p0), .val (.long p1), .second, .val (.long p2), .second, .val (.long p3), .second, .val (.long p4), .second, .val (.long p5), .second, .val (.int (4 : Int32)), .unset, .unset] [(.int (4 : Int32))])) rfl (hb hby at_11) rfl (n := 4) ⟨by decide, by decide⟩ (cap := 4) (by decide) (by decide) (by decide) (by decide)
    have g_b16 : n0 ≤ b16 := Nat.le_trans Z0 (Nat.le_of_eq g16.symm)
    have A16 : OArr Z h16 b16 .long 4 (fun j => .long ((own_L (0 : Int64) ([(0 : Int64), (0 : Int64), (0 : Int64), (0 : Int64)] : List Int64)) j)) := OArr.cast V16 (fun j _ => congrArg Value.long (own_L_rep (0 : Int64) 4 j))
    have Zn16 : n0 ≤ h16.size := Nat.le_trans Z0 E16.1
    have X16 : Stand p l e room_1 s m _ below meth c T16 _ 1 4 := X16
    refine OGo.st (T' := T16) (g' := (mkF m 13 #[.val (.int p0), .val (.long p1), .second, .val (.long p2), .second, .val (.long p3), .second, .val (.long p4), .second, .val (.long p5), .second, .val (.int (4 : Int32)), .unset, .unset] [(.ref b16)])) (fun _ k => st16 _ k) ?_
    refine OGo.st (T' := T16) (g' := (mkF m 24 #[.val (.int p0), .val (.long p1), .second, .val (.long p2), .second, .val (.long p3), .second, .val (.long p4), .second, .val (.long p5), .second, .val (.int (4 : Int32)), .val (.ref b16), .unset] [(.long p1), (.int (0 : Int32)), (.ref b16)])) (fun _ k => (XS.astore X16.here hx rfl (hb hby at_13) rfl rfl (l' := #[.val (.int p0), .val (.long p1), .second, .val (.long p2), .second, .val (.long p3), .second, .val (.long p4), .second, .val (.long p5), .second, .val (.int (4 : Int32)), .val (.ref b16), .unset]) rfl (XS.iload X16.here hx rfl (hb hby at_15) rfl (XS.ifNo X16.here hx rfl (hb hby at_17) rfl ((if0 _ _).trans (tlt (by decide : (0 : Int32) < (4 : Int32))).2.2.2) (XS.aload X16.here hx rfl (hb hby at_20) rfl rfl (XS.iconst X16.here hx rfl (hb hby at_22) (XS.lloadN X16.here hx rfl (hb hby at_23) rfl k))))))) ?_
    obtain ⟨T17, h17, X17, e17, W17, V17, st17⟩ := own_stJ X16 hx hZ e16 A16 (j := (0 : Int32)) (i := 0) ⟨by decide, by decide⟩ (by decide) (g := (mkF m 24 #[.val (.int p0), .val (.long p1), .second, .val (.long p2), .second, .val (.long p3), .second, .val (.long p4), .second, .val (.long p5), .second, .val (.int (4 : Int32)), .val (.ref b16), .unset] [(.long p1), (.int (0 : Int32)), (.ref b16)])) rfl rfl (hb hby at_24)
    have Ab16_17 : OArr Z h17 b16 .long 4 (fun j => .long ((own_L (0 : Int64) ([p1, (0 : Int64), (0 : Int64), (0 : Int64)] : List Int64)) j)) := V17.cast (fun j _ => (own_updJ _ _ _ j).trans (congrArg Value.long (own_L_set (0 : Int64) ([(0 : Int64), (0 : Int64), (0 : Int64), (0 : Int64)] : List Int64) 0 p1 (Nat.le_of_ble_eq_true rfl) j)))
    have N17 := Fr.snoc X17 N0 g_b16
    have Zn17 : n0 ≤ h17.size := Nat.le_trans Zn16 (Nat.le_of_eq W17.size.symm)
    refine OGo.st (T' := T17) (g' := (mkF m 25 #[.val (.int p0), .val (.long p1), .second, .val (.long p2), .second, .val (.long p3), .second, .val (.long p4), .second, .val (.long p5), .second, .val (.int (4 : Int32)), .val (.ref b16), .unset] [])) (fun _ k => st17 _ k) ?_
    refine OGo.st (T' := T17) (g' := (mkF m 35 #[.val (.int p0), .val (.long p1), .second, .val (.long p2), .second, .val (.long p3), .second, .val (.long p4), .second, .val (.long p5), .second, .val (.int (4 : Int32)), .val (.ref b16), .unset] [(.long p2), (.int (1 : Int32)), (.ref b16)])) (fun _ k => (XS.iload X17.here hx rfl (hb hby at_25) rfl (XS.iconst X17.here hx rfl (hb hby at_27) (XS.icmpNo X17.here hx rfl (hb hby at_28) rfl (tlt (by decide : (1 : Int32) < (4 : Int32))).2.2.2 (XS.aload X17.here hx rfl (hb hby at_31) rfl rfl (XS.iconst X17.here hx rfl (hb hby at_33) (XS.lloadN X17.here hx rfl (hb hby at_34) rfl k))))))) ?_
    obtain ⟨T18, h18, X18, e18, W18, V18, st18⟩ := own_stJ X17 hx hZ e17 Ab16_17 (j := (1 : Int32)) (i := 1) ⟨by decide, by decide⟩ (by decide) (g := (mkF m 35 #[.val (.int p0), .val (.long p1), .second, .val (.long p2), .second, .val (.long p3), .second, .val (.long p4), .second, .val (.long p5), .second, .val (.int (4 : Int32)), .val (.ref b16), .unset] [(.long p2), (.int (1 : Int32)), (.ref b16)])) rfl rfl (hb hby at_35)
    have Ab16_18 : OArr Z h18 b16 .long 4 (fun j => .long ((own_L (0 : Int64) ([p1, p2, (0 : Int64), (0 : Int64)] : List Int64)) j)) := V18.cast (fun j _ => (own_updJ _ _ _ j).trans (congrArg Value.long (own_L_set (0 : Int64) ([p1, (0 : Int64), (0 : Int64), (0 : Int64)] : List Int64) 1 p2 (Nat.le_of_ble_eq_true rfl) j)))
    have N18 := Fr.snoc X18 N17 g_b16
    have Zn18 : n0 ≤ h18.size := Nat.le_trans Zn17 (Nat.le_of_eq W18.size.symm)
    refine OGo.st (T' := T18) (g' := (mkF m 36 #[.val (.int p0), .val (.long p1), .second, .val (.long p2), .second, .val (.long p3), .second, .val (.long p4), .second, .val (.long p5), .second, .val (.int (4 : Int32)), .val (.ref b16), .unset] [])) (fun _ k => st18 _ k) ?_
    refine OGo.st (T' := T18) (g' := (mkF m 47 #[.val (.int p0), .val (.long p1), .second, .val (.long p2), .second, .val (.long p3), .second, .val (.long p4), .second, .val (.long p5), .second, .val (.int (4 : Int32)), .val (.ref b16), .unset] [(.long p3), (.int (2 : Int32)), (.ref b16)])) (fun _ k => (XS.iload X18.here hx rfl (hb hby at_36) rfl (XS.iconst X18.here hx rfl (hb hby at_38) (XS.icmpNo X18.here hx rfl (hb hby at_39) rfl (tlt (by decide : (2 : Int32) < (4 : Int32))).2.2.2 (XS.aload X18.here hx rfl (hb hby at_42) rfl rfl (XS.iconst X18.here hx rfl (hb hby at_44) (XS.lload X18.here hx rfl (hb hby at_45) rfl k))))))) ?_
    obtain ⟨T19, h19, X19, e19, W19, V19, st19⟩ := own_stJ X18 hx hZ e18 Ab16_18 (j := (2 : Int32)) (i := 2) ⟨by decide, by decide⟩ (by decide) (g := (mkF m 47 #[.val (.int p0), .val (.long p1), .second, .val (.long p2), .second, .val (.long p3), .second, .val (.long p4), .second, .val (.long p5), .second, .val (.int (4 : Int32)), .val (.ref b16), .unset] [(.long p3), (.int (2 : Int32)), (.ref b16)])) rfl rfl (hb hby at_47)
    have Ab16_19 : OArr Z h19 b16 .long 4 (fun j => .long ((own_L (0 : Int64) ([p1, p2, p3, (0 : Int64)] : List Int64)) j)) := V19.cast (fun j _ => (own_updJ _ _ _ j).trans (congrArg Value.long (own_L_set (0 : Int64) ([p1, p2, (0 : Int64), (0 : Int64)] : List Int64) 2 p3 (Nat.le_of_ble_eq_true rfl) j)))
    have N19 := Fr.snoc X19 N18 g_b16
    have Zn19 : n0 ≤ h19.size := Nat.le_trans Zn18 (Nat.le_of_eq W19.size.symm)
    refine OGo.st (T' := T19) (g' := (mkF m 48 #[.val (.int p0), .val (.long p1), .second, .val (.long p2), .second, .val (.long p3), .second, .val (.long p4), .second, .val (.long p5), .second, .val (.int (4 : Int32)), .val (.ref b16), .unset] [])) (fun _ k => st19 _ k) ?_
    refine OGo.st (T' := T19) (g' := (mkF m 59 #[.val (.int p0), .val (.long p1), .second, .val (.long p2), .second, .val (.long p3), .second, .val (.long p4), .second, .val (.long p5), .second, .val (.int (4 : Int32)), .val (.ref b16), .unset] [(.long p4), (.int (3 : Int32)), (.ref b16)])) (fun _ k => (XS.iload X19.here hx rfl (hb hby at_48) rfl (XS.iconst X19.here hx rfl (hb hby at_50) (XS.icmpNo X19.here hx rfl (hb hby at_51) rfl (tlt (by decide : (3 : Int32) < (4 : Int32))).2.2.2 (XS.aload X19.here hx rfl (hb hby at_54) rfl rfl (XS.iconst X19.here hx rfl (hb hby at_56) (XS.lload X19.here hx rfl (hb hby at_57) rfl k))))))) ?_
    obtain ⟨T20, h20, X20, e20, W20, V20, st20⟩ := own_stJ X19 hx hZ e19 Ab16_19 (j := (3 : Int32)) (i := 3) ⟨by decide, by decide⟩ (by decide) (g := (mkF m 59 #[.val (.int p0), .val (.long p1), .second, .val (.long p2), .second, .val (.long p3), .second, .val (.long p4), .second, .val (.long p5), .second, .val (.int (4 : Int32)), .val (.ref b16), .unset] [(.long p4), (.int (3 : Int32)), (.ref b16)])) rfl rfl (hb hby at_59)
    have Ab16_20 : OArr Z h20 b16 .long 4 (fun j => .long ((own_L (0 : Int64) ([p1, p2, p3, p4] : List Int64)) j)) := V20.cast (fun j _ => (own_updJ _ _ _ j).trans (congrArg Value.long (own_L_set (0 : Int64) ([p1, p2, p3, (0 : Int64)] : List Int64) 3 p4 (Nat.le_of_ble_eq_true rfl) j)))
    have N20 := Fr.snoc X20 N19 g_b16
    have Zn20 : n0 ≤ h20.size := Nat.le_trans Zn19 (Nat.le_of_eq W20.size.symm)
    refine OGo.st (T' := T20) (g' := (mkF m 60 #[.val (.int p0), .val (.long p1), .second, .val (.long p2), .second, .val (.long p3), .second, .val (.long p4), .second, .val (.long p5), .second, .val (.int (4 : Int32)), .val (.ref b16), .unset] [])) (fun _ k => st20 _ k) ?_
    refine OGo.st (T' := T20) (g' := (mkF m 74 #[.val (.int p0), .val (.long p1), .second, .val (.long p2), .second, .val (.long p3), .second, .val (.long p4), .second, .val (.long p5), .second, .val (.int (4 : Int32)), .val (.ref b16), .unset] [(.ref b16)])) (fun _ k => (XS.iload X20.here hx rfl (hb hby at_60) rfl (XS.iconst X20.here hx rfl (hb hby at_62) (XS.icmpYes X20.here hx rfl (pc0 := 63) (pc' := 72) rfl (hb hby at_63) rfl (flt (by decide : ¬ ((4 : Int32) < (4 : Int32)))).2.2.2 (by decide) (by decide) (XS.aload X20.here hx rfl (hb hby at_72) rfl rfl k))))) ?_
    obtain ⟨_, _, ⟨T21, L21, k21, n21⟩, -, X21, ⟨Lc21, hQ21, l21, y21, z21⟩, st21⟩ := Jvm.LawKit.callS X20 hx (y := (⟨"com/example/unify_to_cover/unifytocover/search/ValueSets", "clear", "([J)V"⟩ : MethodName)) hown (mvT hZ (hw _ (List.mem_of_getElem? (i := 2) rfl))) (mvT hZ (hw _ (List.mem_of_getElem? (i := 3) rfl))) (mvT hZ (hw _ (List.mem_of_getElem? (i := 4) rfl))) (mvT hZ (hw _ (List.mem_of_getElem? (i := 5) rfl))) (by decide) (backOf (W := 0) (rmC4 l Z a0 hw [] (b16) (p1) (p2) (p3) (p4) h20 n0 Zn20 (Ab16_20) (g_b16)) hZ (hw _ (List.mem_of_getElem? (i := 5) rfl)) (hw _ (List.mem_of_getElem? (i := 4) rfl)) (by decide) (by decide)) (g := (mkF m 74 #[.val (.int p0), .val (.long p1), .second, .val (.long p2), .second, .val (.long p3), .second, .val (.long p4), .second, .val (.long p5), .second, .val (.int (4 : Int32)), .val (.ref b16), .unset] [(.ref b16)])) rfl (by rw [hml]; rfl) (argsL := [(.ref b16)]) (rest := []) (lenOf own_pd1 rfl) rfl (by show 2 * 0 + _ ≤ _; exact Nat.le_of_eq rfl) (hb hby at_74) (fun _ _ => ⟨rfl, e20, (by decide : 1 + 0 ≤ _), (by decide : 4 + 0 ≤ _)⟩)
    dsimp only [Pt.U, Pt.locs, Pt.cells, Pt.slots] at X21 l21 y21 z21 st21 hQ21
    subst l21 y21 z21
    have X21 : Stand p l e room_1 s m _ below meth c T21 _ 1 4 := X21
    obtain ⟨h21, e21⟩ : ∃ z, T21.heap = z := ⟨_, rfl⟩
    rw [e21] at hQ21
    obtain ⟨rfl, Nq21, Kc21, G21x0⟩ := hQ21
    have N21 := Fr.app N20 Nq21
    have Zn21 : n0 ≤ h21.size := Nat.le_trans Zn20 Kc21.1
    refine OGo.st (T' := T21) (g' := (mkF m 77 #[.val (.int p0), .val (.long p1), .second, .val (.long p2), .second, .val (.long p3), .second, .val (.long p4), .second, .val (.long p5), .second, .val (.int (4 : Int32)), .val (.ref b16), .unset] [])) (fun _ k => st21 _ k) ?_
    refine OGo.st (T' := T21) (g' := (mkF m 79 #[.val (.int p0), .val (.long p1), .second, .val (.long p2), .second, .val (.long p3), .second, .val (.long p4), .second, .val (.long p5), .second, .val (.int (4 : Int32)), .val (.ref b16), .unset] [(.ref b16)])) (fun _ k => (XS.aload X21.here hx rfl (hb hby at_77) rfl rfl k)) ?_
    refine OGo.st (T' := T21) (g' := (mkF m 92 #[.val (.int p0), .val (.long p1), .second, .val (.long p2), .second, .val (.long p3), .second, .val (.long p4), .second, .val (.long p5), .second, .val (.int (4 : Int32)), .val (.ref b16), .val (.int (1 : Int32))] [])) (fun _ k => (own_len X21 hx hZ e21 G21x0 (g := (mkF m 79 #[.val (.int p0), .val (.long p1), .second, .val (.long p2), .second, .val (.long p3), .second, .val (.long p4), .second, .val (.long p5), .second, .val (.int (4 : Int32)), .val (.ref b16), .unset] [(.ref b16)])) rfl rfl (hb hby at_79) _ (XS.iload X21.here hx rfl (hb hby at_80) rfl (XS.icmpNo X21.here hx rfl (hb hby at_82) rfl (teq (by decide : (4 : Int32) = (4 : Int32))).2 (XS.iconst X21.here hx rfl (hb hby at_85) (XS.goto X21.here hx rfl (pc0 := 86) (pc' := 90) rfl (hb hby at_86) (by decide) (by decide) (XS.istore X21.here hx rfl (hb hby at_90) rfl (l' := #[.val (.int p0), .val (.long p1), .second, .val (.long p2), .second, .val (.long p3), .second, .val (.long p4), .second, .val (.long p5), .second, .val (.int (4 : Int32)), .val (.ref b16), .val (.int (1 : Int32))]) rfl k))))))) ?_
    refine OGo.st (T' := T21) (g' := (mkF m 105 #[.val (.int p0), .val (.long p1), .second, .val (.long p2), .second, .val (.long p3), .second, .val (.long p4), .second, .val (.long p5), .second, .val (.int (4 : Int32)), .val (.ref b16), .val (.int (1 : Int32))] [(.int (0 : Int32)), (.ref b16)])) (fun _ k => (XS.iload X21.here hx rfl (hb hby at_92) rfl (XS.ifNo X21.here hx rfl (hb hby at_94) rfl ((if0 _ _).trans (tlt (by decide : (0 : Int32) < (4 : Int32))).2.2.2) (XS.iload X21.here hx rfl (hb hby at_97) rfl (XS.ifNo X21.here hx rfl (hb hby at_99) rfl ((if0 _ _).trans (feq (by decide : ¬ ((1 : Int32) = (0 : Int32)))).1) (XS.aload X21.here hx rfl (hb hby at_102) rfl rfl (XS.iconst X21.here hx rfl (hb hby at_104) k))))))) ?_
    refine OGo.st (T' := T21) (g' := (mkF m 106 #[.val (.int p0), .val (.long p1), .second, .val (.long p2), .second, .val (.long p3), .second, .val (.long p4), .second, .val (.long p5), .second, .val (.int (4 : Int32)), .val (.ref b16), .val (.int (1 : Int32))] [(.long (0 : Int64))])) (fun _ k => (own_ldJ X21 hx hZ e21 G21x0 (j := (0 : Int32)) (i := 0) ⟨by decide, by decide⟩ (by decide) (g := (mkF m 105 #[.val (.int p0), .val (.long p1), .second, .val (.long p2), .second, .val (.long p3), .second, .val (.long p4), .second, .val (.long p5), .second, .val (.int (4 : Int32)), .val (.ref b16), .val (.int (1 : Int32))] [(.int (0 : Int32)), (.ref b16)])) rfl rfl (hb hby at_105) _ k)) ?_
    refine OGo.st (T' := T21) (g' := (mkF m 118 #[.val (.int p0), .val (.long p1), .second, .val (.long p2), .second, .val (.long p3), .second, .val (.long p4), .second, .val (.long p5), .second, .val (.int (4 : Int32)), .val (.ref b16), .val (.int (1 : Int32))] [])) (fun _ k => (XS.lconst X21.here hx rfl (hb hby at_106) (XS.lcmp X21.here hx rfl (hb hby at_107) rfl (XS.ifNo X21.here hx rfl (hb hby at_108) rfl ((if0 _ _).trans (teq ((lw_eq (0 : Int64) (0 : Int64)).mpr (by decide : (0 : Int64) = (0 : Int64)))).2) (XS.iconst X21.here hx rfl (hb hby at_111) (XS.goto X21.here hx rfl (pc0 := 112) (pc' := 116) rfl (hb hby at_112) (by decide) (by decide) (XS.istore X21.here hx rfl (hb hby at_116) rfl (l' := #[.val (.int p0), .val (.long p1), .second, .val (.long p2), .second, .val (.long p3), .second, .val (.long p4), .second, .val (.long p5), .second, .val (.int (4 : Int32)), .val (.ref b16), .val (.int (1 : Int32))]) rfl k))))))) ?_
    refine OGo.st (T' := T21) (g' := (mkF m 131 #[.val (.int p0), .val (.long p1), .second, .val (.long p2), .second, .val (.long p3), .second, .val (.long p4), .second, .val (.long p5), .second, .val (.int (4 : Int32)), .val (.ref b16), .val (.int (1 : Int32))] [(.ref b16)])) (fun _ k => (XS.iload X21.here hx rfl (hb hby at_118) rfl (XS.iconst X21.here hx rfl (hb hby at_120) (XS.icmpNo X21.here hx rfl (hb hby at_121) rfl (tlt (by decide : (1 : Int32) < (4 : Int32))).2.2.2 (XS.iload X21.here hx rfl (hb hby at_124) rfl (XS.ifNo X21.here hx rfl (hb hby at_126) rfl ((if0 _ _).trans (feq (by decide : ¬ ((1 : Int32) = (0 : Int32)))).1) (XS.aload X21.here hx rfl (hb hby at_129) rfl rfl k))))))) ?_
    refine OGo.st (T' := T21) (g' := (mkF m 132 #[.val (.int p0), .val (.long p1), .second, .val (.long p2), .second, .val (.long p3), .second, .val (.long p4), .second, .val (.long p5), .second, .val (.int (4 : Int32)), .val (.ref b16), .val (.int (1 : Int32))] [(.int (1 : Int32)), (.ref b16)])) (fun _ k => (XS.iconst X21.here hx rfl (hb hby at_131) k)) ?_
    refine OGo.st (T' := T21) (g' := (mkF m 133 #[.val (.int p0), .val (.long p1), .second, .val (.long p2), .second, .val (.long p3), .second, .val (.long p4), .second, .val (.long p5), .second, .val (.int (4 : Int32)), .val (.ref b16), .val (.int (1 : Int32))] [(.long (0 : Int64))])) (fun _ k => (own_ldJ X21 hx hZ e21 G21x0 (j := (1 : Int32)) (i := 1) ⟨by decide, by decide⟩ (by decide) (g := (mkF m 132 #[.val (.int p0), .val (.long p1), .second, .val (.long p2), .second, .val (.long p3), .second, .val (.long p4), .second, .val (.long p5), .second, .val (.int (4 : Int32)), .val (.ref b16), .val (.int (1 : Int32))] [(.int (1 : Int32)), (.ref b16)])) rfl rfl (hb hby at_132) _ k)) ?_
    refine OGo.st (T' := T21) (g' := (mkF m 145 #[.val (.int p0), .val (.long p1), .second, .val (.long p2), .second, .val (.long p3), .second, .val (.long p4), .second, .val (.long p5), .second, .val (.int (4 : Int32)), .val (.ref b16), .val (.int (1 : Int32))] [])) (fun _ k => (XS.lconst X21.here hx rfl (hb hby at_133) (XS.lcmp X21.here hx rfl (hb hby at_134) rfl (XS.ifNo X21.here hx rfl (hb hby at_135) rfl ((if0 _ _).trans (teq ((lw_eq (0 : Int64) (0 : Int64)).mpr (by decide : (0 : Int64) = (0 : Int64)))).2) (XS.iconst X21.here hx rfl (hb hby at_138) (XS.goto X21.here hx rfl (pc0 := 139) (pc' := 143) rfl (hb hby at_139) (by decide) (by decide) (XS.istore X21.here hx rfl (hb hby at_143) rfl (l' := #[.val (.int p0), .val (.long p1), .second, .val (.long p2), .second, .val (.long p3), .second, .val (.long p4), .second, .val (.long p5), .second, .val (.int (4 : Int32)), .val (.ref b16), .val (.int (1 : Int32))]) rfl k))))))) ?_
    refine OGo.st (T' := T21) (g' := (mkF m 158 #[.val (.int p0), .val (.long p1), .second, .val (.long p2), .second, .val (.long p3), .second, .val (.long p4), .second, .val (.long p5), .second, .val (.int (4 : Int32)), .val (.ref b16), .val (.int (1 : Int32))] [(.ref b16)])) (fun _ k => (XS.iload X21.here hx rfl (hb hby at_145) rfl (XS.iconst X21.here hx rfl (hb hby at_147) (XS.icmpNo X21.here hx rfl (hb hby at_148) rfl (tlt (by decide : (2 : Int32) < (4 : Int32))).2.2.2 (XS.iload X21.here hx rfl (hb hby at_151) rfl (XS.ifNo X21.here hx rfl (hb hby at_153) rfl ((if0 _ _).trans (feq (by decide : ¬ ((1 : Int32) = (0 : Int32)))).1) (XS.aload X21.here hx rfl (hb hby at_156) rfl rfl k))))))) ?_
    refine OGo.st (T' := T21) (g' := (mkF m 159 #[.val (.int p0), .val (.long p1), .second, .val (.long p2), .second, .val (.long p3), .second, .val (.long p4), .second, .val (.long p5), .second, .val (.int (4 : Int32)), .val (.ref b16), .val (.int (1 : Int32))] [(.int (2 : Int32)), (.ref b16)])) (fun _ k => (XS.iconst X21.here hx rfl (hb hby at_158) k)) ?_
    refine OGo.st (T' := T21) (g' := (mkF m 160 #[.val (.int p0), .val (.long p1), .second, .val (.long p2), .second, .val (.long p3), .second, .val (.long p4), .second, .val (.long p5), .second, .val (.int (4 : Int32)), .val (.ref b16), .val (.int (1 : Int32))] [(.long (0 : Int64))])) (fun _ k => (own_ldJ X21 hx hZ e21 G21x0 (j := (2 : Int32)) (i := 2) ⟨by decide, by decide⟩ (by decide) (g := (mkF m 159 #[.val (.int p0), .val (.long p1), .second, .val (.long p2), .second, .val (.long p3), .second, .val (.long p4), .second, .val (.long p5), .second, .val (.int (4 : Int32)), .val (.ref b16), .val (.int (1 : Int32))] [(.int (2 : Int32)), (.ref b16)])) rfl rfl (hb hby at_159) _ k)) ?_
    refine OGo.st (T' := T21) (g' := (mkF m 172 #[.val (.int p0), .val (.long p1), .second, .val (.long p2), .second, .val (.long p3), .second, .val (.long p4), .second, .val (.long p5), .second, .val (.int (4 : Int32)), .val (.ref b16), .val (.int (1 : Int32))] [])) (fun _ k => (XS.lconst X21.here hx rfl (hb hby at_160) (XS.lcmp X21.here hx rfl (hb hby at_161) rfl (XS.ifNo X21.here hx rfl (hb hby at_162) rfl ((if0 _ _).trans (teq ((lw_eq (0 : Int64) (0 : Int64)).mpr (by decide : (0 : Int64) = (0 : Int64)))).2) (XS.iconst X21.here hx rfl (hb hby at_165) (XS.goto X21.here hx rfl (pc0 := 166) (pc' := 170) rfl (hb hby at_166) (by decide) (by decide) (XS.istore X21.here hx rfl (hb hby at_170) rfl (l' := #[.val (.int p0), .val (.long p1), .second, .val (.long p2), .second, .val (.long p3), .second, .val (.long p4), .second, .val (.long p5), .second, .val (.int (4 : Int32)), .val (.ref b16), .val (.int (1 : Int32))]) rfl k))))))) ?_
    refine OGo.st (T' := T21) (g' := (mkF m 185 #[.val (.int p0), .val (.long p1), .second, .val (.long p2), .second, .val (.long p3), .second, .val (.long p4), .second, .val (.long p5), .second, .val (.int (4 : Int32)), .val (.ref b16), .val (.int (1 : Int32))] [(.ref b16)])) (fun _ k => (XS.iload X21.here hx rfl (hb hby at_172) rfl (XS.iconst X21.here hx rfl (hb hby at_174) (XS.icmpNo X21.here hx rfl (hb hby at_175) rfl (tlt (by decide : (3 : Int32) < (4 : Int32))).2.2.2 (XS.iload X21.here hx rfl (hb hby at_178) rfl (XS.ifNo X21.here hx rfl (hb hby at_180) rfl ((if0 _ _).trans (feq (by decide : ¬ ((1 : Int32) = (0 : Int32)))).1) (XS.aload X21.here hx rfl (hb hby at_183) rfl rfl k))))))) ?_
    refine OGo.st (T' := T21) (g' := (mkF m 186 #[.val (.int p0), .val (.long p1), .second, .val (.long p2), .second, .val (.long p3), .second, .val (.long p4), .second, .val (.long p5), .second, .val (.int (4 : Int32)), .val (.ref b16), .val (.int (1 : Int32))] [(.int (3 : Int32)), (.ref b16)])) (fun _ k => (XS.iconst X21.here hx rfl (hb hby at_185) k)) ?_
    refine OGo.st (T' := T21) (g' := (mkF m 187 #[.val (.int p0), .val (.long p1), .second, .val (.long p2), .second, .val (.long p3), .second, .val (.long p4), .second, .val (.long p5), .second, .val (.int (4 : Int32)), .val (.ref b16), .val (.int (1 : Int32))] [(.long (0 : Int64))])) (fun _ k => (own_ldJ X21 hx hZ e21 G21x0 (j := (3 : Int32)) (i := 3) ⟨by decide, by decide⟩ (by decide) (g := (mkF m 186 #[.val (.int p0), .val (.long p1), .second, .val (.long p2), .second, .val (.long p3), .second, .val (.long p4), .second, .val (.long p5), .second, .val (.int (4 : Int32)), .val (.ref b16), .val (.int (1 : Int32))] [(.int (3 : Int32)), (.ref b16)])) rfl rfl (hb hby at_186) _ k)) ?_
    refine OGo.st (T' := T21) (g' := (mkF m 199 #[.val (.int p0), .val (.long p1), .second, .val (.long p2), .second, .val (.long p3), .second, .val (.long p4), .second, .val (.long p5), .second, .val (.int (4 : Int32)), .val (.ref b16), .val (.int (1 : Int32))] [])) (fun _ k => (XS.lconst X21.here hx rfl (hb hby at_187) (XS.lcmp X21.here hx rfl (hb hby at_188) rfl (XS.ifNo X21.here hx rfl (hb hby at_189) rfl ((if0 _ _).trans (teq ((lw_eq (0 : Int64) (0 : Int64)).mpr (by decide : (0 : Int64) = (0 : Int64)))).2) (XS.iconst X21.here hx rfl (hb hby at_192) (XS.goto X21.here hx rfl (pc0 := 193) (pc' := 197) rfl (hb hby at_193) (by decide) (by decide) (XS.istore X21.here hx rfl (hb hby at_197) rfl (l' := #[.val (.int p0), .val (.long p1), .second, .val (.long p2), .second, .val (.long p3), .second, .val (.long p4), .second, .val (.long p5), .second, .val (.int (4 : Int32)), .val (.ref b16), .val (.int (1 : Int32))]) rfl k))))))) ?_
    refine OGo.st (T' := T21) (g' := (mkF m 228 #[.val (.int p0), .val (.long p1), .second, .val (.long p2), .second, .val (.long p3), .second, .val (.long p4), .second, .val (.long p5), .second, .val (.int (4 : Int32)), .val (.ref b16), .val (.int (1 : Int32))] [(.int (1 : Int32))])) (fun _ k => (XS.iload X21.here hx rfl (hb hby at_199) rfl (XS.iconst X21.here hx rfl (hb hby at_201) (XS.icmpYes X21.here hx rfl (pc0 := 202) (pc' := 226) rfl (hb hby at_202) rfl (flt (by decide : ¬ ((4 : Int32) < (4 : Int32)))).2.2.2 (by decide) (by decide) (XS.iload X21.here hx rfl (hb hby at_226) rfl k))))) ?_
    exact OGo.ret X21 hx hlk Bd.returns rfl (own_rI (Or.inr (Or.inl rfl))) (hb hby at_228) (by decide) (by decide) e21 (⟨rfl, N21⟩)
  · rw [hl1]
    refine OGo.st (T' := s₁) (g' := (mkF m 11 #[.val (.int p0), .val (.long p1), .second, .val (.long p2), .second, .val (.long p3), .second, .val (.long p4), .second, .val (.long p5), .second, .val (.int (5 : Int32)), .unset, .unset] [(.int (5 : Int32))])) (fun _ k => (XS.iload X0.here hx rfl (hb hby at_9) rfl k)) ?_
    obtain ⟨T22, h22, b22, g22, X22, e22, E22, V22, st22⟩ := own_newA X0 hx hZ (hw _ (List.mem_of_getElem? (i := 1) rfl)) e0 (g := (mkF m 11 #[.val (.int p0), .val (.long p1), .second, .val (.long p2), .second, .val (.long p3), .second, .val (.long p4), .second, .val (.long p5), .second, .val (.int (5 : Int32)), .unset, .unset] [(.int (5 : Int32))])) rfl (hb hby at_11) rfl (n := 5) ⟨by decide, by decide⟩ (cap := 5) (by decide) (by decide) (by decide) (by decide)
    have g_b22 : n0 ≤ b22 := Nat.le_trans Z0 (Nat.le_of_eq g22.symm)
    have A22 : OArr Z h22 b22 .long 5 (fun j => .long ((own_L (0 : Int64) ([(0 : Int64), (0 : Int64), (0 : Int64), (0 : Int64), (0 : Int64)] : List Int64)) j)) := OArr.cast V22 (fun j _ => congrArg Value.long (own_L_rep (0 : Int64) 5 j))
    have Zn22 : n0 ≤ h22.size := Nat.le_trans Z0 E22.1
    have X22 : Stand p l e room_1 s m _ below meth c T22 _ 1 5 := X22
    refine OGo.st (T' := T22) (g' := (mkF m 13 #[.val (.int p0), .val (.long p1), .second, .val (.long p2), .second, .val (.long p3), .second, .val (.long p4), .second, .val (.long p5), .second, .val (.int (5 : Int32)), .unset, .unset] [(.ref b22)])) (fun _ k => st22 _ k) ?_
    refine OGo.st (T' := T22) (g' := (mkF m 24 #[.val (.int p0), .val (.long p1), .second, .val (.long p2), .second, .val (.long p3), .second, .val (.long p4), .second, .val (.long p5), .second, .val (.int (5 : Int32)), .val (.ref b22), .unset] [(.long p1), (.int (0 : Int32)), (.ref b22)])) (fun _ k => (XS.astore X22.here hx rfl (hb hby at_13) rfl rfl (l' := #[.val (.int p0), .val (.long p1), .second, .val (.long p2), .second, .val (.long p3), .second, .val (.long p4), .second, .val (.long p5), .second, .val (.int (5 : Int32)), .val (.ref b22), .unset]) rfl (XS.iload X22.here hx rfl (hb hby at_15) rfl (XS.ifNo X22.here hx rfl (hb hby at_17) rfl ((if0 _ _).trans (tlt (by decide : (0 : Int32) < (5 : Int32))).2.2.2) (XS.aload X22.here hx rfl (hb hby at_20) rfl rfl (XS.iconst X22.here hx rfl (hb hby at_22) (XS.lloadN X22.here hx rfl (hb hby at_23) rfl k))))))) ?_
    obtain ⟨T23, h23, X23, e23, W23, V23, st23⟩ := own_stJ X22 hx hZ e22 A22 (j := (0 : Int32)) (i := 0) ⟨by decide, by decide⟩ (by decide) (g := (mkF m 24 #[.val (.int p0), .val (.long p1), .second, .val (.long p2), .second, .val (.long p3), .second, .val (.long p4), .second, .val (.long p5), .second, .val (.int (5 : Int32)), .val (.ref b22), .unset] [(.long p1), (.int (0 : Int32)), (.ref b22)])) rfl rfl (hb hby at_24)
    have Ab22_23 : OArr Z h23 b22 .long 5 (fun j => .long ((own_L (0 : Int64) ([p1, (0 : Int64), (0 : Int64), (0 : Int64), (0 : Int64)] : List Int64)) j)) := V23.cast (fun j _ => (own_updJ _ _ _ j).trans (congrArg Value.long (own_L_set (0 : Int64) ([(0 : Int64), (0 : Int64), (0 : Int64), (0 : Int64), (0 : Int64)] : List Int64) 0 p1 (Nat.le_of_ble_eq_true rfl) j)))
    have N23 := Fr.snoc X23 N0 g_b22
    have Zn23 : n0 ≤ h23.size := Nat.le_trans Zn22 (Nat.le_of_eq W23.size.symm)
    refine OGo.st (T' := T23) (g' := (mkF m 25 #[.val (.int p0), .val (.long p1), .second, .val (.long p2), .second, .val (.long p3), .second, .val (.long p4), .second, .val (.long p5), .second, .val (.int (5 : Int32)), .val (.ref b22), .unset] [])) (fun _ k => st23 _ k) ?_
    refine OGo.st (T' := T23) (g' := (mkF m 35 #[.val (.int p0), .val (.long p1), .second, .val (.long p2), .second, .val (.long p3), .second, .val (.long p4), .second, .val (.long p5), .second, .val (.int (5 : Int32)), .val (.ref b22), .unset] [(.long p2), (.int (1 : Int32)), (.ref b22)])) (fun _ k => (XS.iload X23.here hx rfl (hb hby at_25) rfl (XS.iconst X23.here hx rfl (hb hby at_27) (XS.icmpNo X23.here hx rfl (hb hby at_28) rfl (tlt (by decide : (1 : Int32) < (5 : Int32))).2.2.2 (XS.aload X23.here hx rfl (hb hby at_31) rfl rfl (XS.iconst X23.here hx rfl (hb hby at_33) (XS.lloadN X23.here hx rfl (hb hby at_34) rfl k))))))) ?_
    obtain ⟨T24, h24, X24, e24, W24, V24, st24⟩ := own_stJ X23 hx hZ e23 Ab22_23 (j := (1 : Int32)) (i := 1) ⟨by decide, by decide⟩ (by decide) (g := (mkF m 35 #[.val (.int p0), .val (.long p1), .second, .val (.long p2), .second, .val (.long p3), .second, .val (.long p4), .second, .val (.long p5), .second, .val (.int (5 : Int32)), .val (.ref b22), .unset] [(.long p2), (.int (1 : Int32)), (.ref b22)])) rfl rfl (hb hby at_35)
    have Ab22_24 : OArr Z h24 b22 .long 5 (fun j => .long ((own_L (0 : Int64) ([p1, p2, (0 : Int64), (0 : Int64), (0 : Int64)] : List Int64)) j)) := V24.cast (fun j _ => (own_updJ _ _ _ j).trans (congrArg Value.long (own_L_set (0 : Int64) ([p1, (0 : Int64), (0 : Int64), (0 : Int64), (0 : Int64)] : List Int64) 1 p2 (Nat.le_of_ble_eq_true rfl) j)))
    have N24 := Fr.snoc X24 N23 g_b22
    have Zn24 : n0 ≤ h24.size := Nat.le_trans Zn23 (Nat.le_of_eq W24.size.symm)
    refine OGo.st (T' := T24) (g' := (mkF m 36 #[.val (.int p0), .val (.long p1), .second, .val (.long p2), .second, .val (.long p3), .second, .val (.long p4), .second, .val (.long p5), .second, .val (.int (5 : Int32)), .val (.ref b22), .unset] [])) (fun _ k => st24 _ k) ?_
    refine OGo.st (T' := T24) (g' := (mkF m 47 #[.val (.int p0), .val (.long p1), .second, .val (.long p2), .second, .val (.long p3), .second, .val (.long p4), .second, .val (.long p5), .second, .val (.int (5 : Int32)), .val (.ref b22), .unset] [(.long p3), (.int (2 : Int32)), (.ref b22)])) (fun _ k => (XS.iload X24.here hx rfl (hb hby at_36) rfl (XS.iconst X24.here hx rfl (hb hby at_38) (XS.icmpNo X24.here hx rfl (hb hby at_39) rfl (tlt (by decide : (2 : Int32) < (5 : Int32))).2.2.2 (XS.aload X24.here hx rfl (hb hby at_42) rfl rfl (XS.iconst X24.here hx rfl (hb hby at_44) (XS.lload X24.here hx rfl (hb hby at_45) rfl k))))))) ?_
    obtain ⟨T25, h25, X25, e25, W25, V25, st25⟩ := own_stJ X24 hx hZ e24 Ab22_24 (j := (2 : Int32)) (i := 2) ⟨by decide, by decide⟩ (by decide) (g := (mkF m 47 #[.val (.int p0), .val (.long p1), .second, .val (.long p2), .second, .val (.long p3), .second, .val (.long p4), .second, .val (.long p5), .second, .val (.int (5 : Int32)), .val (.ref b22), .unset] [(.long p3), (.int (2 : Int32)), (.ref b22)])) rfl rfl (hb hby at_47)
    have Ab22_25 : OArr Z h25 b22 .long 5 (fun j => .long ((own_L (0 : Int64) ([p1, p2, p3, (0 : Int64), (0 : Int64)] : List Int64)) j)) := V25.cast (fun j _ => (own_updJ _ _ _ j).trans (congrArg Value.long (own_L_set (0 : Int64) ([p1, p2, (0 : Int64), (0 : Int64), (0 : Int64)] : List Int64) 2 p3 (Nat.le_of_ble_eq_true rfl) j)))
    have N25 := Fr.snoc X25 N24 g_b22
    have Zn25 : n0 ≤ h25.size := Nat.le_trans Zn24 (Nat.le_of_eq W25.size.symm)
    refine OGo.st (T' := T25) (g' := (mkF m 48 #[.val (.int p0), .val (.long p1), .second, .val (.long p2), .second, .val (.long p3), .second, .val (.long p4), .second, .val (.long p5), .second, .val (.int (5 : Int32)), .val (.ref b22), .unset] [])) (fun _ k => st25 _ k) ?_
    refine OGo.st (T' := T25) (g' := (mkF m 59 #[.val (.int p0), .val (.long p1), .second, .val (.long p2), .second, .val (.long p3), .second, .val (.long p4), .second, .val (.long p5), .second, .val (.int (5 : Int32)), .val (.ref b22), .unset] [(.long p4), (.int (3 : Int32)), (.ref b22)])) (fun _ k => (XS.iload X25.here hx rfl (hb hby at_48) rfl (XS.iconst X25.here hx rfl (hb hby at_50) (XS.icmpNo X25.here hx rfl (hb hby at_51) rfl (tlt (by decide : (3 : Int32) < (5 : Int32))).2.2.2 (XS.aload X25.here hx rfl (hb hby at_54) rfl rfl (XS.iconst X25.here hx rfl (hb hby at_56) (XS.lload X25.here hx rfl (hb hby at_57) rfl k))))))) ?_
    obtain ⟨T26, h26, X26, e26, W26, V26, st26⟩ := own_stJ X25 hx hZ e25 Ab22_25 (j := (3 : Int32)) (i := 3) ⟨by decide, by decide⟩ (by decide) (g := (mkF m 59 #[.val (.int p0), .val (.long p1), .second, .val (.long p2), .second, .val (.long p3), .second, .val (.long p4), .second, .val (.long p5), .second, .val (.int (5 : Int32)), .val (.ref b22), .unset] [(.long p4), (.int (3 : Int32)), (.ref b22)])) rfl rfl (hb hby at_59)
    have Ab22_26 : OArr Z h26 b22 .long 5 (fun j => .long ((own_L (0 : Int64) ([p1, p2, p3, p4, (0 : Int64)] : List Int64)) j)) := V26.cast (fun j _ => (own_updJ _ _ _ j).trans (congrArg Value.long (own_L_set (0 : Int64) ([p1, p2, p3, (0 : Int64), (0 : Int64)] : List Int64) 3 p4 (Nat.le_of_ble_eq_true rfl) j)))
    have N26 := Fr.snoc X26 N25 g_b22
    have Zn26 : n0 ≤ h26.size := Nat.le_trans Zn25 (Nat.le_of_eq W26.size.symm)
    refine OGo.st (T' := T26) (g' := (mkF m 60 #[.val (.int p0), .val (.long p1), .second, .val (.long p2), .second, .val (.long p3), .second, .val (.long p4), .second, .val (.long p5), .second, .val (.int (5 : Int32)), .val (.ref b22), .unset] [])) (fun _ k => st26 _ k) ?_
    refine OGo.st (T' := T26) (g' := (mkF m 71 #[.val (.int p0), .val (.long p1), .second, .val (.long p2), .second, .val (.long p3), .second, .val (.long p4), .second, .val (.long p5), .second, .val (.int (5 : Int32)), .val (.ref b22), .unset] [(.long p5), (.int (4 : Int32)), (.ref b22)])) (fun _ k => (XS.iload X26.here hx rfl (hb hby at_60) rfl (XS.iconst X26.here hx rfl (hb hby at_62) (XS.icmpNo X26.here hx rfl (hb hby at_63) rfl (tlt (by decide : (4 : Int32) < (5 : Int32))).2.2.2 (XS.aload X26.here hx rfl (hb hby at_66) rfl rfl (XS.iconst X26.here hx rfl (hb hby at_68) (XS.lload X26.here hx rfl (hb hby at_69) rfl k))))))) ?_
    obtain ⟨T27, h27, X27, e27, W27, V27, st27⟩ := own_stJ X26 hx hZ e26 Ab22_26 (j := (4 : Int32)) (i := 4) ⟨by decide, by decide⟩ (by decide) (g := (mkF m 71 #[.val (.int p0), .val (.long p1), .second, .val (.long p2), .second, .val (.long p3), .second, .val (.long p4), .second, .val (.long p5), .second, .val (.int (5 : Int32)), .val (.ref b22), .unset] [(.long p5), (.int (4 : Int32)), (.ref b22)])) rfl rfl (hb hby at_71)
    have Ab22_27 : OArr Z h27 b22 .long 5 (fun j => .long ((own_L (0 : Int64) ([p1, p2, p3, p4, p5] : List Int64)) j)) := V27.cast (fun j _ => (own_updJ _ _ _ j).trans (congrArg Value.long (own_L_set (0 : Int64) ([p1, p2, p3, p4, (0 : Int64)] : List Int64) 4 p5 (Nat.le_of_ble_eq_true rfl) j)))
    have N27 := Fr.snoc X27 N26 g_b22
    have Zn27 : n0 ≤ h27.size := Nat.le_trans Zn26 (Nat.le_of_eq W27.size.symm)
    refine OGo.st (T' := T27) (g' := (mkF m 72 #[.val (.int p0), .val (.long p1), .second, .val (.long p2), .second, .val (.long p3), .second, .val (.long p4), .second, .val (.long p5), .second, .val (.int (5 : Int32)), .val (.ref b22), .unset] [])) (fun _ k => st27 _ k) ?_
    refine OGo.st (T' := T27) (g' := (mkF m 74 #[.val (.int p0), .val (.long p1), .second, .val (.long p2), .second, .val (.long p3), .second, .val (.long p4), .second, .val (.long p5), .second, .val (.int (5 : Int32)), .val (.ref b22), .unset] [(.ref b22)])) (fun _ k => (XS.aload X27.here hx rfl (hb hby at_72) rfl rfl k)) ?_
    obtain ⟨_, _, ⟨T28, L28, k28, n28⟩, -, X28, ⟨Lc28, hQ28, l28, y28, z28⟩, st28⟩ := Jvm.LawKit.callS X27 hx (y := (⟨"com/example/unify_to_cover/unifytocover/search/ValueSets", "clear", "([J)V"⟩ : MethodName)) hown (mvT hZ (hw _ (List.mem_of_getElem? (i := 2) rfl))) (mvT hZ (hw _ (List.mem_of_getElem? (i := 3) rfl))) (mvT hZ (hw _ (List.mem_of_getElem? (i := 4) rfl))) (mvT hZ (hw _ (List.mem_of_getElem? (i := 5) rfl))) (by decide) (backOf (W := 0) (rmC5 l Z a0 hw [] (b22) (p1) (p2) (p3) (p4) (p5) h27 n0 Zn27 (Ab22_27) (g_b22)) hZ (hw _ (List.mem_of_getElem? (i := 5) rfl)) (hw _ (List.mem_of_getElem? (i := 4) rfl)) (by decide) (by decide)) (g := (mkF m 74 #[.val (.int p0), .val (.long p1), .second, .val (.long p2), .second, .val (.long p3), .second, .val (.long p4), .second, .val (.long p5), .second, .val (.int (5 : Int32)), .val (.ref b22), .unset] [(.ref b22)])) rfl (by rw [hml]; rfl) (argsL := [(.ref b22)]) (rest := []) (lenOf own_pd1 rfl) rfl (by show 2 * 0 + _ ≤ _; exact Nat.le_of_eq rfl) (hb hby at_74) (fun _ _ => ⟨rfl, e27, (by decide : 1 + 0 ≤ _), (by decide : 5 + 0 ≤ _)⟩)
    dsimp only [Pt.U, Pt.locs, Pt.cells, Pt.slots] at X28 l28 y28 z28 st28 hQ28
    subst l28 y28 z28
    have X28 : Stand p l e room_1 s m _ below meth c T28 _ 1 5 := X28
    obtain ⟨h28, e28⟩ : ∃ z, T28.heap = z := ⟨_, rfl⟩
    rw [e28] at hQ28
    obtain ⟨rfl, Nq28, Kc28, G28x0⟩ := hQ28
    have N28 := Fr.app N27 Nq28
    have Zn28 : n0 ≤ h28.size := Nat.le_trans Zn27 Kc28.1
    refine OGo.st (T' := T28) (g' := (mkF m 77 #[.val (.int p0), .val (.long p1), .second, .val (.long p2), .second, .val (.long p3), .second, .val (.long p4), .second, .val (.long p5), .second, .val (.int (5 : Int32)), .val (.ref b22), .unset] [])) (fun _ k => st28 _ k) ?_
    refine OGo.st (T' := T28) (g' := (mkF m 79 #[.val (.int p0), .val (.long p1), .second, .val (.long p2), .second, .val (.long p3), .second, .val (.long p4), .second, .val (.long p5), .second, .val (.int (5 : Int32)), .val (.ref b22), .unset] [(.ref b22)])) (fun _ k => (XS.aload X28.here hx rfl (hb hby at_77) rfl rfl k)) ?_
    refine OGo.st (T' := T28) (g' := (mkF m 92 #[.val (.int p0), .val (.long p1), .second, .val (.long p2), .second, .val (.long p3), .second, .val (.long p4), .second, .val (.long p5), .second, .val (.int (5 : Int32)), .val (.ref b22), .val (.int (1 : Int32))] [])) (fun _ k => (own_len X28 hx hZ e28 G28x0 (g := (mkF m 79 #[.val (.int p0), .val (.long p1), .second, .val (.long p2), .second, .val (.long p3), .second, .val (.long p4), .second, .val (.long p5), .second, .val (.int (5 : Int32)), .val (.ref b22), .unset] [(.ref b22)])) rfl rfl (hb hby at_79) _ (XS.iload X28.here hx rfl (hb hby at_80) rfl (XS.icmpNo X28.here hx rfl (hb hby at_82) rfl (teq (by decide : (5 : Int32) = (5 : Int32))).2 (XS.iconst X28.here hx rfl (hb hby at_85) (XS.goto X28.here hx rfl (pc0 := 86) (pc' := 90) rfl (hb hby at_86) (by decide) (by decide) (XS.istore X28.here hx rfl (hb hby at_90) rfl (l' := #[.val (.int p0), .val (.long p1), .second, .val (.long p2), .second, .val (.long p3), .second, .val (.long p4), .second, .val (.long p5), .second, .val (.int (5 : Int32)), .val (.ref b22), .val (.int (1 : Int32))]) rfl k))))))) ?_
    refine OGo.st (T' := T28) (g' := (mkF m 105 #[.val (.int p0), .val (.long p1), .second, .val (.long p2), .second, .val (.long p3), .second, .val (.long p4), .second, .val (.long p5), .second, .val (.int (5 : Int32)), .val (.ref b22), .val (.int (1 : Int32))] [(.int (0 : Int32)), (.ref b22)])) (fun _ k => (XS.iload X28.here hx rfl (hb hby at_92) rfl (XS.ifNo X28.here hx rfl (hb hby at_94) rfl ((if0 _ _).trans (tlt (by decide : (0 : Int32) < (5 : Int32))).2.2.2) (XS.iload X28.here hx rfl (hb hby at_97) rfl (XS.ifNo X28.here hx rfl (hb hby at_99) rfl ((if0 _ _).trans (feq (by decide : ¬ ((1 : Int32) = (0 : Int32)))).1) (XS.aload X28.here hx rfl (hb hby at_102) rfl rfl (XS.iconst X28.here hx rfl (hb hby at_104) k))))))) ?_
    refine OGo.st (T' := T28) (g' := (mkF m 106 #[.val (.int p0), .val (.long p1), .second, .val (.long p2), .second, .val (.long p3), .second, .val (.long p4), .second, .val (.long p5), .second, .val (.int (5 : Int32)), .val (.ref b22), .val (.int (1 : Int32))] [(.long (0 : Int64))])) (fun _ k => (own_ldJ X28 hx hZ e28 G28x0 (j := (0 : Int32)) (i := 0) ⟨by decide, by decide⟩ (by decide) (g := (mkF m 105 #[.val (.int p0), .val (.long p1), .second, .val (.long p2), .second, .val (.long p3), .second, .val (.long p4), .second, .val (.long p5), .second, .val (.int (5 : Int32)), .val (.ref b22), .val (.int (1 : Int32))] [(.int (0 : Int32)), (.ref b22)])) rfl rfl (hb hby at_105) _ k)) ?_
    refine OGo.st (T' := T28) (g' := (mkF m 118 #[.val (.int p0), .val (.long p1), .second, .val (.long p2), .second, .val (.long p3), .second, .val (.long p4), .second, .val (.long p5), .second, .val (.int (5 : Int32)), .val (.ref b22), .val (.int (1 : Int32))] [])) (fun _ k => (XS.lconst X28.here hx rfl (hb hby at_106) (XS.lcmp X28.here hx rfl (hb hby at_107) rfl (XS.ifNo X28.here hx rfl (hb hby at_108) rfl ((if0 _ _).trans (teq ((lw_eq (0 : Int64) (0 : Int64)).mpr (by decide : (0 : Int64) = (0 : Int64)))).2) (XS.iconst X28.here hx rfl (hb hby at_111) (XS.goto X28.here hx rfl (pc0 := 112) (pc' := 116) rfl (hb hby at_112) (by decide) (by decide) (XS.istore X28.here hx rfl (hb hby at_116) rfl (l' := #[.val (.int p0), .val (.long p1), .second, .val (.long p2), .second, .val (.long p3), .second, .val (.long p4), .second, .val (.long p5), .second, .val (.int (5 : Int32)), .val (.ref b22), .val (.int (1 : Int32))]) rfl k))))))) ?_
    refine OGo.st (T' := T28) (g' := (mkF m 131 #[.val (.int p0), .val (.long p1), .second, .val (.long p2), .second, .val (.long p3), .second, .val (.long p4), .second, .val (.long p5), .second, .val (.int (5 : Int32)), .val (.ref b22), .val (.int (1 : Int32))] [(.ref b22)])) (fun _ k => (XS.iload X28.here hx rfl (hb hby at_118) rfl (XS.iconst X28.here hx rfl (hb hby at_120) (XS.icmpNo X28.here hx rfl (hb hby at_121) rfl (tlt (by decide : (1 : Int32) < (5 : Int32))).2.2.2 (XS.iload X28.here hx rfl (hb hby at_124) rfl (XS.ifNo X28.here hx rfl (hb hby at_126) rfl ((if0 _ _).trans (feq (by decide : ¬ ((1 : Int32) = (0 : Int32)))).1) (XS.aload X28.here hx rfl (hb hby at_129) rfl rfl k))))))) ?_
    refine OGo.st (T' := T28) (g' := (mkF m 132 #[.val (.int p0), .val (.long p1), .second, .val (.long p2), .second, .val (.long p3), .second, .val (.long p4), .second, .val (.long p5), .second, .val (.int (5 : Int32)), .val (.ref b22), .val (.int (1 : Int32))] [(.int (1 : Int32)), (.ref b22)])) (fun _ k => (XS.iconst X28.here hx rfl (hb hby at_131) k)) ?_
    refine OGo.st (T' := T28) (g' := (mkF m 133 #[.val (.int p0), .val (.long p1), .second, .val (.long p2), .second, .val (.long p3), .second, .val (.long p4), .second, .val (.long p5), .second, .val (.int (5 : Int32)), .val (.ref b22), .val (.int (1 : Int32))] [(.long (0 : Int64))])) (fun _ k => (own_ldJ X28 hx hZ e28 G28x0 (j := (1 : Int32)) (i := 1) ⟨by decide, by decide⟩ (by decide) (g := (mkF m 132 #[.val (.int p0), .val (.long p1), .second, .val (.long p2), .second, .val (.long p3), .second, .val (.long p4), .second, .val (.long p5), .second, .val (.int (5 : Int32)), .val (.ref b22), .val (.int (1 : Int32))] [(.int (1 : Int32)), (.ref b22)])) rfl rfl (hb hby at_132) _ k)) ?_
    refine OGo.st (T' := T28) (g' := (mkF m 145 #[.val (.int p0), .val (.long p1), .second, .val (.long p2), .second, .val (.long p3), .second, .val (.long p4), .second, .val (.long p5), .second, .val (.int (5 : Int32)), .val (.ref b22), .val (.int (1 : Int32))] [])) (fun _ k => (XS.lconst X28.here hx rfl (hb hby at_133) (XS.lcmp X28.here hx rfl (hb hby at_134) rfl (XS.ifNo X28.here hx rfl (hb hby at_135) rfl ((if0 _ _).trans (teq ((lw_eq (0 : Int64) (0 : Int64)).mpr (by decide : (0 : Int64) = (0 : Int64)))).2) (XS.iconst X28.here hx rfl (hb hby at_138) (XS.goto X28.here hx rfl (pc0 := 139) (pc' := 143) rfl (hb hby at_139) (by decide) (by decide) (XS.istore X28.here hx rfl (hb hby at_143) rfl (l' := #[.val (.int p0), .val (.long p1), .second, .val (.long p2), .second, .val (.long p3), .second, .val (.long p4), .second, .val (.long p5), .second, .val (.int (5 : Int32)), .val (.ref b22), .val (.int (1 : Int32))]) rfl k))))))) ?_
    refine OGo.st (T' := T28) (g' := (mkF m 158 #[.val (.int p0), .val (.long p1), .second, .val (.long p2), .second, .val (.long p3), .second, .val (.long p4), .second, .val (.long p5), .second, .val (.int (5 : Int32)), .val (.ref b22), .val (.int (1 : Int32))] [(.ref b22)])) (fun _ k => (XS.iload X28.here hx rfl (hb hby at_145) rfl (XS.iconst X28.here hx rfl (hb hby at_147) (XS.icmpNo X28.here hx rfl (hb hby at_148) rfl (tlt (by decide : (2 : Int32) < (5 : Int32))).2.2.2 (XS.iload X28.here hx rfl (hb hby at_151) rfl (XS.ifNo X28.here hx rfl (hb hby at_153) rfl ((if0 _ _).trans (feq (by decide : ¬ ((1 : Int32) = (0 : Int32)))).1) (XS.aload X28.here hx rfl (hb hby at_156) rfl rfl k))))))) ?_
    refine OGo.st (T' := T28) (g' := (mkF m 159 #[.val (.int p0), .val (.long p1), .second, .val (.long p2), .second, .val (.long p3), .second, .val (.long p4), .second, .val (.long p5), .second, .val (.int (5 : Int32)), .val (.ref b22), .val (.int (1 : Int32))] [(.int (2 : Int32)), (.ref b22)])) (fun _ k => (XS.iconst X28.here hx rfl (hb hby at_158) k)) ?_
    refine OGo.st (T' := T28) (g' := (mkF m 160 #[.val (.int p0), .val (.long p1), .second, .val (.long p2), .second, .val (.long p3), .second, .val (.long p4), .second, .val (.long p5), .second, .val (.int (5 : Int32)), .val (.ref b22), .val (.int (1 : Int32))] [(.long (0 : Int64))])) (fun _ k => (own_ldJ X28 hx hZ e28 G28x0 (j := (2 : Int32)) (i := 2) ⟨by decide, by decide⟩ (by decide) (g := (mkF m 159 #[.val (.int p0), .val (.long p1), .second, .val (.long p2), .second, .val (.long p3), .second, .val (.long p4), .second, .val (.long p5), .second, .val (.int (5 : Int32)), .val (.ref b22), .val (.int (1 : Int32))] [(.int (2 : Int32)), (.ref b22)])) rfl rfl (hb hby at_159) _ k)) ?_
    refine OGo.st (T' := T28) (g' := (mkF m 172 #[.val (.int p0), .val (.long p1), .second, .val (.long p2), .second, .val (.long p3), .second, .val (.long p4), .second, .val (.long p5), .second, .val (.int (5 : Int32)), .val (.ref b22), .val (.int (1 : Int32))] [])) (fun _ k => (XS.lconst X28.here hx rfl (hb hby at_160) (XS.lcmp X28.here hx rfl (hb hby at_161) rfl (XS.ifNo X28.here hx rfl (hb hby at_162) rfl ((if0 _ _).trans (teq ((lw_eq (0 : Int64) (0 : Int64)).mpr (by decide : (0 : Int64) = (0 : Int64)))).2) (XS.iconst X28.here hx rfl (hb hby at_165) (XS.goto X28.here hx rfl (pc0 := 166) (pc' := 170) rfl (hb hby at_166) (by decide) (by decide) (XS.istore X28.here hx rfl (hb hby at_170) rfl (l' := #[.val (.int p0), .val (.long p1), .second, .val (.long p2), .second, .val (.long p3), .second, .val (.long p4), .second, .val (.long p5), .second, .val (.int (5 : Int32)), .val (.ref b22), .val (.int (1 : Int32))]) rfl k))))))) ?_
    refine OGo.st (T' := T28) (g' := (mkF m 185 #[.val (.int p0), .val (.long p1), .second, .val (.long p2), .second, .val (.long p3), .second, .val (.long p4), .second, .val (.long p5), .second, .val (.int (5 : Int32)), .val (.ref b22), .val (.int (1 : Int32))] [(.ref b22)])) (fun _ k => (XS.iload X28.here hx rfl (hb hby at_172) rfl (XS.iconst X28.here hx rfl (hb hby at_174) (XS.icmpNo X28.here hx rfl (hb hby at_175) rfl (tlt (by decide : (3 : Int32) < (5 : Int32))).2.2.2 (XS.iload X28.here hx rfl (hb hby at_178) rfl (XS.ifNo X28.here hx rfl (hb hby at_180) rfl ((if0 _ _).trans (feq (by decide : ¬ ((1 : Int32) = (0 : Int32)))).1) (XS.aload X28.here hx rfl (hb hby at_183) rfl rfl k))))))) ?_
    refine OGo.st (T' := T28) (g' := (mkF m 186 #[.val (.int p0), .val (.long p1), .second, .val (.long p2), .second, .val (.long p3), .second, .val (.long p4), .second, .val (.long p5), .second, .val (.int (5 : Int32)), .val (.ref b22), .val (.int (1 : Int32))] [(.int (3 : Int32)), (.ref b22)])) (fun _ k => (XS.iconst X28.here hx rfl (hb hby at_185) k)) ?_
    refine OGo.st (T' := T28) (g' := (mkF m 187 #[.val (.int p0), .val (.long p1), .second, .val (.long p2), .second, .val (.long p3), .second, .val (.long p4), .second, .val (.long p5), .second, .val (.int (5 : Int32)), .val (.ref b22), .val (.int (1 : Int32))] [(.long (0 : Int64))])) (fun _ k => (own_ldJ X28 hx hZ e28 G28x0 (j := (3 : Int32)) (i := 3) ⟨by decide, by decide⟩ (by decide) (g := (mkF m 186 #[.val (.int p0), .val (.long p1), .second, .val (.long p2), .second, .val (.long p3), .second, .val (.long p4), .second, .val (.long p5), .second, .val (.int (5 : Int32)), .val (.ref b22), .val (.int (1 : Int32))] [(.int (3 : Int32)), (.ref b22)])) rfl rfl (hb hby at_186) _ k)) ?_
    refine OGo.st (T' := T28) (g' := (mkF m 199 #[.val (.int p0), .val (.long p1), .second, .val (.long p2), .second, .val (.long p3), .second, .val (.long p4), .second, .val (.long p5), .second, .val (.int (5 : Int32)), .val (.ref b22), .val (.int (1 : Int32))] [])) (fun _ k => (XS.lconst X28.here hx rfl (hb hby at_187) (XS.lcmp X28.here hx rfl (hb hby at_188) rfl (XS.ifNo X28.here hx rfl (hb hby at_189) rfl ((if0 _ _).trans (teq ((lw_eq (0 : Int64) (0 : Int64)).mpr (by decide : (0 : Int64) = (0 : Int64)))).2) (XS.iconst X28.here hx rfl (hb hby at_192) (XS.goto X28.here hx rfl (pc0 := 193) (pc' := 197) rfl (hb hby at_193) (by decide) (by decide) (XS.istore X28.here hx rfl (hb hby at_197) rfl (l' := #[.val (.int p0), .val (.long p1), .second, .val (.long p2), .second, .val (.long p3), .second, .val (.long p4), .second, .val (.long p5), .second, .val (.int (5 : Int32)), .val (.ref b22), .val (.int (1 : Int32))]) rfl k))))))) ?_
    refine OGo.st (T' := T28) (g' := (mkF m 212 #[.val (.int p0), .val (.long p1), .second, .val (.long p2), .second, .val (.long p3), .second, .val (.long p4), .second, .val (.long p5), .second, .val (.int (5 : Int32)), .val (.ref b22), .val (.int (1 : Int32))] [(.ref b22)])) (fun _ k => (XS.iload X28.here hx rfl (hb hby at_199) rfl (XS.iconst X28.here hx rfl (hb hby at_201) (XS.icmpNo X28.here hx rfl (hb hby at_202) rfl (tlt (by decide : (4 : Int32) < (5 : Int32))).2.2.2 (XS.iload X28.here hx rfl (hb hby at_205) rfl (XS.ifNo X28.here hx rfl (hb hby at_207) rfl ((if0 _ _).trans (feq (by decide : ¬ ((1 : Int32) = (0 : Int32)))).1) (XS.aload X28.here hx rfl (hb hby at_210) rfl rfl k))))))) ?_
    refine OGo.st (T' := T28) (g' := (mkF m 213 #[.val (.int p0), .val (.long p1), .second, .val (.long p2), .second, .val (.long p3), .second, .val (.long p4), .second, .val (.long p5), .second, .val (.int (5 : Int32)), .val (.ref b22), .val (.int (1 : Int32))] [(.int (4 : Int32)), (.ref b22)])) (fun _ k => (XS.iconst X28.here hx rfl (hb hby at_212) k)) ?_
    refine OGo.st (T' := T28) (g' := (mkF m 214 #[.val (.int p0), .val (.long p1), .second, .val (.long p2), .second, .val (.long p3), .second, .val (.long p4), .second, .val (.long p5), .second, .val (.int (5 : Int32)), .val (.ref b22), .val (.int (1 : Int32))] [(.long (0 : Int64))])) (fun _ k => (own_ldJ X28 hx hZ e28 G28x0 (j := (4 : Int32)) (i := 4) ⟨by decide, by decide⟩ (by decide) (g := (mkF m 213 #[.val (.int p0), .val (.long p1), .second, .val (.long p2), .second, .val (.long p3), .second, .val (.long p4), .second, .val (.long p5), .second, .val (.int (5 : Int32)), .val (.ref b22), .val (.int (1 : Int32))] [(.int (4 : Int32)), (.ref b22)])) rfl rfl (hb hby at_213) _ k)) ?_
    refine OGo.st (T' := T28) (g' := (mkF m 226 #[.val (.int p0), .val (.long p1), .second, .val (.long p2), .second, .val (.long p3), .second, .val (.long p4), .second, .val (.long p5), .second, .val (.int (5 : Int32)), .val (.ref b22), .val (.int (1 : Int32))] [])) (fun _ k => (XS.lconst X28.here hx rfl (hb hby at_214) (XS.lcmp X28.here hx rfl (hb hby at_215) rfl (XS.ifNo X28.here hx rfl (hb hby at_216) rfl ((if0 _ _).trans (teq ((lw_eq (0 : Int64) (0 : Int64)).mpr (by decide : (0 : Int64) = (0 : Int64)))).2) (XS.iconst X28.here hx rfl (hb hby at_219) (XS.goto X28.here hx rfl (pc0 := 220) (pc' := 224) rfl (hb hby at_220) (by decide) (by decide) (XS.istore X28.here hx rfl (hb hby at_224) rfl (l' := #[.val (.int p0), .val (.long p1), .second, .val (.long p2), .second, .val (.long p3), .second, .val (.long p4), .second, .val (.long p5), .second, .val (.int (5 : Int32)), .val (.ref b22), .val (.int (1 : Int32))]) rfl k))))))) ?_
    refine OGo.st (T' := T28) (g' := (mkF m 228 #[.val (.int p0), .val (.long p1), .second, .val (.long p2), .second, .val (.long p3), .second, .val (.long p4), .second, .val (.long p5), .second, .val (.int (5 : Int32)), .val (.ref b22), .val (.int (1 : Int32))] [(.int (1 : Int32))])) (fun _ k => (XS.iload X28.here hx rfl (hb hby at_226) rfl k)) ?_
    exact OGo.ret X28 hx hlk Bd.returns rfl (own_rI (Or.inr (Or.inl rfl))) (hb hby at_228) (by decide) (by decide) e28 (⟨rfl, N28⟩)
set_option maxRecDepth 65536 in
set_option maxHeartbeats 40000000 in
theorem comes_1 {Post : Tables → Env → Array Value → State → Outcome → State → Prop} (hpost : ∀ tb e args s v u, (limb_1_1.after args s (.returned v) u = true ∧ limb_1_2.after args s (.returned v) u = true ∧ True) → FrameEnd s (.returned v) u (Jvm.fieldLocs frame_1_writes args s ++ Jvm.arrayLocs frame_1_arrays args s ++ Jvm.staticLocs frame_1_statics s) 16 128 → Post tb e args s (.returned v) u) :
    ArmFor flags0 classFile x code maxLocals ret World_1 tables_1 room_1 Calls_1 rest_1 Pre_1 Post := by
  intro l hfl _ _ p e ha hc hk s m args below hf hA hF happ hP
  obtain ⟨hcalls, hrest, hpre⟩ := hP
  obtain ⟨-, -, -, hnamed, -, -, -, hat⟩ := (Spec.applies_iff hf).mp happ
  obtain ⟨hg, hn⟩ := and_e (Cond.before_iff.mp (show (Jvm.Cond.and given_1 narrow_1).before args s = true from hpre))
  obtain ⟨q0, r0⟩ := and_e hg
  obtain ⟨q1, r1⟩ := and_e r0
  obtain ⟨q2, r2⟩ := and_e r1
  obtain ⟨q3, r3⟩ := and_e r2
  obtain ⟨q4, r4⟩ := and_e r3
  obtain ⟨q5, r5⟩ := and_e r4
  obtain ⟨w0, w1, w2, w3, w4, w5, rfl⟩ : ∃ w0 w1 w2 w3 w4 w5 : Value, args = #[w0, w1, w2, w3, w4, w5] := by
    have hs : args.size = 6 := by simpa [Cond.value, given_1] using q0
    obtain ⟨L⟩ := args
    match L, hs with
    | [w0, w1, w2, w3, w4, w5], _ => exact ⟨w0, w1, w2, w3, w4, w5, rfl⟩
  have hw := fun d (hd : d ∈ tables_1) => atoms_spec (ws := Jvm.Cond.code x code maxLocals ret :: tables_1) hat d (List.mem_cons_of_mem _ hd)
  obtain ⟨i0, ei0⟩ := is_v q1
  obtain rfl : w0 = (.int i0) := Option.some.inj ei0
  obtain ⟨i1, ei1⟩ := isL_v q2
  obtain rfl : w1 = (.long i1) := Option.some.inj ei1
  obtain ⟨i2, ei2⟩ := isL_v q3
  obtain rfl : w2 = (.long i2) := Option.some.inj ei2
  obtain ⟨i3, ei3⟩ := isL_v q4
  obtain rfl : w3 = (.long i3) := Option.some.inj ei3
  obtain ⟨i4, ei4⟩ := isL_v q5
  obtain rfl : w4 = (.long i4) := Option.some.inj ei4
  obtain ⟨i5, ei5⟩ := isL_v r5
  obtain rfl : w5 = (.long i5) := Option.some.inj ei5
  obtain ⟨n, o, h1, h2, h3, _, L, rfl, ⟨rfl, N⟩, hq⟩ := rm0 l s _ hw tables_1 i0 i1 i2 i3 i4 i5 s.heap s.heap.size (Nat.le_refl _) p e ha hc hk s m _ below hf ((Spec.applies_iff_loose hf).mp happ).1 ⟨rfl, State.Warmed39.refl s, rfl⟩ trivial
  refine ⟨n, _, h1, h2, h3, hpost _ _ _ _ _ _ ⟨Cond.after_iff.mpr rfl, Cond.after_iff.mpr (eq_i res_at (Term.int_eval (1)) rfl), trivial⟩ ⟨hq.1, hq.2.1, (hq.2.2.sift fun y hy => Or.inr (N y hy)).mono (by decide) (by decide)⟩⟩
theorem main_1_1 : Claimed_1_1 := comes_1 fun _ _ _ _ _ _ h hF => ⟨h.1, hF⟩
theorem main_1_2 : Claimed_1_2 := comes_1 fun _ _ _ _ _ _ h hF => ⟨h.2.1, hF⟩
end Jvm.Pilot.@@N@@
namespace Jvm.Pilot.@@N@@
open Jvm Jvm.ClassFile Sem Op Lib Jvm.Free Jvm.Stand Jvm.Pilot.@@N@@.Jvm.D
/-! MADE BY PROGRAM (witnessworld.py) out of the Statement's table words and the real class files: 11 classes; the members and pool entries that the words name. The judged class is class 1, her method 1. -/
namespace start1
open Jvm.ClassFile
def u (s : String) : CpInfo := .utf8 (stringToUtf16 s)
/-- a pool by its gaps: so many unusable entries, then the entry; so many at the end -/
def gap : Nat → List CpInfo → List CpInfo
  | 0, r => r
  | n + 1, r => .unusable :: gap n r
def poolList (es : List (Nat × CpInfo)) (last : Nat) : List CpInfo := es.foldr (fun e r => gap e.1 (e.2 :: r)) (gap last [])
def pool (es : List (Nat × CpInfo)) (last : Nat) : Array CpInfo := ⟨poolList es last⟩
def fileOf (pool : Array CpInfo) (this : Nat) (attrs : Array Attribute := #[]) (ms : Array MethodInfo := #[]) (fl : Nat := 33) (sup : Nat := 0) (ifs : Array Nat := #[]) (fds : Array FieldInfo := #[]) : ClassFile where
  minorVersion := 0
  majorVersion := 65
  constantPool := pool
  accessFlags := fl
  thisClass := this
  superClass := sup
  interfaces := ifs
  fields := fds
  methods := ms
  attributes := attrs
def plain (name : String) (sup : Option ClassId) : Class where
  name := name
  kind := .ordinary
  loader := none
  accessFlags := 33
  super := sup
  interfaces := #[]
  cf := none
  fields := #[]
  methods := #[]
  instanceTypes := #[]
  staticTypes := #[]
  resolved := #[]
  callSites := []
  init := .initialized
  statics := none
  mirror := none

def pool0 : Array CpInfo := pool [(5, u "<init>"), (0, u "()V"), (1, .class_ 10), (1, u "java/lang/Object")] 113

def k0m0 : Method := { name := "<init>", desc := "()V", sig := { parameters := [], returnType := none }, accessFlags := 1, code := none }
/-- java/lang/Object -/
def k0 : Class := { plain "java/lang/Object" none with
  accessFlags := 33
  interfaces := #[]
  cf := some (fileOf pool0 8 #[] #[{ accessFlags := 1, nameIndex := 5, descriptorIndex := 6, attributes := #[] }] 33 0 #[] #[])
  fields := #[]
  methods := #[k0m0]
  instanceTypes := #[]
  staticTypes := #[]
  resolved := Array.replicate 124 none
  statics := none }

def pool1 : Array CpInfo := pool [(2, .class_ 4), (1, u "java/lang/Object"), (0, u "<init>"), (0, u "()V"), (0, .integer 2147483647), (0, .methodref 9 10), (0, .class_ 11), (0, .nameAndType 12 13), (0, u "com/example/unify_to_cover/unifytocover/search/ValueSets"), (0, u "clear"), (0, u "([J)V"), (0, .class_ 15), (0, u "com/example/unify_to_cover/unifytocover/search/ValueSetsClearPinLaw"), (2, u "law"), (0, u "(IJJJJJ)Z")] 5

def k1m0 : Method := { name := "<init>", desc := "()V", sig := { parameters := [], returnType := none }, accessFlags := 1, code := none }
def k1c1 : Code := { maxStack := 4, maxLocals := 14, code := code, exceptionTable := #[], attributes := #[] }
def k1m1 : Method := { name := "law", desc := "(IJJJJJ)Z", sig := { parameters := [.int, .long, .long, .long, .long, .long], returnType := some .boolean }, accessFlags := 9, code := some k1c1 }
/-- com/example/unify_to_cover/unifytocover/search/ValueSetsClearPinLaw -/
def k1 : Class := { plain "com/example/unify_to_cover/unifytocover/search/ValueSetsClearPinLaw" (some 0) with
  accessFlags := 49
  interfaces := #[]
  cf := some (fileOf pool1 14 #[] #[{ accessFlags := 1, nameIndex := 5, descriptorIndex := 6, attributes := #[] }, { accessFlags := 9, nameIndex := 18, descriptorIndex := 19, attributes := #[] }] 49 2 #[] #[])
  fields := #[]
  methods := #[k1m0, k1m1]
  instanceTypes := #[]
  staticTypes := #[]
  resolved := Array.replicate 25 none
  statics := none }

def pool2 : Array CpInfo := pool [(2, .class_ 4), (1, u "java/lang/Object"), (0, u "<init>"), (0, u "()V"), (2, .class_ 10), (0, u "com/example/unify_to_cover/unifytocover/search/ValueSets"), (19, u "WORD_SHIFT"), (0, u "I"), (26, u "clear"), (0, u "([J)V")] 4

def k2m0 : Method := { name := "<init>", desc := "()V", sig := { parameters := [], returnType := none }, accessFlags := 2, code := none }
def k2c1 : Code := { maxStack := 4, maxLocals := 2, code := prog_71_method_14_code, exceptionTable := #[], attributes := #[] }
def k2m1 : Method := { name := "clear", desc := "([J)V", sig := { parameters := [(.array .long)], returnType := none }, accessFlags := 8, code := some k2c1 }
/-- com/example/unify_to_cover/unifytocover/search/ValueSets -/
def k2 : Class := { plain "com/example/unify_to_cover/unifytocover/search/ValueSets" (some 0) with
  accessFlags := 48
  interfaces := #[]
  cf := some (fileOf pool2 9 #[] #[{ accessFlags := 2, nameIndex := 5, descriptorIndex := 6, attributes := #[] }, { accessFlags := 8, nameIndex := 58, descriptorIndex := 59, attributes := #[] }] 48 2 #[] #[{ accessFlags := 26, nameIndex := 30, descriptorIndex := 31, attributes := #[] }])
  fields := #[{ name := "WORD_SHIFT", type := .int, accessFlags := 26, slot := 0, constantValue := 0 }]
  methods := #[k2m0, k2m1]
  instanceTypes := #[]
  staticTypes := #[.int]
  resolved := Array.replicate 64 none
  statics := none }

def pool3 : Array CpInfo := pool [(1, u "java/lang/Cloneable"), (0, .class_ 1), (0, u "java/lang/Object"), (0, .class_ 3)] 3

/-- java/lang/Cloneable -/
def k3 : Class := { plain "java/lang/Cloneable" (some 0) with
  accessFlags := 1537
  interfaces := #[]
  cf := some (fileOf pool3 2 #[] #[] 1537 4 #[] #[])
  fields := #[]
  methods := #[]
  instanceTypes := #[]
  staticTypes := #[]
  resolved := Array.replicate 8 none
  statics := none }

def pool4 : Array CpInfo := pool [(1, u "java/io/Serializable"), (0, .class_ 1), (0, u "java/lang/Object"), (0, .class_ 3)] 3

/-- java/io/Serializable -/
def k4 : Class := { plain "java/io/Serializable" (some 0) with
  accessFlags := 1537
  interfaces := #[]
  cf := some (fileOf pool4 2 #[] #[] 1537 4 #[] #[])
  fields := #[]
  methods := #[]
  instanceTypes := #[]
  staticTypes := #[]
  resolved := Array.replicate 8 none
  statics := none }

/-- the primitive byte -/
def k5 : Class := { plain "byte" none with kind := .primitive 'B', accessFlags := 0x411 }
/-- [B -/
def k6 : Class := { plain "[B" (some 0) with kind := .array 5 .byte, interfaces := #[3, 4], accessFlags := 1041 }

/-- the primitive int -/
def k7 : Class := { plain "int" none with kind := .primitive 'I', accessFlags := 0x411 }
/-- [I -/
def k8 : Class := { plain "[I" (some 0) with kind := .array 7 .int, interfaces := #[3, 4], accessFlags := 1041 }

/-- the primitive long -/
def k9 : Class := { plain "long" none with kind := .primitive 'J', accessFlags := 0x411 }
/-- [J -/
def k10 : Class := { plain "[J" (some 0) with kind := .array 9 .long, interfaces := #[3, 4], accessFlags := 1041 }

def heap : Heap := #[]
def classes : Array Class := #[k0, k1, k2, k3, k4, k5, k6, k7, k8, k9, k10]
def interned : List (Array UInt16 × Addr) := []
def slotsUsed : Nat := 0
def theMethod : MethodId := ⟨1, 1⟩
def args0 : Array Value := #[.int 5, .long 0, .long 1, .long 2, .long 3, .long 4]
def aboutOver (below : List Frame) : State where
  vm := { classes := classes, interned := interned.toArray }
  heap := heap
  slotsUsed := slotsUsed
  threads := #[{ frames := .invoking theMethod args0 :: below }]
def below0 : List Frame := [.native { method := ⟨0, 0⟩, args := #[] }]
def about1 : State := aboutOver below0
def p0 : Program := .bare "" "" ""
def e0 : Env := launch0.env 0 0 0
theorem w_frames : about1.frames = Frame.invoking theMethod args0 :: below0 := rfl
set_option maxRecDepth 65536 in
theorem w_args : argsFit about1.vm theMethod args0 = true := by decide +kernel
set_option maxRecDepth 65536 in
theorem w_heap : heapFits about1 = true := by decide +kernel
set_option maxRecDepth 65536 in
theorem w_runnable : about1.curStatus? = some .runnable := by decide +kernel
set_option maxRecDepth 65536 in
theorem w_alone : about1.alone = true := by decide +kernel
set_option maxRecDepth 65536 in
theorem w_named : about1.methodNamed? x = some theMethod := by decide +kernel
set_option maxRecDepth 65536 in
theorem w_hears : about1.hears theMethod below0 = true := by decide +kernel
set_option maxRecDepth 65536 in
theorem w_ripe : about1.ripe theMethod args0 below0 = true := by decide +kernel
theorem w_running : about1.status = .running := rfl
set_option maxRecDepth 65536 in
theorem w_room : about1.hasRoom e0.platform room_1 = true :=
  launch0.hasRoom_least _ room_1 (by decide +kernel) (by decide +kernel) (by decide +kernel) (by decide +kernel) (by decide +kernel) (by decide +kernel)
theorem allAtoms_all (ts : List Jvm.Cond) (a : Array Jvm.Value) (st : Jvm.State) : (allAtoms ts).before a st = ts.all (fun c => c.before a st) := by
  induction ts with
  | nil => rfl
  | cons c t ih =>
    show (Jvm.Cond.and c (allAtoms t)).before a st = _
    rw [Jvm.Cond.before_and, ih, List.all_cons]
def words1 : List Jvm.Cond := Jvm.Cond.code x code maxLocals ret :: tables_1
/-- a 'code' word, met by the world's own term for the bytes: nothing is compared byte by byte -/
theorem code_word {y : MethodName} {bytes : ByteArray} {mx : Nat} {rt : Option FieldType} {a : Array Value} {s : State} {m : MethodId} {meth : Method} {c : Code} (h1 : s.methodNamed? y = some m) (h2 : s.vm.method? m = some meth) (h3 : meth.code = some c) (h4 : c.code = bytes)
    (h5 : (c.maxLocals == mx && c.exceptionTable.isEmpty && decide (c.maxStack ≤ mostOperands) && decide (meth.sig.returnType = rt) && !meth.locks && decide (parseMethodDescriptor y.desc = some meth.sig)) = true) : (Jvm.Cond.code y bytes mx rt).before a s = true := by
  simp only [Bool.and_eq_true, beq_iff_eq, Bool.not_eq_true', decide_eq_true_eq] at h5
  obtain ⟨⟨⟨⟨⟨g1, g2⟩, g3⟩, g4⟩, g5⟩, g6⟩ := h5
  simp [Cond.before, Cond.holds, Cond.value, h1, h2, h3, h4, g1, g2, g3, g4, g5, g6]
def isCode : Jvm.Cond → Bool
  | .code _ _ _ _ => true
  | _ => false
theorem all_split {L : List Jvm.Cond} {P : Jvm.Cond → Bool} (h1 : L.all (fun c => isCode c || P c) = true) (h2 : ∀ c ∈ L.filter isCode, P c = true) : L.all P = true := by
  refine List.all_eq_true.mpr fun c hc => ?_
  have h := List.all_eq_true.mp h1 c hc
  rcases Bool.eq_false_or_eq_true (isCode c) with hi | hi
  · exact h2 c (List.mem_filter.mpr ⟨hc, hi⟩)
  · simpa [hi] using h
set_option maxRecDepth 65536 in
theorem w_c0 : (Jvm.Cond.code x code maxLocals ret).before args0 about1 = true := code_word (m := ⟨1, 1⟩) (meth := k1m1) (c := k1c1) (by decide +kernel) rfl rfl rfl (by decide +kernel)
set_option maxRecDepth 65536 in
theorem w_c1 : (Jvm.Cond.code ({ cls := "com/example/unify_to_cover/unifytocover/search/ValueSets", name := "clear", desc := "([J)V" } : Jvm.MethodName) prog_71_method_14_code (2 : Nat) (Option.none : Option Jvm.ClassFile.FieldType)).before args0 about1 = true := code_word (m := ⟨2, 1⟩) (meth := k2m1) (c := k2c1) (by decide +kernel) rfl rfl rfl (by decide +kernel)
def codes1 : List Jvm.Cond := [Jvm.Cond.code x code maxLocals ret, Jvm.Cond.code ({ cls := "com/example/unify_to_cover/unifytocover/search/ValueSets", name := "clear", desc := "([J)V" } : Jvm.MethodName) prog_71_method_14_code (2 : Nat) (Option.none : Option Jvm.ClassFile.FieldType)]
set_option maxRecDepth 65536 in
theorem codes_eq : words1.filter isCode = codes1 := rfl
theorem w_codes : ∀ c ∈ words1.filter isCode, c.before args0 about1 = true := by
  rw [codes_eq]
  intro c hc
  simp only [codes1, List.mem_cons, List.not_mem_nil, or_false] at hc
  rcases hc with rfl | rfl
  · exact w_c0
  · exact w_c1
set_option maxRecDepth 65536 in
theorem w_t1 : words1.all (fun c => isCode c || c.before args0 about1) = true := by decide +kernel
theorem w_tables : (allAtoms (Jvm.Cond.code x code maxLocals ret :: tables_1)).before args0 about1 = true := by
  rw [allAtoms_all]
  show words1.all (fun c => c.before args0 about1) = true
  refine all_split ?_ w_codes
  rw [w_t1]
set_option maxRecDepth 65536 in
theorem w_case : (Jvm.Cond.and given_1 narrow_1).before args0 about1 = true := by decide +kernel
theorem w_applies : (headSpec (Jvm.Cond.code x code maxLocals ret :: tables_1) room_1).applies x e0.platform about1 = true :=
  (Spec.applies_iff w_frames).mpr ⟨w_running, w_runnable, w_alone, w_named, w_hears, w_ripe, w_room, w_tables⟩
theorem atStart : AtStart classFile x code maxLocals ret World_1 tables_1 room_1 Calls_1 rest_1 Pre_1 launch0 p0 e0 about1 theMethod args0 below0 :=
  ⟨lists_1, trivial, launch0.admits_env _ _ _, launch0.least_env, fairChoices_fair.cas, fairChoices_fair.clock, w_frames, w_args, w_heap, w_applies, trivial, trivial, w_case⟩
end start1
theorem witness_1 : WitnessClaimed_1 := ⟨start1.p0, start1.e0, start1.about1, start1.theMethod, start1.args0, start1.below0, start1.atStart⟩
end Jvm.Pilot.@@N@@

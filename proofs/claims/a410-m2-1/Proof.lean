import JvmDerived
import JvmDerived.Pilot.@@N@@Statement
import JvmDerived.Pilot.@@N@@Code
set_option linter.unusedVariables false
set_option linter.unusedSimpArgs false
namespace Jvm.Pilot.@@N@@
open Jvm Jvm.ClassFile Sem Op Lib Jvm.Free Jvm.Stand Jvm.LawKit Jvm.RoadKit Bundle Jvm.Pilot.@@N@@.Jvm.D
/-! ### own: what is left of a body's walk, as one word; each step goes back over it -/
def OGo (p : Program) (e : Env) (below : List Frame) (s : State) (Q : Option Value → Heap → List Loc → Prop) (C S : Nat) (T : State) (g : JFrame) : Prop :=
  ∃ s₂ o, Steps p.tables e below (T.setTop g) s₂ ∧ s₂.status = .running ∧ Ended s₂ below o ∧ ∃ v L, o = .returned v ∧ Q v s₂.heap L ∧ FrameEnd s o s₂ L C S
section Own
variable {p : Program} {l : Launch} {e : Env} {R : Room} {s s₁ : State} {m : MethodId} {args : Array Value} {below : List Frame} {meth : Method} {c : Code} {T T' : State} {locs : List Loc} {cells slots : Nat} {g g' : JFrame} {Q : Option Value → Heap → List Loc → Prop} {C S : Nat} {Z : State} {a0 : Array Value} {h h' : Heap}
theorem OGo.st (k : ∀ t, Steps p.tables e below (T'.setTop g') t → Steps p.tables e below (T.setTop g) t) (q : OGo p e below s Q C S T' g') : OGo p e below s Q C S T g := by
  obtain ⟨s₂, o, h1, h2⟩ := q
  exact ⟨s₂, o, k _ h1, h2⟩
theorem OGo.en {ml : Nat} (q : entryFrame m args ml = g) (k : OGo p e below s Q C S s₁ g) : ∃ s₂ o, Steps p.tables e below (s₁.setTop (entryFrame m args ml)) s₂ ∧ s₂.status = .running ∧ Ended s₂ below o ∧ ∃ v L, o = .returned v ∧ Q v s₂.heap L ∧ FrameEnd s o s₂ L C S := by
  rw [q]; exact k
theorem OGo.ret (X : Stand p l e R s m args below meth c T locs cells slots) (hx : p.tables.exec = Jvm.exec) (hlk : meth.locks = false) {pc : Nat} {Ls : Array Slot} {w : Value} {t : FieldType} {i : Instr} {rest : List Value} (hret : meth.sig.returnType = some t) (hn : narrow t w = w)
    (hi : (i = .ireturn ∧ (t = .int ∨ t = .boolean ∨ t = .byte ∨ t = .char ∨ t = .short) ∧ ∃ z, w = .int z) ∨ (i = .lreturn ∧ t = .long ∧ ∃ z, w = .long z) ∨ (i = .dreturn ∧ t = .double ∧ ∃ z, w = .double z) ∨ (i = .freturn ∧ t = .float ∧ ∃ z, w = .float z) ∨ (i = .areturn ∧ t.isReference = true ∧ w.isRef = true))
    (hd : decode c.code pc = .ok (i, 1)) (hC : cells ≤ C) (hS : slots ≤ S) (hh : T.heap = h) (hQ : Q (some w) h locs) : OGo p e below s Q C S T (mkF m pc Ls (w :: rest)) := by
  obtain ⟨fs, hr, hrun, hended, hW, hsame⟩ := X.leave (v := some w) (fun q => by rw [hret] at q; cases q) hlk
  subst hh
  exact ⟨_, _, retOut X hx hret hn hi hd hr, hrun, hended, _, _, rfl, hQ, ⟨_, rfl⟩, hW, hsame.mono hC hS⟩
theorem OGo.retV (X : Stand p l e R s m args below meth c T locs cells slots) (hx : p.tables.exec = Jvm.exec) (hlk : meth.locks = false) {pc : Nat} {Ls : Array Slot} (hret : meth.sig.returnType = none)
    (hd : decode c.code pc = .ok (.return_, 1)) (hC : cells ≤ C) (hS : slots ≤ S) (hh : T.heap = h) (hQ : Q none h locs) : OGo p e below s Q C S T (mkF m pc Ls []) := by
  obtain ⟨fs, hr, hrun, hended, hW, hsame⟩ := X.leave (v := none) (fun _ => rfl) hlk
  subst hh
  exact ⟨_, _, X.returnOut hx hret hd hr, hrun, hended, _, _, rfl, hQ, ⟨_, rfl⟩, hW, hsame.mono hC hS⟩
theorem own_rI {t : FieldType} {z : Int32} (ht : t = .int ∨ t = .boolean ∨ t = .byte ∨ t = .char ∨ t = .short) : ((Instr.ireturn = .ireturn ∧ (t = .int ∨ t = .boolean ∨ t = .byte ∨ t = .char ∨ t = .short) ∧ ∃ z', Value.int z = .int z') ∨ (Instr.ireturn = .lreturn ∧ t = .long ∧ ∃ z', Value.int z = .long z') ∨ (Instr.ireturn = .dreturn ∧ t = .double ∧ ∃ z', Value.int z = .double z') ∨ (Instr.ireturn = .freturn ∧ t = .float ∧ ∃ z', Value.int z = .float z') ∨ (Instr.ireturn = .areturn ∧ t.isReference = true ∧ (Value.int z).isRef = true)) := Or.inl ⟨rfl, ht, z, rfl⟩
theorem own_rJ {z : Int64} : ((Instr.lreturn = .ireturn ∧ (FieldType.long = .int ∨ FieldType.long = .boolean ∨ FieldType.long = .byte ∨ FieldType.long = .char ∨ FieldType.long = .short) ∧ ∃ z', Value.long z = .int z') ∨ (Instr.lreturn = .lreturn ∧ FieldType.long = .long ∧ ∃ z', Value.long z = .long z') ∨ (Instr.lreturn = .dreturn ∧ FieldType.long = .double ∧ ∃ z', Value.long z = .double z') ∨ (Instr.lreturn = .freturn ∧ FieldType.long = .float ∧ ∃ z', Value.long z = .float z') ∨ (Instr.lreturn = .areturn ∧ FieldType.long.isReference = true ∧ (Value.long z).isRef = true)) := Or.inr (Or.inl ⟨rfl, rfl, z, rfl⟩)
theorem own_rR {t : FieldType} {w : Value} (ht : t.isReference = true) (hw : w.isRef = true) : ((Instr.areturn = .ireturn ∧ (t = .int ∨ t = .boolean ∨ t = .byte ∨ t = .char ∨ t = .short) ∧ ∃ z', w = .int z') ∨ (Instr.areturn = .lreturn ∧ t = .long ∧ ∃ z', w = .long z') ∨ (Instr.areturn = .dreturn ∧ t = .double ∧ ∃ z', w = .double z') ∨ (Instr.areturn = .freturn ∧ t = .float ∧ ∃ z', w = .float z') ∨ (Instr.areturn = .areturn ∧ t.isReference = true ∧ w.isRef = true)) := Or.inr (Or.inr (Or.inr (Or.inr ⟨rfl, ht, hw⟩)))
/-! own: an array by its length and a function of the places -/
def own_ix (j : Int32) (i : Nat) : Prop := ¬ j < 0 ∧ j.toNatClampNeg = i
theorem own_ix_of {i : Nat} (hi : i < 2 ^ 31) : own_ix (Int32.ofNat i) i := by
  have q : (Int32.ofNat i).toInt = i := Int32.toInt_ofNat_of_lt hi
  refine ⟨fun w => ?_, ?_⟩
  · rw [Int32.lt_iff_toInt_lt, q, show (0 : Int32).toInt = 0 from rfl] at w; omega
  · rw [Int32.toNatClampNeg, q]; rfl
theorem own_len32 {n : Nat} : n.toInt32 = Int32.ofNat n := rfl
def own_upd {α : Type} (f : Nat → α) (i : Nat) (v : α) (j : Nat) : α := if j = i then v else f j
def own_L {α : Type} (d : α) (l : List α) (j : Nat) : α := l.getD j d
theorem own_L_set {α : Type} (d : α) (l : List α) (i : Nat) (v : α) (hi : i < l.length) (j : Nat) : own_upd (own_L d l) i v j = own_L d (l.set i v) j := by
  unfold own_upd own_L
  by_cases q : j = i
  · subst q; simp [List.getD_eq_getElem?_getD, hi]
  · simp [List.getD_eq_getElem?_getD, q, List.getElem?_set, Ne.symm q]
theorem own_L_rep {α : Type} (d : α) (n : Nat) (j : Nat) : d = own_L d (List.replicate n d) j := by
  unfold own_L
  rw [List.getD_eq_getElem?_getD, List.getElem?_replicate]
  split <;> rfl
theorem own_updI (f : Nat → Int32) (i : Nat) (x : Int32) (j : Nat) : own_upd (fun j => Value.int (f j)) i (.int x) j = Value.int (own_upd f i x j) := by unfold own_upd; split <;> rfl
theorem own_updJ (f : Nat → Int64) (i : Nat) (x : Int64) (j : Nat) : own_upd (fun j => Value.long (f j)) i (.long x) j = Value.long (own_upd f i x j) := by unfold own_upd; split <;> rfl
def OArr (Z : State) (h : Heap) (a : Addr) (ty : FieldType) (n : Nat) (f : Nat → Value) : Prop := ∃ cl : Cell, Arr Z h a cl ty ∧ cl.slots.size = n ∧ n < 2 ^ 31 ∧ ∀ j, j < n → cl.slots[j]? = some (f j)
variable {a b : Addr} {ty : FieldType} {n : Nat} {f f' : Nat → Value} {sl : Nat} {v : Value} {ws : List Addr}
theorem OArr.lt (F : OArr Z h a ty n f) : a < h.size := by obtain ⟨cl, A, -⟩ := F; exact A.lt
theorem OArr.ext (F : OArr Z h a ty n f) (E : Ext h h') : OArr Z h' a ty n f := by obtain ⟨cl, A, r⟩ := F; exact ⟨cl, A.ext E, r⟩
theorem OArr.other (F : OArr Z h a ty n f) (W : Wr h h' b sl v) (q : a ≠ b) : OArr Z h' a ty n f := by obtain ⟨cl, A, r⟩ := F; exact ⟨cl, A.other W q, r⟩
theorem OArr.keep (F : OArr Z h a ty n f) (K : Keep h h' ws) (q : a ∉ ws) : OArr Z h' a ty n f := by obtain ⟨cl, A, r⟩ := F; exact ⟨cl, ⟨K.2.1 a cl A.1 q, A.2⟩, r⟩
theorem OArr.cast (F : OArr Z h a ty n f) (q : ∀ j, j < n → f j = f' j) : OArr Z h a ty n f' := by obtain ⟨cl, A, r1, r2, r3⟩ := F; exact ⟨cl, A, r1, r2, fun j hj => by rw [r3 j hj, q j hj]⟩
theorem own_in {cl : Cell} {j : Int32} {i : Nat} (hs : cl.slots.size = n) (hj : own_ix j i) (hi : i < n) : ¬ (j < 0 ∨ cl.slots.size ≤ j.toNatClampNeg) := by
  rw [hs, hj.2]; exact fun q => q.elim hj.1 (fun q => absurd hi (Nat.not_lt.mpr q))
theorem OArr.wr (F : OArr Z h a ty n f) {j : Int32} {i : Nat} (hj : own_ix j i) (W : Wr h h' a j.toNatClampNeg v) : OArr Z h' a ty n (own_upd f i v) := by
  obtain ⟨cl, A, r1, r2, r3⟩ := F
  refine ⟨_, A.same W, by rw [sz_set, r1], r2, fun k hk => ?_⟩
  show (cl.slots.setIfInBounds _ v)[k]? = _
  rw [hj.2]
  unfold own_upd
  by_cases q : k = i
  · subst q; rw [if_pos rfl, Array.getElem?_setIfInBounds_self_of_lt (by omega)]
  · rw [if_neg q, Array.getElem?_setIfInBounds_ne (Ne.symm q)]; exact r3 k hk
theorem own_len (X : Stand p l e R s m args below meth c T locs cells slots) (hx : p.tables.exec = Jvm.exec) (hZ : Z.Warmed39 s.vm) (eT : T.heap = h) (F : OArr Z h a ty n f) (hg : g.method = m) {rest : List Value} (hs : g.stack = .ref a :: rest) (hd : decode c.code g.pc = .ok (.arraylength, 1)) :
    ∀ t, Steps p.tables e below (T.setTop { g with pc := g.pc + 1, stack := .int (Int32.ofNat n) :: rest }) t → Steps p.tables e below (T.setTop g) t := by
  obtain ⟨cl, A, r1, r2, r3⟩ := F
  subst r1
  exact X.arraylength hx (by rw [eT]; exact A.1) (State.isArrayOf_alike hZ.alike A.2.1) hg hs hd
theorem own_ldI (X : Stand p l e R s m args below meth c T locs cells slots) (hx : p.tables.exec = Jvm.exec) (hZ : Z.Warmed39 s.vm) (eT : T.heap = h) (F : OArr Z h a .int n f) {j : Int32} {i : Nat} (hj : own_ix j i) (hi : i < n) (hg : g.method = m) {rest : List Value} (hs : g.stack = .int j :: .ref a :: rest) (hd : decode c.code g.pc = .ok (.iaload, 1)) :
    ∀ t, Steps p.tables e below (T.setTop { g with pc := g.pc + 1, stack := f i :: rest }) t → Steps p.tables e below (T.setTop g) t := by
  obtain ⟨cl, A, r1, r2, r3⟩ := F
  exact X.iaload hx (by rw [eT]; exact A.1) (State.isArrayOf_alike hZ.alike A.2.1) A.2.2 (own_in r1 hj hi) (by rw [hj.2]; exact r3 i hi) hg hs hd
theorem own_ldJ (X : Stand p l e R s m args below meth c T locs cells slots) (hx : p.tables.exec = Jvm.exec) (hZ : Z.Warmed39 s.vm) (eT : T.heap = h) (F : OArr Z h a .long n f) {j : Int32} {i : Nat} (hj : own_ix j i) (hi : i < n) (hg : g.method = m) {rest : List Value} (hs : g.stack = .int j :: .ref a :: rest) (hd : decode c.code g.pc = .ok (.laload, 1)) :
    ∀ t, Steps p.tables e below (T.setTop { g with pc := g.pc + 1, stack := f i :: rest }) t → Steps p.tables e below (T.setTop g) t := by
  obtain ⟨cl, A, r1, r2, r3⟩ := F
  exact X.laload hx (by rw [eT]; exact A.1) (State.isArrayOf_alike hZ.alike A.2.1) A.2.2 (own_in r1 hj hi) (by rw [hj.2]; exact r3 i hi) hg hs hd
theorem own_ldB (X : Stand p l e R s m args below meth c T locs cells slots) (hx : p.tables.exec = Jvm.exec) (hZ : Z.Warmed39 s.vm) (eT : T.heap = h) (F : OArr Z h a .byte n f) {j : Int32} {i : Nat} (hj : own_ix j i) (hi : i < n) (hg : g.method = m) {rest : List Value} (hs : g.stack = .int j :: .ref a :: rest) (hd : decode c.code g.pc = .ok (.baload, 1)) :
    ∀ t, Steps p.tables e below (T.setTop { g with pc := g.pc + 1, stack := f i :: rest }) t → Steps p.tables e below (T.setTop g) t := by
  obtain ⟨cl, A, r1, r2, r3⟩ := F
  exact X.baloadBytes hx (by rw [eT]; exact A.1) (State.isArrayOf_alike hZ.alike A.2.1) A.2.2 (own_in r1 hj hi) (by rw [hj.2]; exact r3 i hi) hg hs hd
theorem own_stI (X : Stand p l e R s m args below meth c T locs cells slots) (hx : p.tables.exec = Jvm.exec) (hZ : Z.Warmed39 s.vm) (eT : T.heap = h) (F : OArr Z h a .int n f) {j x : Int32} {i : Nat} (hj : own_ix j i) (hi : i < n) (hg : g.method = m) {rest : List Value} (hs : g.stack = .int x :: .int j :: .ref a :: rest) (hd : decode c.code g.pc = .ok (.iastore, 1)) :
    ∃ T' h', Stand p l e R s m args below meth c T' (locs ++ [⟨a, j.toNatClampNeg⟩]) cells slots ∧ T'.heap = h' ∧ Wr h h' a j.toNatClampNeg (.int x) ∧ OArr Z h' a .int n (own_upd f i (.int x)) ∧ ∀ t, Steps p.tables e below (T'.setTop { g with pc := g.pc + 1, stack := rest }) t → Steps p.tables e below (T.setTop g) t := by
  obtain ⟨cl, A, r1, r2, r3⟩ := id F
  obtain ⟨T', h', X', e', W, st⟩ := stI X hx hZ eT A (own_in r1 hj hi) hg hs hd
  exact ⟨T', h', X', e', W, F.wr hj W, st⟩
theorem own_stJ (X : Stand p l e R s m args below meth c T locs cells slots) (hx : p.tables.exec = Jvm.exec) (hZ : Z.Warmed39 s.vm) (eT : T.heap = h) (F : OArr Z h a .long n f) {j : Int32} {x : Int64} {i : Nat} (hj : own_ix j i) (hi : i < n) (hg : g.method = m) {rest : List Value} (hs : g.stack = .long x :: .int j :: .ref a :: rest) (hd : decode c.code g.pc = .ok (.lastore, 1)) :
    ∃ T' h', Stand p l e R s m args below meth c T' (locs ++ [⟨a, j.toNatClampNeg⟩]) cells slots ∧ T'.heap = h' ∧ Wr h h' a j.toNatClampNeg (.long x) ∧ OArr Z h' a .long n (own_upd f i (.long x)) ∧ ∀ t, Steps p.tables e below (T'.setTop { g with pc := g.pc + 1, stack := rest }) t → Steps p.tables e below (T.setTop g) t := by
  obtain ⟨cl, A, r1, r2, r3⟩ := id F
  obtain ⟨T', h', X', e', W, st⟩ := stJ X hx hZ eT A (own_in r1 hj hi) hg hs hd
  exact ⟨T', h', X', e', W, F.wr hj W, st⟩
theorem own_newA (X : Stand p l e R s m args below meth c T locs cells slots) (hx : p.tables.exec = Jvm.exec) (hZ : Z.Warmed39 s.vm) {aty : ArrayType} (w : (Cond.arrayClass (newarray.typeOf aty)).before a0 Z = true) (eT : T.heap = h) (hg : g.method = m) (hd : decode c.code g.pc = .ok (.newarray aty, 2)) {z : Int32} {rest : List Value} (hs : g.stack = .int z :: rest)
    (hj : own_ix z n) {cap : Nat} (hcap : n ≤ cap) (hb : cap * 8 ≤ 536870912) (hc : cells + 1 ≤ R.cells) (hl : slots + cap ≤ R.slots) :
    ∃ T' h' b, b = h.size ∧ Stand p l e R s m args below meth c T' locs (cells + 1) (slots + cap) ∧ T'.heap = h' ∧ Ext h h' ∧ OArr Z h' b (newarray.typeOf aty) n (fun _ => defaultValue (newarray.typeOf aty)) ∧
      ∀ t, Steps p.tables e below (T'.setTop { g with pc := g.pc + 2, stack := .ref b :: rest }) t → Steps p.tables e below (T.setTop g) t := by
  obtain ⟨T', h', cA, X', e', E, A, st⟩ := newP X hx hZ w eT hg hd hs hj.1 (cap := cap) (by rw [hj.2]; exact hcap) hb hc hl
  have q := back32 hj.1
  rw [hj.2] at q
  refine ⟨T', h', _, rfl, X', e', E, ⟨_, A, (sz_new _ _ _).trans hj.2, q.2, fun k hk => ?_⟩, st⟩
  show (Array.replicate z.toNatClampNeg (defaultValue (newarray.typeOf aty)))[k]? = _
  rw [hj.2, Array.getElem?_replicate, if_pos hk]
theorem own_keepL {x : Addr} {L : List Addr} (K : Keep h h' L) (q : x ∉ L) {cl : Cell} (hc : h[x]? = some cl) : h'[x]? = some cl := K.2.1 x cl hc q
theorem own_pop2L {tb : Tables} [Ours tb] {target : State} (h : At T m c below) (hx : tb.exec = Jvm.exec) (hg : g.method = m) {x : Int64} {rest : List Value} (hd : decode c.code g.pc = .ok (.pop2, 1)) (hs : g.stack = .long x :: rest)
    (hr : Steps tb e below (T.setTop { g with pc := g.pc + 1, stack := rest }) target) : Steps tb e below (T.setTop g) target := by
  subst hg
  jvm_step h [h.top, hx, hd, hs, Value.category]
  exact hr
end Own
theorem own_d_prog_71_method_13_0 : decode prog_71_method_13_code 0 = .ok (.aload_n 0, 1) := by decide +kernel
theorem own_d_prog_71_method_13_1 : decode prog_71_method_13_code 1 = .ok (.arraylength, 1) := by decide +kernel
theorem own_d_prog_71_method_13_2 : decode prog_71_method_13_code 2 = .ok (.iconst 2, 1) := by decide +kernel
theorem own_d_prog_71_method_13_3 : decode prog_71_method_13_code 3 = .ok (.if_icmp .lt 38, 3) := by decide +kernel
theorem own_d_prog_71_method_13_41 : decode prog_71_method_13_code 41 = .ok (.aload_n 0, 1) := by decide +kernel
theorem own_d_prog_71_method_13_42 : decode prog_71_method_13_code 42 = .ok (.arraylength, 1) := by decide +kernel
theorem own_d_prog_71_method_13_43 : decode prog_71_method_13_code 43 = .ok (.iconst 1, 1) := by decide +kernel
theorem own_d_prog_71_method_13_44 : decode prog_71_method_13_code 44 = .ok (.if_icmp .ne 9, 3) := by decide +kernel
theorem own_d_prog_71_method_13_53 : decode prog_71_method_13_code 53 = .ok (.return_, 1) := by decide +kernel
theorem own_pn0 : plainName "com/example/unify_to_cover/unifytocover/search/ValueSets" = true := by first | (simp [plainName, overriddenIn]; done) | decide +kernel
theorem own_d_prog_71_method_13_47 : decode prog_71_method_13_code 47 = .ok (.aload_n 1, 1) := by decide +kernel
theorem own_d_prog_71_method_13_48 : decode prog_71_method_13_code 48 = .ok (.iconst 0, 1) := by decide +kernel
theorem own_d_prog_71_method_13_49 : decode prog_71_method_13_code 49 = .ok (.aload_n 0, 1) := by decide +kernel
theorem own_d_prog_71_method_13_50 : decode prog_71_method_13_code 50 = .ok (.iconst 0, 1) := by decide +kernel
theorem own_d_prog_71_method_13_51 : decode prog_71_method_13_code 51 = .ok (.laload, 1) := by decide +kernel
theorem own_d_prog_71_method_13_52 : decode prog_71_method_13_code 52 = .ok (.lastore, 1) := by decide +kernel
theorem own_d_prog_71_method_13_6 : decode prog_71_method_13_code 6 = .ok (.aload_n 1, 1) := by decide +kernel
theorem own_d_prog_71_method_13_7 : decode prog_71_method_13_code 7 = .ok (.iconst 0, 1) := by decide +kernel
theorem own_d_prog_71_method_13_8 : decode prog_71_method_13_code 8 = .ok (.aload_n 0, 1) := by decide +kernel
theorem own_d_prog_71_method_13_9 : decode prog_71_method_13_code 9 = .ok (.iconst 0, 1) := by decide +kernel
theorem own_d_prog_71_method_13_10 : decode prog_71_method_13_code 10 = .ok (.laload, 1) := by decide +kernel
theorem own_d_prog_71_method_13_11 : decode prog_71_method_13_code 11 = .ok (.lastore, 1) := by decide +kernel
theorem own_d_prog_71_method_13_12 : decode prog_71_method_13_code 12 = .ok (.aload_n 1, 1) := by decide +kernel
theorem own_d_prog_71_method_13_13 : decode prog_71_method_13_code 13 = .ok (.iconst 1, 1) := by decide +kernel
theorem own_d_prog_71_method_13_14 : decode prog_71_method_13_code 14 = .ok (.aload_n 0, 1) := by decide +kernel
theorem own_d_prog_71_method_13_15 : decode prog_71_method_13_code 15 = .ok (.iconst 1, 1) := by decide +kernel
theorem own_d_prog_71_method_13_16 : decode prog_71_method_13_code 16 = .ok (.laload, 1) := by decide +kernel
theorem own_d_prog_71_method_13_17 : decode prog_71_method_13_code 17 = .ok (.lastore, 1) := by decide +kernel
theorem own_d_prog_71_method_13_18 : decode prog_71_method_13_code 18 = .ok (.iconst 2, 1) := by decide +kernel
theorem own_d_prog_71_method_13_19 : decode prog_71_method_13_code 19 = .ok (.istore_n 2, 1) := by decide +kernel
theorem own_d_prog_71_method_13_20 : decode prog_71_method_13_code 20 = .ok (.iload_n 2, 1) := by decide +kernel
theorem own_d_prog_71_method_13_21 : decode prog_71_method_13_code 21 = .ok (.aload_n 0, 1) := by decide +kernel
theorem own_d_prog_71_method_13_22 : decode prog_71_method_13_code 22 = .ok (.arraylength, 1) := by decide +kernel
theorem own_d_prog_71_method_13_23 : decode prog_71_method_13_code 23 = .ok (.if_icmp .ge 15, 3) := by decide +kernel
theorem own_d_prog_71_method_13_38 : decode prog_71_method_13_code 38 = .ok (.goto 15, 3) := by decide +kernel
theorem own_d_prog_71_method_13_26 : decode prog_71_method_13_code 26 = .ok (.aload_n 1, 1) := by decide +kernel
theorem own_d_prog_71_method_13_27 : decode prog_71_method_13_code 27 = .ok (.iload_n 2, 1) := by decide +kernel
theorem own_d_prog_71_method_13_28 : decode prog_71_method_13_code 28 = .ok (.aload_n 0, 1) := by decide +kernel
theorem own_d_prog_71_method_13_29 : decode prog_71_method_13_code 29 = .ok (.iload_n 2, 1) := by decide +kernel
theorem own_d_prog_71_method_13_30 : decode prog_71_method_13_code 30 = .ok (.laload, 1) := by decide +kernel
theorem own_d_prog_71_method_13_31 : decode prog_71_method_13_code 31 = .ok (.lastore, 1) := by decide +kernel
theorem own_d_prog_71_method_13_32 : decode prog_71_method_13_code 32 = .ok (.iinc 2 1, 3) := by decide +kernel
theorem own_d_prog_71_method_13_35 : decode prog_71_method_13_code 35 = .ok (.goto (-15), 3) := by decide +kernel
theorem own_d_method_2_0 : decode method_2_code 0 = .ok (.iload_n 2, 1) := by decide +kernel
theorem own_d_method_2_1 : decode method_2_code 1 = .ok (.aload_n 0, 1) := by decide +kernel
theorem own_d_method_2_2 : decode method_2_code 2 = .ok (.arraylength, 1) := by decide +kernel
theorem own_d_method_2_3 : decode method_2_code 3 = .ok (.if_icmp .lt 5, 3) := by decide +kernel
theorem own_d_method_2_6 : decode method_2_code 6 = .ok (.iconst 1, 1) := by decide +kernel
theorem own_d_method_2_7 : decode method_2_code 7 = .ok (.ireturn, 1) := by decide +kernel
theorem own_pn1 : plainName "com/example/unify_to_cover/unifytocover/search/ValueSetsCopyPinLaw" = true := by first | (simp [plainName, overriddenIn]; done) | decide +kernel
theorem own_d_method_2_8 : decode method_2_code 8 = .ok (.aload_n 0, 1) := by decide +kernel
theorem own_d_method_2_9 : decode method_2_code 9 = .ok (.iload_n 2, 1) := by decide +kernel
theorem own_d_method_2_10 : decode method_2_code 10 = .ok (.laload, 1) := by decide +kernel
theorem own_d_method_2_11 : decode method_2_code 11 = .ok (.lload_n 3, 1) := by decide +kernel
theorem own_d_method_2_12 : decode method_2_code 12 = .ok (.lcmp, 1) := by decide +kernel
theorem own_d_method_2_13 : decode method_2_code 13 = .ok (.ifCond .ne 15, 3) := by decide +kernel
theorem own_d_method_2_16 : decode method_2_code 16 = .ok (.aload_n 1, 1) := by decide +kernel
theorem own_d_method_2_17 : decode method_2_code 17 = .ok (.iload_n 2, 1) := by decide +kernel
theorem own_d_method_2_18 : decode method_2_code 18 = .ok (.laload, 1) := by decide +kernel
theorem own_d_method_2_19 : decode method_2_code 19 = .ok (.lload_n 3, 1) := by decide +kernel
theorem own_d_method_2_20 : decode method_2_code 20 = .ok (.lcmp, 1) := by decide +kernel
theorem own_d_method_2_21 : decode method_2_code 21 = .ok (.ifCond .ne 7, 3) := by decide +kernel
theorem own_d_method_2_24 : decode method_2_code 24 = .ok (.iconst 1, 1) := by decide +kernel
theorem own_d_method_2_25 : decode method_2_code 25 = .ok (.goto 4, 3) := by decide +kernel
theorem own_d_method_2_29 : decode method_2_code 29 = .ok (.ireturn, 1) := by decide +kernel
theorem own_pd1 : parseMethodDescriptor "([J[J)V" = some ⟨[(.array .long), (.array .long)], none⟩ := by decide +kernel
theorem own_pd2 : parseMethodDescriptor "([J[JIJ)Z" = some ⟨[(.array .long), (.array .long), .int, .long], some .boolean⟩ := by decide +kernel
theorem own_and32 (x m : Int32) (hm : m.toBitVec.msb = false) : ¬ (x &&& m) < 0 := by
  rw [Int32.lt_iff_toInt_lt]
  show ¬ ((x &&& m).toBitVec).toInt < 0
  rw [Int32.toBitVec_and]
  have : (x.toBitVec &&& m.toBitVec).msb = false := by simp [BitVec.msb_and, hm]
  have := BitVec.toInt_eq_toNat_of_msb this
  omega
theorem own_mod5 (a : Int32) (h : ¬ a < 0) : a % (5 : Int32) = (0 : Int32) ∨ a % (5 : Int32) = (1 : Int32) ∨ a % (5 : Int32) = (2 : Int32) ∨ a % (5 : Int32) = (3 : Int32) ∨ a % (5 : Int32) = (4 : Int32) := by
  rw [Int32.lt_iff_toInt_lt, show (0 : Int32).toInt = 0 from rfl] at h
  simp only [← Int32.toInt_inj, Int32.toInt_mod, show (0 : Int32).toInt = 0 from rfl, show (1 : Int32).toInt = 1 from rfl, show (2 : Int32).toInt = 2 from rfl, show (3 : Int32).toInt = 3 from rfl, show (4 : Int32).toInt = 4 from rfl, show (5 : Int32).toInt = 5 from rfl]
  rw [Int.tmod_eq_emod_of_nonneg (by omega)]
  omega
theorem own_ef_rmC0 (m : MethodId) (x0 : Addr) (x1 : Addr) : entryFrame m #[(.ref x0), (.ref x1)] 3 = mkF m 0 #[.val (.ref x0), .val (.ref x1), .unset] [] := by first | (simp [entryFrame, mkF, argsToLocals, Value.category]; done) | rfl
def R_rmC0 : Room := { frames := 0, cells := 0, slots := 0, locals := 0 }
def Q_rmC0 (Z : State) (d : Addr) (g : Addr) (h0 : Heap) (n0 : Nat) (v : Option Value) (h : Heap) (L : List Loc) : Prop := v = none ∧ Fr n0 L ∧ h = h0
set_option maxRecDepth 65536 in
set_option maxHeartbeats 40000000 in
theorem rmC0 (l : Launch) (Z : State) (a0 : Array Value) (hw : ∀ d ∈ tables_1, d.before a0 Z = true) (ws : List Jvm.Cond) (d : Addr) (g : Addr) (h0 : Heap) (n0 : Nat) (Z0 : n0 ≤ h0.size) (A_d : OArr Z h0 d .long 0 (fun j => .long ((own_L (0 : Int64) ([] : List Int64)) j))) (A_g : OArr Z h0 g .long 0 (fun j => .long ((own_L (0 : Int64) ([] : List Int64)) j))) (g_g : n0 ≤ g) (ne_d_g : d ≠ g) :
    MetFree l (⟨"com/example/unify_to_cover/unifytocover/search/ValueSets", "copy", "([J[J)V"⟩ : MethodName) (head1 (Jvm.Cond.code (⟨"com/example/unify_to_cover/unifytocover/search/ValueSets", "copy", "([J[J)V"⟩ : MethodName) prog_71_method_13_code 3 none :: ws) R_rmC0) (fun vs_ U => vs_ = #[(.ref d), (.ref g)] ∧ Z.Warmed39 U.vm ∧ U.heap = h0) (fun _ _ _ _ _ => True) (fun _ U o U' => ∃ v L, o = .returned v ∧ Q_rmC0 Z d g h0 n0 v U'.heap L ∧ FrameEnd U o U' L R_rmC0.cells R_rmC0.slots) := by
  refine MetFree.of_bodySF (plainFor_of_name own_pn0) hisR ?_
  intro p e s m args below meth c s₁ Bd hml0 hP hK
  obtain ⟨rfl, hZ, hh⟩ := hP
  have hx := Bd.exec
  have hby := Bd.bytes
  have hml : c.maxLocals = 3 := hml0
  have hown : s.vm.findClass "com/example/unify_to_cover/unifytocover/search/ValueSets" = some m.cls := findClass_of_methodNamed Bd.named
  have hnm := (name_of_methodNamed Bd.named Bd.method).1
  have hlk : meth.locks = false := BodyLoose.notSynchronized Bd
  have X0 : Stand p l e R_rmC0 s m #[(.ref d), (.ref g)] below meth c s₁ [] 0 0 := Stand.of_body Bd
  have e0 : s₁.heap = h0 := by rw [← hh, Bd.state]; rfl
  have N0 := Fr.nil n0
  have K0 : Keep h0 h0 [g] := Keep.refl _ _
  refine OGo.en (Q := Q_rmC0 Z d g h0 n0) (C := R_rmC0.cells) (S := R_rmC0.slots) (own_ef_rmC0 m d g) ?_
  refine OGo.st (T' := s₁) (g' := (mkF m 1 #[.val (.ref d), .val (.ref g), .unset] [(.ref d)])) (fun _ k => (XS.aloadN X0.here hx rfl (hb hby own_d_prog_71_method_13_0) rfl rfl k)) ?_
  refine OGo.st (T' := s₁) (g' := (mkF m 42 #[.val (.ref d), .val (.ref g), .unset] [(.ref d)])) (fun _ k => (own_len X0 hx hZ e0 A_d (g := (mkF m 1 #[.val (.ref d), .val (.ref g), .unset] [(.ref d)])) rfl rfl (hb hby own_d_prog_71_method_13_1) _ (XS.iconst X0.here hx rfl (hb hby own_d_prog_71_method_13_2) (XS.icmpYes X0.here hx rfl (pc0 := 3) (pc' := 41) rfl (hb hby own_d_prog_71_method_13_3) rfl (tlt (by decide : (0 : Int32) < (2 : Int32))).1 (by decide) (by decide) (XS.aloadN X0.here hx rfl (hb hby own_d_prog_71_method_13_41) rfl rfl k))))) ?_
  refine OGo.st (T' := s₁) (g' := (mkF m 53 #[.val (.ref d), .val (.ref g), .unset] [])) (fun _ k => (own_len X0 hx hZ e0 A_d (g := (mkF m 42 #[.val (.ref d), .val (.ref g), .unset] [(.ref d)])) rfl rfl (hb hby own_d_prog_71_method_13_42) _ (XS.iconst X0.here hx rfl (hb hby own_d_prog_71_method_13_43) (XS.icmpYes X0.here hx rfl (pc0 := 44) (pc' := 53) rfl (hb hby own_d_prog_71_method_13_44) rfl (feq (by decide : ¬ ((0 : Int32) = (1 : Int32)))).2 (by decide) (by decide) k)))) ?_
  exact OGo.retV X0 hx hlk Bd.returns (hb hby own_d_prog_71_method_13_53) (by decide) (by decide) e0 (⟨rfl, N0, rfl⟩)
theorem own_ef_rmC1 (m : MethodId) (x0 : Addr) (x1 : Addr) : entryFrame m #[(.ref x0), (.ref x1)] 3 = mkF m 0 #[.val (.ref x0), .val (.ref x1), .unset] [] := by first | (simp [entryFrame, mkF, argsToLocals, Value.category]; done) | rfl
def R_rmC1 : Room := { frames := 0, cells := 0, slots := 0, locals := 0 }
def Q_rmC1 (Z : State) (d : Addr) (d_0 : Int64) (g : Addr) (g_0 : Int64) (h0 : Heap) (n0 : Nat) (v : Option Value) (h : Heap) (L : List Loc) : Prop := v = none ∧ Fr n0 L ∧ Keep h0 h [g] ∧ OArr Z h g .long 1 (fun j => .long ((own_L (0 : Int64) ([d_0] : List Int64)) j))
set_option maxRecDepth 65536 in
set_option maxHeartbeats 40000000 in
theorem rmC1 (l : Launch) (Z : State) (a0 : Array Value) (hw : ∀ d ∈ tables_1, d.before a0 Z = true) (ws : List Jvm.Cond) (d : Addr) (d_0 : Int64) (g : Addr) (g_0 : Int64) (h0 : Heap) (n0 : Nat) (Z0 : n0 ≤ h0.size) (A_d : OArr Z h0 d .long 1 (fun j => .long ((own_L (0 : Int64) ([d_0] : List Int64)) j))) (A_g : OArr Z h0 g .long 1 (fun j => .long ((own_L (0 : Int64) ([g_0] : List Int64)) j))) (g_g : n0 ≤ g) (ne_d_g : d ≠ g) :
    MetFree l (⟨"com/example/unify_to_cover/unifytocover/search/ValueSets", "copy", "([J[J)V"⟩ : MethodName) (head1 (Jvm.Cond.code (⟨"com/example/unify_to_cover/unifytocover/search/ValueSets", "copy", "([J[J)V"⟩ : MethodName) prog_71_method_13_code 3 none :: ws) R_rmC1) (fun vs_ U => vs_ = #[(.ref d), (.ref g)] ∧ Z.Warmed39 U.vm ∧ U.heap = h0) (fun _ _ _ _ _ => True) (fun _ U o U' => ∃ v L, o = .returned v ∧ Q_rmC1 Z d d_0 g g_0 h0 n0 v U'.heap L ∧ FrameEnd U o U' L R_rmC1.cells R_rmC1.slots) := by
  refine MetFree.of_bodySF (plainFor_of_name own_pn0) hisR ?_
  intro p e s m args below meth c s₁ Bd hml0 hP hK
  obtain ⟨rfl, hZ, hh⟩ := hP
  have hx := Bd.exec
  have hby := Bd.bytes
  have hml : c.maxLocals = 3 := hml0
  have hown : s.vm.findClass "com/example/unify_to_cover/unifytocover/search/ValueSets" = some m.cls := findClass_of_methodNamed Bd.named
  have hnm := (name_of_methodNamed Bd.named Bd.method).1
  have hlk : meth.locks = false := BodyLoose.notSynchronized Bd
  have X0 : Stand p l e R_rmC1 s m #[(.ref d), (.ref g)] below meth c s₁ [] 0 0 := Stand.of_body Bd
  have e0 : s₁.heap = h0 := by rw [← hh, Bd.state]; rfl
  have N0 := Fr.nil n0
  have K0 : Keep h0 h0 [g] := Keep.refl _ _
  refine OGo.en (Q := Q_rmC1 Z d d_0 g g_0 h0 n0) (C := R_rmC1.cells) (S := R_rmC1.slots) (own_ef_rmC1 m d g) ?_
  refine OGo.st (T' := s₁) (g' := (mkF m 1 #[.val (.ref d), .val (.ref g), .unset] [(.ref d)])) (fun _ k => (XS.aloadN X0.here hx rfl (hb hby own_d_prog_71_method_13_0) rfl rfl k)) ?_
  refine OGo.st (T' := s₁) (g' := (mkF m 42 #[.val (.ref d), .val (.ref g), .unset] [(.ref d)])) (fun _ k => (own_len X0 hx hZ e0 A_d (g := (mkF m 1 #[.val (.ref d), .val (.ref g), .unset] [(.ref d)])) rfl rfl (hb hby own_d_prog_71_method_13_1) _ (XS.iconst X0.here hx rfl (hb hby own_d_prog_71_method_13_2) (XS.icmpYes X0.here hx rfl (pc0 := 3) (pc' := 41) rfl (hb hby own_d_prog_71_method_13_3) rfl (tlt (by decide : (1 : Int32) < (2 : Int32))).1 (by decide) (by decide) (XS.aloadN X0.here hx rfl (hb hby own_d_prog_71_method_13_41) rfl rfl k))))) ?_
  refine OGo.st (T' := s₁) (g' := (mkF m 50 #[.val (.ref d), .val (.ref g), .unset] [(.ref d), (.int (0 : Int32)), (.ref g)])) (fun _ k => (own_len X0 hx hZ e0 A_d (g := (mkF m 42 #[.val (.ref d), .val (.ref g), .unset] [(.ref d)])) rfl rfl (hb hby own_d_prog_71_method_13_42) _ (XS.iconst X0.here hx rfl (hb hby own_d_prog_71_method_13_43) (XS.icmpNo X0.here hx rfl (hb hby own_d_prog_71_method_13_44) rfl (teq (by decide : (1 : Int32) = (1 : Int32))).2 (XS.aloadN X0.here hx rfl (hb hby own_d_prog_71_method_13_47) rfl rfl (XS.iconst X0.here hx rfl (hb hby own_d_prog_71_method_13_48) (XS.aloadN X0.here hx rfl (hb hby own_d_prog_71_method_13_49) rfl rfl k))))))) ?_
  refine OGo.st (T' := s₁) (g' := (mkF m 51 #[.val (.ref d), .val (.ref g), .unset] [(.int (0 : Int32)), (.ref d), (.int (0 : Int32)), (.ref g)])) (fun _ k => (XS.iconst X0.here hx rfl (hb hby own_d_prog_71_method_13_50) k)) ?_
  refine OGo.st (T' := s₁) (g' := (mkF m 52 #[.val (.ref d), .val (.ref g), .unset] [(.long d_0), (.int (0 : Int32)), (.ref g)])) (fun _ k => (own_ldJ X0 hx hZ e0 A_d (j := (0 : Int32)) (i := 0) ⟨by decide, by decide⟩ (by decide) (g := (mkF m 51 #[.val (.ref d), .val (.ref g), .unset] [(.int (0 : Int32)), (.ref d), (.int (0 : Int32)), (.ref g)])) rfl rfl (hb hby own_d_prog_71_method_13_51) _ k)) ?_
  obtain ⟨T1, h1, X1, e1, W1, V1, st1⟩ := own_stJ X0 hx hZ e0 A_g (j := (0 : Int32)) (i := 0) ⟨by decide, by decide⟩ (by decide) (g := (mkF m 52 #[.val (.ref d), .val (.ref g), .unset] [(.long d_0), (.int (0 : Int32)), (.ref g)])) rfl rfl (hb hby own_d_prog_71_method_13_52)
  have Ag_1 : OArr Z h1 g .long 1 (fun j => .long ((own_L (0 : Int64) ([d_0] : List Int64)) j)) := V1.cast (fun j _ => (own_updJ _ _ _ j).trans (congrArg Value.long (own_L_set (0 : Int64) ([g_0] : List Int64) 0 d_0 (Nat.le_of_ble_eq_true rfl) j)))
  have N1 := Fr.snoc X1 N0 g_g
  have A_d_1 : OArr Z h1 d .long 1 (fun j => .long ((own_L (0 : Int64) ([d_0] : List Int64)) j)) := A_d.other W1 ne_d_g
  have Zn1 : n0 ≤ h1.size := Nat.le_trans Z0 (Nat.le_of_eq W1.size.symm)
  have K1 : Keep h0 h1 [g] := K0.wr W1 (Or.inl (List.mem_of_getElem? (i := 0) rfl))
  refine OGo.st (T' := T1) (g' := (mkF m 53 #[.val (.ref d), .val (.ref g), .unset] [])) (fun _ k => st1 _ k) ?_
  exact OGo.retV X1 hx hlk Bd.returns (hb hby own_d_prog_71_method_13_53) (by decide) (by decide) e1 (⟨rfl, N1, K1, Ag_1⟩)
theorem own_ef_rmC2 (m : MethodId) (x0 : Addr) (x1 : Addr) : entryFrame m #[(.ref x0), (.ref x1)] 3 = mkF m 0 #[.val (.ref x0), .val (.ref x1), .unset] [] := by first | (simp [entryFrame, mkF, argsToLocals, Value.category]; done) | rfl
def R_rmC2 : Room := { frames := 0, cells := 0, slots := 0, locals := 0 }
def Q_rmC2 (Z : State) (d : Addr) (d_0 : Int64) (d_1 : Int64) (g : Addr) (g_0 : Int64) (g_1 : Int64) (h0 : Heap) (n0 : Nat) (v : Option Value) (h : Heap) (L : List Loc) : Prop := v = none ∧ Fr n0 L ∧ Keep h0 h [g] ∧ OArr Z h g .long 2 (fun j => .long ((own_L (0 : Int64) ([d_0, d_1] : List Int64)) j))
set_option maxRecDepth 65536 in
set_option maxHeartbeats 40000000 in
theorem rmC2 (l : Launch) (Z : State) (a0 : Array Value) (hw : ∀ d ∈ tables_1, d.before a0 Z = true) (ws : List Jvm.Cond) (d : Addr) (d_0 : Int64) (d_1 : Int64) (g : Addr) (g_0 : Int64) (g_1 : Int64) (h0 : Heap) (n0 : Nat) (Z0 : n0 ≤ h0.size) (A_d : OArr Z h0 d .long 2 (fun j => .long ((own_L (0 : Int64) ([d_0, d_1] : List Int64)) j))) (A_g : OArr Z h0 g .long 2 (fun j => .long ((own_L (0 : Int64) ([g_0, g_1] : List Int64)) j))) (g_g : n0 ≤ g) (ne_d_g : d ≠ g) :
    MetFree l (⟨"com/example/unify_to_cover/unifytocover/search/ValueSets", "copy", "([J[J)V"⟩ : MethodName) (head1 (Jvm.Cond.code (⟨"com/example/unify_to_cover/unifytocover/search/ValueSets", "copy", "([J[J)V"⟩ : MethodName) prog_71_method_13_code 3 none :: ws) R_rmC2) (fun vs_ U => vs_ = #[(.ref d), (.ref g)] ∧ Z.Warmed39 U.vm ∧ U.heap = h0) (fun _ _ _ _ _ => True) (fun _ U o U' => ∃ v L, o = .returned v ∧ Q_rmC2 Z d d_0 d_1 g g_0 g_1 h0 n0 v U'.heap L ∧ FrameEnd U o U' L R_rmC2.cells R_rmC2.slots) := by
  refine MetFree.of_bodySF (plainFor_of_name own_pn0) hisR ?_
  intro p e s m args below meth c s₁ Bd hml0 hP hK
  obtain ⟨rfl, hZ, hh⟩ := hP
  have hx := Bd.exec
  have hby := Bd.bytes
  have hml : c.maxLocals = 3 := hml0
  have hown : s.vm.findClass "com/example/unify_to_cover/unifytocover/search/ValueSets" = some m.cls := findClass_of_methodNamed Bd.named
  have hnm := (name_of_methodNamed Bd.named Bd.method).1
  have hlk : meth.locks = false := BodyLoose.notSynchronized Bd
  have X0 : Stand p l e R_rmC2 s m #[(.ref d), (.ref g)] below meth c s₁ [] 0 0 := Stand.of_body Bd
  have e0 : s₁.heap = h0 := by rw [← hh, Bd.state]; rfl
  have N0 := Fr.nil n0
  have K0 : Keep h0 h0 [g] := Keep.refl _ _
  refine OGo.en (Q := Q_rmC2 Z d d_0 d_1 g g_0 g_1 h0 n0) (C := R_rmC2.cells) (S := R_rmC2.slots) (own_ef_rmC2 m d g) ?_
  refine OGo.st (T' := s₁) (g' := (mkF m 1 #[.val (.ref d), .val (.ref g), .unset] [(.ref d)])) (fun _ k => (XS.aloadN X0.here hx rfl (hb hby own_d_prog_71_method_13_0) rfl rfl k)) ?_
  refine OGo.st (T' := s₁) (g' := (mkF m 9 #[.val (.ref d), .val (.ref g), .unset] [(.ref d), (.int (0 : Int32)), (.ref g)])) (fun _ k => (own_len X0 hx hZ e0 A_d (g := (mkF m 1 #[.val (.ref d), .val (.ref g), .unset] [(.ref d)])) rfl rfl (hb hby own_d_prog_71_method_13_1) _ (XS.iconst X0.here hx rfl (hb hby own_d_prog_71_method_13_2) (XS.icmpNo X0.here hx rfl (hb hby own_d_prog_71_method_13_3) rfl (flt (by decide : ¬ ((2 : Int32) < (2 : Int32)))).1 (XS.aloadN X0.here hx rfl (hb hby own_d_prog_71_method_13_6) rfl rfl (XS.iconst X0.here hx rfl (hb hby own_d_prog_71_method_13_7) (XS.aloadN X0.here hx rfl (hb hby own_d_prog_71_method_13_8) rfl rfl k))))))) ?_
  refine OGo.st (T' := s₁) (g' := (mkF m 10 #[.val (.ref d), .val (.ref g), .unset] [(.int (0 : Int32)), (.ref d), (.int (0 : Int32)), (.ref g)])) (fun _ k => (XS.iconst X0.here hx rfl (hb hby own_d_prog_71_method_13_9) k)) ?_
  refine OGo.st (T' := s₁) (g' := (mkF m 11 #[.val (.ref d), .val (.ref g), .unset] [(.long d_0), (.int (0 : Int32)), (.ref g)])) (fun _ k => (own_ldJ X0 hx hZ e0 A_d (j := (0 : Int32)) (i := 0) ⟨by decide, by decide⟩ (by decide) (g := (mkF m 10 #[.val (.ref d), .val (.ref g), .unset] [(.int (0 : Int32)), (.ref d), (.int (0 : Int32)), (.ref g)])) rfl rfl (hb hby own_d_prog_71_method_13_10) _ k)) ?_
  obtain ⟨T1, h1, X1, e1, W1, V1, st1⟩ := own_stJ X0 hx hZ e0 A_g (j := (0 : Int32)) (i := 0) ⟨by decide, by decide⟩ (by decide) (g := (mkF m 11 #[.val (.ref d), .val (.ref g), .unset] [(.long d_0), (.int (0 : Int32)), (.ref g)])) rfl rfl (hb hby own_d_prog_71_method_13_11)
  have Ag_1 : OArr Z h1 g .long 2 (fun j => .long ((own_L (0 : Int64) ([d_0, g_1] : List Int64)) j)) := V1.cast (fun j _ => (own_updJ _ _ _ j).trans (congrArg Value.long (own_L_set (0 : Int64) ([g_0, g_1] : List Int64) 0 d_0 (Nat.le_of_ble_eq_true rfl) j)))
  have N1 := Fr.snoc X1 N0 g_g
  have A_d_1 : OArr Z h1 d .long 2 (fun j => .long ((own_L (0 : Int64) ([d_0, d_1] : List Int64)) j)) := A_d.other W1 ne_d_g
  have Zn1 : n0 ≤ h1.size := Nat.le_trans Z0 (Nat.le_of_eq W1.size.symm)
  have K1 : Keep h0 h1 [g] := K0.wr W1 (Or.inl (List.mem_of_getElem? (i := 0) rfl))
  refine OGo.st (T' := T1) (g' := (mkF m 12 #[.val (.ref d), .val (.ref g), .unset] [])) (fun _ k => st1 _ k) ?_
  refine OGo.st (T' := T1) (g' := (mkF m 16 #[.val (.ref d), .val (.ref g), .unset] [(.int (1 : Int32)), (.ref d), (.int (1 : Int32)), (.ref g)])) (fun _ k => (XS.aloadN X1.here hx rfl (hb hby own_d_prog_71_method_13_12) rfl rfl (XS.iconst X1.here hx rfl (hb hby own_d_prog_71_method_13_13) (XS.aloadN X1.here hx rfl (hb hby own_d_prog_71_method_13_14) rfl rfl (XS.iconst X1.here hx rfl (hb hby own_d_prog_71_method_13_15) k))))) ?_
  refine OGo.st (T' := T1) (g' := (mkF m 17 #[.val (.ref d), .val (.ref g), .unset] [(.long d_1), (.int (1 : Int32)), (.ref g)])) (fun _ k => (own_ldJ X1 hx hZ e1 A_d_1 (j := (1 : Int32)) (i := 1) ⟨by decide, by decide⟩ (by decide) (g := (mkF m 16 #[.val (.ref d), .val (.ref g), .unset] [(.int (1 : Int32)), (.ref d), (.int (1 : Int32)), (.ref g)])) rfl rfl (hb hby own_d_prog_71_method_13_16) _ k)) ?_
  obtain ⟨T2, h2, X2, e2, W2, V2, st2⟩ := own_stJ X1 hx hZ e1 Ag_1 (j := (1 : Int32)) (i := 1) ⟨by decide, by decide⟩ (by decide) (g := (mkF m 17 #[.val (.ref d), .val (.ref g), .unset] [(.long d_1), (.int (1 : Int32)), (.ref g)])) rfl rfl (hb hby own_d_prog_71_method_13_17)
  have Ag_2 : OArr Z h2 g .long 2 (fun j => .long ((own_L (0 : Int64) ([d_0, d_1] : List Int64)) j)) := V2.cast (fun j _ => (own_updJ _ _ _ j).trans (congrArg Value.long (own_L_set (0 : Int64) ([d_0, g_1] : List Int64) 1 d_1 (Nat.le_of_ble_eq_true rfl) j)))
  have N2 := Fr.snoc X2 N1 g_g
  have A_d_2 : OArr Z h2 d .long 2 (fun j => .long ((own_L (0 : Int64) ([d_0, d_1] : List Int64)) j)) := A_d_1.other W2 ne_d_g
  have Zn2 : n0 ≤ h2.size := Nat.le_trans Zn1 (Nat.le_of_eq W2.size.symm)
  have K2 : Keep h0 h2 [g] := K1.wr W2 (Or.inl (List.mem_of_getElem? (i := 0) rfl))
  refine OGo.st (T' := T2) (g' := (mkF m 18 #[.val (.ref d), .val (.ref g), .unset] [])) (fun _ k => st2 _ k) ?_
  refine OGo.st (T' := T2) (g' := (mkF m 22 #[.val (.ref d), .val (.ref g), .val (.int (2 : Int32))] [(.ref d), (.int (2 : Int32))])) (fun _ k => (XS.iconst X2.here hx rfl (hb hby own_d_prog_71_method_13_18) (XS.istoreN X2.here hx rfl (hb hby own_d_prog_71_method_13_19) rfl (l' := #[.val (.ref d), .val (.ref g), .val (.int (2 : Int32))]) rfl (XS.iloadN X2.here hx rfl (hb hby own_d_prog_71_method_13_20) rfl (XS.aloadN X2.here hx rfl (hb hby own_d_prog_71_method_13_21) rfl rfl k))))) ?_
  refine OGo.st (T' := T2) (g' := (mkF m 53 #[.val (.ref d), .val (.ref g), .val (.int (2 : Int32))] [])) (fun _ k => (own_len X2 hx hZ e2 A_d_2 (g := (mkF m 22 #[.val (.ref d), .val (.ref g), .val (.int (2 : Int32))] [(.ref d), (.int (2 : Int32))])) rfl rfl (hb hby own_d_prog_71_method_13_22) _ (XS.icmpYes X2.here hx rfl (pc0 := 23) (pc' := 38) rfl (hb hby own_d_prog_71_method_13_23) rfl (flt (by decide : ¬ ((2 : Int32) < (2 : Int32)))).2.1 (by decide) (by decide) (XS.goto X2.here hx rfl (pc0 := 38) (pc' := 53) rfl (hb hby own_d_prog_71_method_13_38) (by decide) (by decide) k)))) ?_
  exact OGo.retV X2 hx hlk Bd.returns (hb hby own_d_prog_71_method_13_53) (by decide) (by decide) e2 (⟨rfl, N2, K2, Ag_2⟩)
theorem own_ef_rmC3 (m : MethodId) (x0 : Addr) (x1 : Addr) : entryFrame m #[(.ref x0), (.ref x1)] 3 = mkF m 0 #[.val (.ref x0), .val (.ref x1), .unset] [] := by first | (simp [entryFrame, mkF, argsToLocals, Value.category]; done) | rfl
def R_rmC3 : Room := { frames := 0, cells := 0, slots := 0, locals := 0 }
def Q_rmC3 (Z : State) (d : Addr) (d_0 : Int64) (d_1 : Int64) (d_2 : Int64) (g : Addr) (g_0 : Int64) (g_1 : Int64) (g_2 : Int64) (h0 : Heap) (n0 : Nat) (v : Option Value) (h : Heap) (L : List Loc) : Prop := v = none ∧ Fr n0 L ∧ Keep h0 h [g] ∧ OArr Z h g .long 3 (fun j => .long ((own_L (0 : Int64) ([d_0, d_1, d_2] : List Int64)) j))
set_option maxRecDepth 65536 in
set_option maxHeartbeats 40000000 in
theorem rmC3 (l : Launch) (Z : State) (a0 : Array Value) (hw : ∀ d ∈ tables_1, d.before a0 Z = true) (ws : List Jvm.Cond) (d : Addr) (d_0 : Int64) (d_1 : Int64) (d_2 : Int64) (g : Addr) (g_0 : Int64) (g_1 : Int64) (g_2 : Int64) (h0 : Heap) (n0 : Nat) (Z0 : n0 ≤ h0.size) (A_d : OArr Z h0 d .long 3 (fun j => .long ((own_L (0 : Int64) ([d_0, d_1, d_2] : List Int64)) j))) (A_g : OArr Z h0 g .long 3 (fun j => .long ((own_L (0 : Int64) ([g_0, g_1, g_2] : List Int64)) j))) (g_g : n0 ≤ g) (ne_d_g : d ≠ g) :
    MetFree l (⟨"com/example/unify_to_cover/unifytocover/search/ValueSets", "copy", "([J[J)V"⟩ : MethodName) (head1 (Jvm.Cond.code (⟨"com/example/unify_to_cover/unifytocover/search/ValueSets", "copy", "([J[J)V"⟩ : MethodName) prog_71_method_13_code 3 none :: ws) R_rmC3) (fun vs_ U => vs_ = #[(.ref d), (.ref g)] ∧ Z.Warmed39 U.vm ∧ U.heap = h0) (fun _ _ _ _ _ => True) (fun _ U o U' => ∃ v L, o = .returned v ∧ Q_rmC3 Z d d_0 d_1 d_2 g g_0 g_1 g_2 h0 n0 v U'.heap L ∧ FrameEnd U o U' L R_rmC3.cells R_rmC3.slots) := by
  refine MetFree.of_bodySF (plainFor_of_name own_pn0) hisR ?_
  intro p e s m args below meth c s₁ Bd hml0 hP hK
  obtain ⟨rfl, hZ, hh⟩ := hP
  have hx := Bd.exec
  have hby := Bd.bytes
  have hml : c.maxLocals = 3 := hml0
  have hown : s.vm.findClass "com/example/unify_to_cover/unifytocover/search/ValueSets" = some m.cls := findClass_of_methodNamed Bd.named
  have hnm := (name_of_methodNamed Bd.named Bd.method).1
  have hlk : meth.locks = false := BodyLoose.notSynchronized Bd
  have X0 : Stand p l e R_rmC3 s m #[(.ref d), (.ref g)] below meth c s₁ [] 0 0 := Stand.of_body Bd
  have e0 : s₁.heap = h0 := by rw [← hh, Bd.state]; rfl
  have N0 := Fr.nil n0
  have K0 : Keep h0 h0 [g] := Keep.refl _ _
  refine OGo.en (Q := Q_rmC3 Z d d_0 d_1 d_2 g g_0 g_1 g_2 h0 n0) (C := R_rmC3.cells) (S := R_rmC3.slots) (own_ef_rmC3 m d g) ?_
  refine OGo.st (T' := s₁) (g' := (mkF m 1 #[.val (.ref d), .val (.ref g), .unset] [(.ref d)])) (fun _ k => (XS.aloadN X0.here hx rfl (hb hby own_d_prog_71_method_13_0) rfl rfl k)) ?_
  refine OGo.st (T' := s₁) (g' := (mkF m 9 #[.val (.ref d), .val (.ref g), .unset] [(.ref d), (.int (0 : Int32)), (.ref g)])) (fun _ k => (own_len X0 hx hZ e0 A_d (g := (mkF m 1 #[.val (.ref d), .val (.ref g), .unset] [(.ref d)])) rfl rfl (hb hby own_d_prog_71_method_13_1) _ (XS.iconst X0.here hx rfl (hb hby own_d_prog_71_method_13_2) (XS.icmpNo X0.here hx rfl (hb hby own_d_prog_71_method_13_3) rfl (flt (by decide : ¬ ((3 : Int32) < (2 : Int32)))).1 (XS.aloadN X0.here hx rfl (hb hby own_d_prog_71_method_13_6) rfl rfl (XS.iconst X0.here hx rfl (hb hby own_d_prog_71_method_13_7) (XS.aloadN X0.here hx rfl (hb hby own_d_prog_71_method_13_8) rfl rfl k))))))) ?_
  refine OGo.st (T' := s₁) (g' := (mkF m 10 #[.val (.ref d), .val (.ref g), .unset] [(.int (0 : Int32)), (.ref d), (.int (0 : Int32)), (.ref g)])) (fun _ k => (XS.iconst X0.here hx rfl (hb hby own_d_prog_71_method_13_9) k)) ?_
  refine OGo.st (T' := s₁) (g' := (mkF m 11 #[.val (.ref d), .val (.ref g), .unset] [(.long d_0), (.int (0 : Int32)), (.ref g)])) (fun _ k => (own_ldJ X0 hx hZ e0 A_d (j := (0 : Int32)) (i := 0) ⟨by decide, by decide⟩ (by decide) (g := (mkF m 10 #[.val (.ref d), .val (.ref g), .unset] [(.int (0 : Int32)), (.ref d), (.int (0 : Int32)), (.ref g)])) rfl rfl (hb hby own_d_prog_71_method_13_10) _ k)) ?_
  obtain ⟨T1, h1, X1, e1, W1, V1, st1⟩ := own_stJ X0 hx hZ e0 A_g (j := (0 : Int32)) (i := 0) ⟨by decide, by decide⟩ (by decide) (g := (mkF m 11 #[.val (.ref d), .val (.ref g), .unset] [(.long d_0), (.int (0 : Int32)), (.ref g)])) rfl rfl (hb hby own_d_prog_71_method_13_11)
  have Ag_1 : OArr Z h1 g .long 3 (fun j => .long ((own_L (0 : Int64) ([d_0, g_1, g_2] : List Int64)) j)) := V1.cast (fun j _ => (own_updJ _ _ _ j).trans (congrArg Value.long (own_L_set (0 : Int64) ([g_0, g_1, g_2] : List Int64) 0 d_0 (Nat.le_of_ble_eq_true rfl) j)))
  have N1 := Fr.snoc X1 N0 g_g
  have A_d_1 : OArr Z h1 d .long 3 (fun j => .long ((own_L (0 : Int64) ([d_0, d_1, d_2] : List Int64)) j)) := A_d.other W1 ne_d_g
  have Zn1 : n0 ≤ h1.size := Nat.le_trans Z0 (Nat.le_of_eq W1.size.symm)
  have K1 : Keep h0 h1 [g] := K0.wr W1 (Or.inl (List.mem_of_getElem? (i := 0) rfl))
  refine OGo.st (T' := T1) (g' := (mkF m 12 #[.val (.ref d), .val (.ref g), .unset] [])) (fun _ k => st1 _ k) ?_
  refine OGo.st (T' := T1) (g' := (mkF m 16 #[.val (.ref d), .val (.ref g), .unset] [(.int (1 : Int32)), (.ref d), (.int (1 : Int32)), (.ref g)])) (fun _ k => (XS.aloadN X1.here hx rfl (hb hby own_d_prog_71_method_13_12) rfl rfl (XS.iconst X1.here hx rfl (hb hby own_d_prog_71_method_13_13) (XS.aloadN X1.here hx rfl (hb hby own_d_prog_71_method_13_14) rfl rfl (XS.iconst X1.here hx rfl (hb hby own_d_prog_71_method_13_15) k))))) ?_
  refine OGo.st (T' := T1) (g' := (mkF m 17 #[.val (.ref d), .val (.ref g), .unset] [(.long d_1), (.int (1 : Int32)), (.ref g)])) (fun _ k => (own_ldJ X1 hx hZ e1 A_d_1 (j := (1 : Int32)) (i := 1) ⟨by decide, by decide⟩ (by decide) (g := (mkF m 16 #[.val (.ref d), .val (.ref g), .unset] [(.int (1 : Int32)), (.ref d), (.int (1 : Int32)), (.ref g)])) rfl rfl (hb hby own_d_prog_71_method_13_16) _ k)) ?_
  obtain ⟨T2, h2, X2, e2, W2, V2, st2⟩ := own_stJ X1 hx hZ e1 Ag_1 (j := (1 : Int32)) (i := 1) ⟨by decide, by decide⟩ (by decide) (g := (mkF m 17 #[.val (.ref d), .val (.ref g), .unset] [(.long d_1), (.int (1 : Int32)), (.ref g)])) rfl rfl (hb hby own_d_prog_71_method_13_17)
  have Ag_2 : OArr Z h2 g .long 3 (fun j => .long ((own_L (0 : Int64) ([d_0, d_1, g_2] : List Int64)) j)) := V2.cast (fun j _ => (own_updJ _ _ _ j).trans (congrArg Value.long (own_L_set (0 : Int64) ([d_0, g_1, g_2] : List Int64) 1 d_1 (Nat.le_of_ble_eq_true rfl) j)))
  have N2 := Fr.snoc X2 N1 g_g
  have A_d_2 : OArr Z h2 d .long 3 (fun j => .long ((own_L (0 : Int64) ([d_0, d_1, d_2] : List Int64)) j)) := A_d_1.other W2 ne_d_g
  have Zn2 : n0 ≤ h2.size := Nat.le_trans Zn1 (Nat.le_of_eq W2.size.symm)
  have K2 : Keep h0 h2 [g] := K1.wr W2 (Or.inl (List.mem_of_getElem? (i := 0) rfl))
  refine OGo.st (T' := T2) (g' := (mkF m 18 #[.val (.ref d), .val (.ref g), .unset] [])) (fun _ k => st2 _ k) ?_
  refine OGo.st (T' := T2) (g' := (mkF m 22 #[.val (.ref d), .val (.ref g), .val (.int (2 : Int32))] [(.ref d), (.int (2 : Int32))])) (fun _ k => (XS.iconst X2.here hx rfl (hb hby own_d_prog_71_method_13_18) (XS.istoreN X2.here hx rfl (hb hby own_d_prog_71_method_13_19) rfl (l' := #[.val (.ref d), .val (.ref g), .val (.int (2 : Int32))]) rfl (XS.iloadN X2.here hx rfl (hb hby own_d_prog_71_method_13_20) rfl (XS.aloadN X2.here hx rfl (hb hby own_d_prog_71_method_13_21) rfl rfl k))))) ?_
  refine OGo.st (T' := T2) (g' := (mkF m 30 #[.val (.ref d), .val (.ref g), .val (.int (2 : Int32))] [(.int (2 : Int32)), (.ref d), (.int (2 : Int32)), (.ref g)])) (fun _ k => (own_len X2 hx hZ e2 A_d_2 (g := (mkF m 22 #[.val (.ref d), .val (.ref g), .val (.int (2 : Int32))] [(.ref d), (.int (2 : Int32))])) rfl rfl (hb hby own_d_prog_71_method_13_22) _ (XS.icmpNo X2.here hx rfl (hb hby own_d_prog_71_method_13_23) rfl (tlt (by decide : (2 : Int32) < (3 : Int32))).2.1 (XS.aloadN X2.here hx rfl (hb hby own_d_prog_71_method_13_26) rfl rfl (XS.iloadN X2.here hx rfl (hb hby own_d_prog_71_method_13_27) rfl (XS.aloadN X2.here hx rfl (hb hby own_d_prog_71_method_13_28) rfl rfl (XS.iloadN X2.here hx rfl (hb hby own_d_prog_71_method_13_29) rfl k))))))) ?_
  refine OGo.st (T' := T2) (g' := (mkF m 31 #[.val (.ref d), .val (.ref g), .val (.int (2 : Int32))] [(.long d_2), (.int (2 : Int32)), (.ref g)])) (fun _ k => (own_ldJ X2 hx hZ e2 A_d_2 (j := (2 : Int32)) (i := 2) ⟨by decide, by decide⟩ (by decide) (g := (mkF m 30 #[.val (.ref d), .val (.ref g), .val (.int (2 : Int32))] [(.int (2 : Int32)), (.ref d), (.int (2 : Int32)), (.ref g)])) rfl rfl (hb hby own_d_prog_71_method_13_30) _ k)) ?_
  obtain ⟨T3, h3, X3, e3, W3, V3, st3⟩ := own_stJ X2 hx hZ e2 Ag_2 (j := (2 : Int32)) (i := 2) ⟨by decide, by decide⟩ (by decide) (g := (mkF m 31 #[.val (.ref d), .val (.ref g), .val (.int (2 : Int32))] [(.long d_2), (.int (2 : Int32)), (.ref g)])) rfl rfl (hb hby own_d_prog_71_method_13_31)
  have Ag_3 : OArr Z h3 g .long 3 (fun j => .long ((own_L (0 : Int64) ([d_0, d_1, d_2] : List Int64)) j)) := V3.cast (fun j _ => (own_updJ _ _ _ j).trans (congrArg Value.long (own_L_set (0 : Int64) ([d_0, d_1, g_2] : List Int64) 2 d_2 (Nat.le_of_ble_eq_true rfl) j)))
  have N3 := Fr.snoc X3 N2 g_g
  have A_d_3 : OArr Z h3 d .long 3 (fun j => .long ((own_L (0 : Int64) ([d_0, d_1, d_2] : List Int64)) j)) := A_d_2.other W3 ne_d_g
  have Zn3 : n0 ≤ h3.size := Nat.le_trans Zn2 (Nat.le_of_eq W3.size.symm)
  have K3 : Keep h0 h3 [g] := K2.wr W3 (Or.inl (List.mem_of_getElem? (i := 0) rfl))
  refine OGo.st (T' := T3) (g' := (mkF m 32 #[.val (.ref d), .val (.ref g), .val (.int (2 : Int32))] [])) (fun _ k => st3 _ k) ?_
  refine OGo.st (T' := T3) (g' := (mkF m 22 #[.val (.ref d), .val (.ref g), .val (.int (3 : Int32))] [(.ref d), (.int (3 : Int32))])) (fun _ k => (XS.iinc X3.here hx rfl (hb hby own_d_prog_71_method_13_32) rfl (l' := #[.val (.ref d), .val (.ref g), .val (.int (3 : Int32))]) rfl (XS.goto X3.here hx rfl (pc0 := 35) (pc' := 20) rfl (hb hby own_d_prog_71_method_13_35) (by decide) (by decide) (XS.iloadN X3.here hx rfl (hb hby own_d_prog_71_method_13_20) rfl (XS.aloadN X3.here hx rfl (hb hby own_d_prog_71_method_13_21) rfl rfl k))))) ?_
  refine OGo.st (T' := T3) (g' := (mkF m 53 #[.val (.ref d), .val (.ref g), .val (.int (3 : Int32))] [])) (fun _ k => (own_len X3 hx hZ e3 A_d_3 (g := (mkF m 22 #[.val (.ref d), .val (.ref g), .val (.int (3 : Int32))] [(.ref d), (.int (3 : Int32))])) rfl rfl (hb hby own_d_prog_71_method_13_22) _ (XS.icmpYes X3.here hx rfl (pc0 := 23) (pc' := 38) rfl (hb hby own_d_prog_71_method_13_23) rfl (flt (by decide : ¬ ((3 : Int32) < (3 : Int32)))).2.1 (by decide) (by decide) (XS.goto X3.here hx rfl (pc0 := 38) (pc' := 53) rfl (hb hby own_d_prog_71_method_13_38) (by decide) (by decide) k)))) ?_
  exact OGo.retV X3 hx hlk Bd.returns (hb hby own_d_prog_71_method_13_53) (by decide) (by decide) e3 (⟨rfl, N3, K3, Ag_3⟩)
theorem own_ef_rmC4 (m : MethodId) (x0 : Addr) (x1 : Addr) : entryFrame m #[(.ref x0), (.ref x1)] 3 = mkF m 0 #[.val (.ref x0), .val (.ref x1), .unset] [] := by first | (simp [entryFrame, mkF, argsToLocals, Value.category]; done) | rfl
def R_rmC4 : Room := { frames := 0, cells := 0, slots := 0, locals := 0 }
def Q_rmC4 (Z : State) (d : Addr) (d_0 : Int64) (d_1 : Int64) (d_2 : Int64) (d_3 : Int64) (g : Addr) (g_0 : Int64) (g_1 : Int64) (g_2 : Int64) (g_3 : Int64) (h0 : Heap) (n0 : Nat) (v : Option Value) (h : Heap) (L : List Loc) : Prop := v = none ∧ Fr n0 L ∧ Keep h0 h [g] ∧ OArr Z h g .long 4 (fun j => .long ((own_L (0 : Int64) ([d_0, d_1, d_2, d_3] : List Int64)) j))
set_option maxRecDepth 65536 in
set_option maxHeartbeats 40000000 in
theorem rmC4 (l : Launch) (Z : State) (a0 : Array Value) (hw : ∀ d ∈ tables_1, d.before a0 Z = true) (ws : List Jvm.Cond) (d : Addr) (d_0 : Int64) (d_1 : Int64) (d_2 : Int64) (d_3 : Int64) (g : Addr) (g_0 : Int64) (g_1 : Int64) (g_2 : Int64) (g_3 : Int64) (h0 : Heap) (n0 : Nat) (Z0 : n0 ≤ h0.size) (A_d : OArr Z h0 d .long 4 (fun j => .long ((own_L (0 : Int64) ([d_0, d_1, d_2, d_3] : List Int64)) j))) (A_g : OArr Z h0 g .long 4 (fun j => .long ((own_L (0 : Int64) ([g_0, g_1, g_2, g_3] : List Int64)) j))) (g_g : n0 ≤ g) (ne_d_g : d ≠ g) :
    MetFree l (⟨"com/example/unify_to_cover/unifytocover/search/ValueSets", "copy", "([J[J)V"⟩ : MethodName) (head1 (Jvm.Cond.code (⟨"com/example/unify_to_cover/unifytocover/search/ValueSets", "copy", "([J[J)V"⟩ : MethodName) prog_71_method_13_code 3 none :: ws) R_rmC4) (fun vs_ U => vs_ = #[(.ref d), (.ref g)] ∧ Z.Warmed39 U.vm ∧ U.heap = h0) (fun _ _ _ _ _ => True) (fun _ U o U' => ∃ v L, o = .returned v ∧ Q_rmC4 Z d d_0 d_1 d_2 d_3 g g_0 g_1 g_2 g_3 h0 n0 v U'.heap L ∧ FrameEnd U o U' L R_rmC4.cells R_rmC4.slots) := by
  refine MetFree.of_bodySF (plainFor_of_name own_pn0) hisR ?_
  intro p e s m args below meth c s₁ Bd hml0 hP hK
  obtain ⟨rfl, hZ, hh⟩ := hP
  have hx := Bd.exec
  have hby := Bd.bytes
  have hml : c.maxLocals = 3 := hml0
  have hown : s.vm.findClass "com/example/unify_to_cover/unifytocover/search/ValueSets" = some m.cls := findClass_of_methodNamed Bd.named
  have hnm := (name_of_methodNamed Bd.named Bd.method).1
  have hlk : meth.locks = false := BodyLoose.notSynchronized Bd
  have X0 : Stand p l e R_rmC4 s m #[(.ref d), (.ref g)] below meth c s₁ [] 0 0 := Stand.of_body Bd
  have e0 : s₁.heap = h0 := by rw [← hh, Bd.state]; rfl
  have N0 := Fr.nil n0
  have K0 : Keep h0 h0 [g] := Keep.refl _ _
  refine OGo.en (Q := Q_rmC4 Z d d_0 d_1 d_2 d_3 g g_0 g_1 g_2 g_3 h0 n0) (C := R_rmC4.cells) (S := R_rmC4.slots) (own_ef_rmC4 m d g) ?_
  refine OGo.st (T' := s₁) (g' := (mkF m 1 #[.val (.ref d), .val (.ref g), .unset] [(.ref d)])) (fun _ k => (XS.aloadN X0.here hx rfl (hb hby own_d_prog_71_method_13_0) rfl rfl k)) ?_
  refine OGo.st (T' := s₁) (g' := (mkF m 9 #[.val (.ref d), .val (.ref g), .unset] [(.ref d), (.int (0 : Int32)), (.ref g)])) (fun _ k => (own_len X0 hx hZ e0 A_d (g := (mkF m 1 #[.val (.ref d), .val (.ref g), .unset] [(.ref d)])) rfl rfl (hb hby own_d_prog_71_method_13_1) _ (XS.iconst X0.here hx rfl (hb hby own_d_prog_71_method_13_2) (XS.icmpNo X0.here hx rfl (hb hby own_d_prog_71_method_13_3) rfl (flt (by decide : ¬ ((4 : Int32) < (2 : Int32)))).1 (XS.aloadN X0.here hx rfl (hb hby own_d_prog_71_method_13_6) rfl rfl (XS.iconst X0.here hx rfl (hb hby own_d_prog_71_method_13_7) (XS.aloadN X0.here hx rfl (hb hby own_d_prog_71_method_13_8) rfl rfl k))))))) ?_
  refine OGo.st (T' := s₁) (g' := (mkF m 10 #[.val (.ref d), .val (.ref g), .unset] [(.int (0 : Int32)), (.ref d), (.int (0 : Int32)), (.ref g)])) (fun _ k => (XS.iconst X0.here hx rfl (hb hby own_d_prog_71_method_13_9) k)) ?_
  refine OGo.st (T' := s₁) (g' := (mkF m 11 #[.val (.ref d), .val (.ref g), .unset] [(.long d_0), (.int (0 : Int32)), (.ref g)])) (fun _ k => (own_ldJ X0 hx hZ e0 A_d (j := (0 : Int32)) (i := 0) ⟨by decide, by decide⟩ (by decide) (g := (mkF m 10 #[.val (.ref d), .val (.ref g), .unset] [(.int (0 : Int32)), (.ref d), (.int (0 : Int32)), (.ref g)])) rfl rfl (hb hby own_d_prog_71_method_13_10) _ k)) ?_
  obtain ⟨T1, h1, X1, e1, W1, V1, st1⟩ := own_stJ X0 hx hZ e0 A_g (j := (0 : Int32)) (i := 0) ⟨by decide, by decide⟩ (by decide) (g := (mkF m 11 #[.val (.ref d), .val (.ref g), .unset] [(.long d_0), (.int (0 : Int32)), (.ref g)])) rfl rfl (hb hby own_d_prog_71_method_13_11)
  have Ag_1 : OArr Z h1 g .long 4 (fun j => .long ((own_L (0 : Int64) ([d_0, g_1, g_2, g_3] : List Int64)) j)) := V1.cast (fun j _ => (own_updJ _ _ _ j).trans (congrArg Value.long (own_L_set (0 : Int64) ([g_0, g_1, g_2, g_3] : List Int64) 0 d_0 (Nat.le_of_ble_eq_true rfl) j)))
  have N1 := Fr.snoc X1 N0 g_g
  have A_d_1 : OArr Z h1 d .long 4 (fun j => .long ((own_L (0 : Int64) ([d_0, d_1, d_2, d_3] : List Int64)) j)) := A_d.other W1 ne_d_g
  have Zn1 : n0 ≤ h1.size := Nat.le_trans Z0 (Nat.le_of_eq W1.size.symm)
  have K1 : Keep h0 h1 [g] := K0.wr W1 (Or.inl (List.mem_of_getElem? (i := 0) rfl))
  refine OGo.st (T' := T1) (g' := (mkF m 12 #[.val (.ref d), .val (.ref g), .unset] [])) (fun _ k => st1 _ k) ?_
  refine OGo.st (T' := T1) (g' := (mkF m 16 #[.val (.ref d), .val (.ref g), .unset] [(.int (1 : Int32)), (.ref d), (.int (1 : Int32)), (.ref g)])) (fun _ k => (XS.aloadN X1.here hx rfl (hb hby own_d_prog_71_method_13_12) rfl rfl (XS.iconst X1.here hx rfl (hb hby own_d_prog_71_method_13_13) (XS.aloadN X1.here hx rfl (hb hby own_d_prog_71_method_13_14) rfl rfl (XS.iconst X1.here hx rfl (hb hby own_d_prog_71_method_13_15) k))))) ?_
  refine OGo.st (T' := T1) (g' := (mkF m 17 #[.val (.ref d), .val (.ref g), .unset] [(.long d_1), (.int (1 : Int32)), (.ref g)])) (fun _ k => (own_ldJ X1 hx hZ e1 A_d_1 (j := (1 : Int32)) (i := 1) ⟨by decide, by decide⟩ (by decide) (g := (mkF m 16 #[.val (.ref d), .val (.ref g), .unset] [(.int (1 : Int32)), (.ref d), (.int (1 : Int32)), (.ref g)])) rfl rfl (hb hby own_d_prog_71_method_13_16) _ k)) ?_
  obtain ⟨T2, h2, X2, e2, W2, V2, st2⟩ := own_stJ X1 hx hZ e1 Ag_1 (j := (1 : Int32)) (i := 1) ⟨by decide, by decide⟩ (by decide) (g := (mkF m 17 #[.val (.ref d), .val (.ref g), .unset] [(.long d_1), (.int (1 : Int32)), (.ref g)])) rfl rfl (hb hby own_d_prog_71_method_13_17)
  have Ag_2 : OArr Z h2 g .long 4 (fun j => .long ((own_L (0 : Int64) ([d_0, d_1, g_2, g_3] : List Int64)) j)) := V2.cast (fun j _ => (own_updJ _ _ _ j).trans (congrArg Value.long (own_L_set (0 : Int64) ([d_0, g_1, g_2, g_3] : List Int64) 1 d_1 (Nat.le_of_ble_eq_true rfl) j)))
  have N2 := Fr.snoc X2 N1 g_g
  have A_d_2 : OArr Z h2 d .long 4 (fun j => .long ((own_L (0 : Int64) ([d_0, d_1, d_2, d_3] : List Int64)) j)) := A_d_1.other W2 ne_d_g
  have Zn2 : n0 ≤ h2.size := Nat.le_trans Zn1 (Nat.le_of_eq W2.size.symm)
  have K2 : Keep h0 h2 [g] := K1.wr W2 (Or.inl (List.mem_of_getElem? (i := 0) rfl))
  refine OGo.st (T' := T2) (g' := (mkF m 18 #[.val (.ref d), .val (.ref g), .unset] [])) (fun _ k => st2 _ k) ?_
  refine OGo.st (T' := T2) (g' := (mkF m 22 #[.val (.ref d), .val (.ref g), .val (.int (2 : Int32))] [(.ref d), (.int (2 : Int32))])) (fun _ k => (XS.iconst X2.here hx rfl (hb hby own_d_prog_71_method_13_18) (XS.istoreN X2.here hx rfl (hb hby own_d_prog_71_method_13_19) rfl (l' := #[.val (.ref d), .val (.ref g), .val (.int (2 : Int32))]) rfl (XS.iloadN X2.here hx rfl (hb hby own_d_prog_71_method_13_20) rfl (XS.aloadN X2.here hx rfl (hb hby own_d_prog_71_method_13_21) rfl rfl k))))) ?_
  refine OGo.st (T' := T2) (g' := (mkF m 30 #[.val (.ref d), .val (.ref g), .val (.int (2 : Int32))] [(.int (2 : Int32)), (.ref d), (.int (2 : Int32)), (.ref g)])) (fun _ k => (own_len X2 hx hZ e2 A_d_2 (g := (mkF m 22 #[.val (.ref d), .val (.ref g), .val (.int (2 : Int32))] [(.ref d), (.int (2 : Int32))])) rfl rfl (hb hby own_d_prog_71_method_13_22) _ (XS.icmpNo X2.here hx rfl (hb hby own_d_prog_71_method_13_23) rfl (tlt (by decide : (2 : Int32) < (4 : Int32))).2.1 (XS.aloadN X2.here hx rfl (hb hby own_d_prog_71_method_13_26) rfl rfl (XS.iloadN X2.here hx rfl (hb hby own_d_prog_71_method_13_27) rfl (XS.aloadN X2.here hx rfl (hb hby own_d_prog_71_method_13_28) rfl rfl (XS.iloadN X2.here hx rfl (hb hby own_d_prog_71_method_13_29) rfl k))))))) ?_
  refine OGo.st (T' := T2) (g' := (mkF m 31 #[.val (.ref d), .val (.ref g), .val (.int (2 : Int32))] [(.long d_2), (.int (2 : Int32)), (.ref g)])) (fun _ k => (own_ldJ X2 hx hZ e2 A_d_2 (j := (2 : Int32)) (i := 2) ⟨by decide, by decide⟩ (by decide) (g := (mkF m 30 #[.val (.ref d), .val (.ref g), .val (.int (2 : Int32))] [(.int (2 : Int32)), (.ref d), (.int (2 : Int32)), (.ref g)])) rfl rfl (hb hby own_d_prog_71_method_13_30) _ k)) ?_
  obtain ⟨T3, h3, X3, e3, W3, V3, st3⟩ := own_stJ X2 hx hZ e2 Ag_2 (j := (2 : Int32)) (i := 2) ⟨by decide, by decide⟩ (by decide) (g := (mkF m 31 #[.val (.ref d), .val (.ref g), .val (.int (2 : Int32))] [(.long d_2), (.int (2 : Int32)), (.ref g)])) rfl rfl (hb hby own_d_prog_71_method_13_31)
  have Ag_3 : OArr Z h3 g .long 4 (fun j => .long ((own_L (0 : Int64) ([d_0, d_1, d_2, g_3] : List Int64)) j)) := V3.cast (fun j _ => (own_updJ _ _ _ j).trans (congrArg Value.long (own_L_set (0 : Int64) ([d_0, d_1, g_2, g_3] : List Int64) 2 d_2 (Nat.le_of_ble_eq_true rfl) j)))
  have N3 := Fr.snoc X3 N2 g_g
  have A_d_3 : OArr Z h3 d .long 4 (fun j => .long ((own_L (0 : Int64) ([d_0, d_1, d_2, d_3] : List Int64)) j)) := A_d_2.other W3 ne_d_g
  have Zn3 : n0 ≤ h3.size := Nat.le_trans Zn2 (Nat.le_of_eq W3.size.symm)
  have K3 : Keep h0 h3 [g] := K2.wr W3 (Or.inl (List.mem_of_getElem? (i := 0) rfl))
  refine OGo.st (T' := T3) (g' := (mkF m 32 #[.val (.ref d), .val (.ref g), .val (.int (2 : Int32))] [])) (fun _ k => st3 _ k) ?_
  refine OGo.st (T' := T3) (g' := (mkF m 22 #[.val (.ref d), .val (.ref g), .val (.int (3 : Int32))] [(.ref d), (.int (3 : Int32))])) (fun _ k => (XS.iinc X3.here hx rfl (hb hby own_d_prog_71_method_13_32) rfl (l' := #[.val (.ref d), .val (.ref g), .val (.int (3 : Int32))]) rfl (XS.goto X3.here hx rfl (pc0 := 35) (pc' := 20) rfl (hb hby own_d_prog_71_method_13_35) (by decide) (by decide) (XS.iloadN X3.here hx rfl (hb hby own_d_prog_71_method_13_20) rfl (XS.aloadN X3.here hx rfl (hb hby own_d_prog_71_method_13_21) rfl rfl k))))) ?_
  refine OGo.st (T' := T3) (g' := (mkF m 30 #[.val (.ref d), .val (.ref g), .val (.int (3 : Int32))] [(.int (3 : Int32)), (.ref d), (.int (3 : Int32)), (.ref g)])) (fun _ k => (own_len X3 hx hZ e3 A_d_3 (g := (mkF m 22 #[.val (.ref d), .val (.ref g), .val (.int (3 : Int32))] [(.ref d), (.int (3 : Int32))])) rfl rfl (hb hby own_d_prog_71_method_13_22) _ (XS.icmpNo X3.here hx rfl (hb hby own_d_prog_71_method_13_23) rfl (tlt (by decide : (3 : Int32) < (4 : Int32))).2.1 (XS.aloadN X3.here hx rfl (hb hby own_d_prog_71_method_13_26) rfl rfl (XS.iloadN X3.here hx rfl (hb hby own_d_prog_71_method_13_27) rfl (XS.aloadN X3.here hx rfl (hb hby own_d_prog_71_method_13_28) rfl rfl (XS.iloadN X3.here hx rfl (hb hby own_d_prog_71_method_13_29) rfl k))))))) ?_
  refine OGo.st (T' := T3) (g' := (mkF m 31 #[.val (.ref d), .val (.ref g), .val (.int (3 : Int32))] [(.long d_3), (.int (3 : Int32)), (.ref g)])) (fun _ k => (own_ldJ X3 hx hZ e3 A_d_3 (j := (3 : Int32)) (i := 3) ⟨by decide, by decide⟩ (by decide) (g := (mkF m 30 #[.val (.ref d), .val (.ref g), .val (.int (3 : Int32))] [(.int (3 : Int32)), (.ref d), (.int (3 : Int32)), (.ref g)])) rfl rfl (hb hby own_d_prog_71_method_13_30) _ k)) ?_
  obtain ⟨T4, h4, X4, e4, W4, V4, st4⟩ := own_stJ X3 hx hZ e3 Ag_3 (j := (3 : Int32)) (i := 3) ⟨by decide, by decide⟩ (by decide) (g := (mkF m 31 #[.val (.ref d), .val (.ref g), .val (.int (3 : Int32))] [(.long d_3), (.int (3 : Int32)), (.ref g)])) rfl rfl (hb hby own_d_prog_71_method_13_31)
  have Ag_4 : OArr Z h4 g .long 4 (fun j => .long ((own_L (0 : Int64) ([d_0, d_1, d_2, d_3] : List Int64)) j)) := V4.cast (fun j _ => (own_updJ _ _ _ j).trans (congrArg Value.long (own_L_set (0 : Int64) ([d_0, d_1, d_2, g_3] : List Int64) 3 d_3 (Nat.le_of_ble_eq_true rfl) j)))
  have N4 := Fr.snoc X4 N3 g_g
  have A_d_4 : OArr Z h4 d .long 4 (fun j => .long ((own_L (0 : Int64) ([d_0, d_1, d_2, d_3] : List Int64)) j)) := A_d_3.other W4 ne_d_g
  have Zn4 : n0 ≤ h4.size := Nat.le_trans Zn3 (Nat.le_of_eq W4.size.symm)
  have K4 : Keep h0 h4 [g] := K3.wr W4 (Or.inl (List.mem_of_getElem? (i := 0) rfl))
  refine OGo.st (T' := T4) (g' := (mkF m 32 #[.val (.ref d), .val (.ref g), .val (.int (3 : Int32))] [])) (fun _ k => st4 _ k) ?_
  refine OGo.st (T' := T4) (g' := (mkF m 22 #[.val (.ref d), .val (.ref g), .val (.int (4 : Int32))] [(.ref d), (.int (4 : Int32))])) (fun _ k => (XS.iinc X4.here hx rfl (hb hby own_d_prog_71_method_13_32) rfl (l' := #[.val (.ref d), .val (.ref g), .val (.int (4 : Int32))]) rfl (XS.goto X4.here hx rfl (pc0 := 35) (pc' := 20) rfl (hb hby own_d_prog_71_method_13_35) (by decide) (by decide) (XS.iloadN X4.here hx rfl (hb hby own_d_prog_71_method_13_20) rfl (XS.aloadN X4.here hx rfl (hb hby own_d_prog_71_method_13_21) rfl rfl k))))) ?_
  refine OGo.st (T' := T4) (g' := (mkF m 53 #[.val (.ref d), .val (.ref g), .val (.int (4 : Int32))] [])) (fun _ k => (own_len X4 hx hZ e4 A_d_4 (g := (mkF m 22 #[.val (.ref d), .val (.ref g), .val (.int (4 : Int32))] [(.ref d), (.int (4 : Int32))])) rfl rfl (hb hby own_d_prog_71_method_13_22) _ (XS.icmpYes X4.here hx rfl (pc0 := 23) (pc' := 38) rfl (hb hby own_d_prog_71_method_13_23) rfl (flt (by decide : ¬ ((4 : Int32) < (4 : Int32)))).2.1 (by decide) (by decide) (XS.goto X4.here hx rfl (pc0 := 38) (pc' := 53) rfl (hb hby own_d_prog_71_method_13_38) (by decide) (by decide) k)))) ?_
  exact OGo.retV X4 hx hlk Bd.returns (hb hby own_d_prog_71_method_13_53) (by decide) (by decide) e4 (⟨rfl, N4, K4, Ag_4⟩)
theorem own_ef_rmON (m : MethodId) (x0 : Addr) (x1 : Addr) (x2 : Int32) (x3 : Int64) : entryFrame m #[(.ref x0), (.ref x1), (.int x2), (.long x3)] 5 = mkF m 0 #[.val (.ref x0), .val (.ref x1), .val (.int x2), .val (.long x3), .second] [] := by first | (simp [entryFrame, mkF, argsToLocals, Value.category]; done) | rfl
def R_rmON : Room := { frames := 0, cells := 0, slots := 0, locals := 0 }
def Q_rmON (Z : State) (d : Addr) (n_d : Nat) (f_d : Nat → Int64) (g : Addr) (q2 : Int32) (q3 : Int64) (h0 : Heap) (n0 : Nat) (v : Option Value) (h : Heap) (L : List Loc) : Prop := v = some (.int (1 : Int32)) ∧ Fr n0 L ∧ h = h0
set_option maxRecDepth 65536 in
set_option maxHeartbeats 40000000 in
theorem rmON (l : Launch) (Z : State) (a0 : Array Value) (hw : ∀ d ∈ tables_1, d.before a0 Z = true) (ws : List Jvm.Cond) (d : Addr) (n_d : Nat) (f_d : Nat → Int64) (g : Addr) (q2 : Int32) (q3 : Int64) (h0 : Heap) (n0 : Nat) (Z0 : n0 ≤ h0.size) (A_d : OArr Z h0 d .long n_d (fun j => .long (f_d j))) (hge : ¬ (q2 < (Int32.ofNat n_d))) :
    MetFree l (⟨"com/example/unify_to_cover/unifytocover/search/ValueSetsCopyPinLaw", "ok", "([J[JIJ)Z"⟩ : MethodName) (head1 (Jvm.Cond.code (⟨"com/example/unify_to_cover/unifytocover/search/ValueSetsCopyPinLaw", "ok", "([J[JIJ)Z"⟩ : MethodName) method_2_code 5 (some .boolean) :: ws) R_rmON) (fun vs_ U => vs_ = #[(.ref d), (.ref g), (.int q2), (.long q3)] ∧ Z.Warmed39 U.vm ∧ U.heap = h0) (fun _ _ _ _ _ => True) (fun _ U o U' => ∃ v L, o = .returned v ∧ Q_rmON Z d n_d f_d g q2 q3 h0 n0 v U'.heap L ∧ FrameEnd U o U' L R_rmON.cells R_rmON.slots) := by
  refine MetFree.of_bodySF (plainFor_of_name own_pn1) hisR ?_
  intro p e s m args below meth c s₁ Bd hml0 hP hK
  obtain ⟨rfl, hZ, hh⟩ := hP
  have hx := Bd.exec
  have hby := Bd.bytes
  have hml : c.maxLocals = 5 := hml0
  have hown : s.vm.findClass "com/example/unify_to_cover/unifytocover/search/ValueSetsCopyPinLaw" = some m.cls := findClass_of_methodNamed Bd.named
  have hnm := (name_of_methodNamed Bd.named Bd.method).1
  have hlk : meth.locks = false := BodyLoose.notSynchronized Bd
  have X0 : Stand p l e R_rmON s m #[(.ref d), (.ref g), (.int q2), (.long q3)] below meth c s₁ [] 0 0 := Stand.of_body Bd
  have e0 : s₁.heap = h0 := by rw [← hh, Bd.state]; rfl
  have N0 := Fr.nil n0
  refine OGo.en (Q := Q_rmON Z d n_d f_d g q2 q3 h0 n0) (C := R_rmON.cells) (S := R_rmON.slots) (own_ef_rmON m d g q2 q3) ?_
  refine OGo.st (T' := s₁) (g' := (mkF m 2 #[.val (.ref d), .val (.ref g), .val (.int q2), .val (.long q3), .second] [(.ref d), (.int q2)])) (fun _ k => (XS.iloadN X0.here hx rfl (hb hby own_d_method_2_0) rfl (XS.aloadN X0.here hx rfl (hb hby own_d_method_2_1) rfl rfl k))) ?_
  refine OGo.st (T' := s₁) (g' := (mkF m 7 #[.val (.ref d), .val (.ref g), .val (.int q2), .val (.long q3), .second] [(.int (1 : Int32))])) (fun _ k => (own_len X0 hx hZ e0 A_d (g := (mkF m 2 #[.val (.ref d), .val (.ref g), .val (.int q2), .val (.long q3), .second] [(.ref d), (.int q2)])) rfl rfl (hb hby own_d_method_2_2) _ (XS.icmpNo X0.here hx rfl (hb hby own_d_method_2_3) rfl (flt hge).1 (XS.iconst X0.here hx rfl (hb hby own_d_method_2_6) k)))) ?_
  exact OGo.ret X0 hx hlk Bd.returns rfl (own_rI (Or.inr (Or.inl rfl))) (hb hby own_d_method_2_7) (by decide) (by decide) e0 (⟨rfl, N0, rfl⟩)
theorem own_ef_rmOY (m : MethodId) (x0 : Addr) (x1 : Addr) (x2 : Int32) (x3 : Int64) : entryFrame m #[(.ref x0), (.ref x1), (.int x2), (.long x3)] 5 = mkF m 0 #[.val (.ref x0), .val (.ref x1), .val (.int x2), .val (.long x3), .second] [] := by first | (simp [entryFrame, mkF, argsToLocals, Value.category]; done) | rfl
def R_rmOY : Room := { frames := 0, cells := 0, slots := 0, locals := 0 }
def Q_rmOY (Z : State) (d : Addr) (n_d : Nat) (f_d : Nat → Int64) (g : Addr) (n_g : Nat) (f_g : Nat → Int64) (q2 : Int32) (q3 : Int64) (kk : Nat) (h0 : Heap) (n0 : Nat) (v : Option Value) (h : Heap) (L : List Loc) : Prop := v = some (.int (1 : Int32)) ∧ Fr n0 L ∧ h = h0
set_option maxRecDepth 65536 in
set_option maxHeartbeats 40000000 in
theorem rmOY (l : Launch) (Z : State) (a0 : Array Value) (hw : ∀ d ∈ tables_1, d.before a0 Z = true) (ws : List Jvm.Cond) (d : Addr) (n_d : Nat) (f_d : Nat → Int64) (g : Addr) (n_g : Nat) (f_g : Nat → Int64) (q2 : Int32) (q3 : Int64) (kk : Nat) (h0 : Heap) (n0 : Nat) (Z0 : n0 ≤ h0.size) (A_d : OArr Z h0 d .long n_d (fun j => .long (f_d j))) (A_g : OArr Z h0 g .long n_g (fun j => .long (f_g j))) (hlt : q2 < (Int32.ofNat n_d)) (hix : own_ix q2 kk) (hkd : kk < n_d) (hkg : kk < n_g) (hv1 : (f_d kk) = q3) (hv2 : (f_g kk) = q3) :
    MetFree l (⟨"com/example/unify_to_cover/unifytocover/search/ValueSetsCopyPinLaw", "ok", "([J[JIJ)Z"⟩ : MethodName) (head1 (Jvm.Cond.code (⟨"com/example/unify_to_cover/unifytocover/search/ValueSetsCopyPinLaw", "ok", "([J[JIJ)Z"⟩ : MethodName) method_2_code 5 (some .boolean) :: ws) R_rmOY) (fun vs_ U => vs_ = #[(.ref d), (.ref g), (.int q2), (.long q3)] ∧ Z.Warmed39 U.vm ∧ U.heap = h0) (fun _ _ _ _ _ => True) (fun _ U o U' => ∃ v L, o = .returned v ∧ Q_rmOY Z d n_d f_d g n_g f_g q2 q3 kk h0 n0 v U'.heap L ∧ FrameEnd U o U' L R_rmOY.cells R_rmOY.slots) := by
  refine MetFree.of_bodySF (plainFor_of_name own_pn1) hisR ?_
  intro p e s m args below meth c s₁ Bd hml0 hP hK
  obtain ⟨rfl, hZ, hh⟩ := hP
  have hx := Bd.exec
  have hby := Bd.bytes
  have hml : c.maxLocals = 5 := hml0
  have hown : s.vm.findClass "com/example/unify_to_cover/unifytocover/search/ValueSetsCopyPinLaw" = some m.cls := findClass_of_methodNamed Bd.named
  have hnm := (name_of_methodNamed Bd.named Bd.method).1
  have hlk : meth.locks = false := BodyLoose.notSynchronized Bd
  have X0 : Stand p l e R_rmOY s m #[(.ref d), (.ref g), (.int q2), (.long q3)] below meth c s₁ [] 0 0 := Stand.of_body Bd
  have e0 : s₁.heap = h0 := by rw [← hh, Bd.state]; rfl
  have N0 := Fr.nil n0
  refine OGo.en (Q := Q_rmOY Z d n_d f_d g n_g f_g q2 q3 kk h0 n0) (C := R_rmOY.cells) (S := R_rmOY.slots) (own_ef_rmOY m d g q2 q3) ?_
  refine OGo.st (T' := s₁) (g' := (mkF m 2 #[.val (.ref d), .val (.ref g), .val (.int q2), .val (.long q3), .second] [(.ref d), (.int q2)])) (fun _ k => (XS.iloadN X0.here hx rfl (hb hby own_d_method_2_0) rfl (XS.aloadN X0.here hx rfl (hb hby own_d_method_2_1) rfl rfl k))) ?_
  refine OGo.st (T' := s₁) (g' := (mkF m 10 #[.val (.ref d), .val (.ref g), .val (.int q2), .val (.long q3), .second] [(.int q2), (.ref d)])) (fun _ k => (own_len X0 hx hZ e0 A_d (g := (mkF m 2 #[.val (.ref d), .val (.ref g), .val (.int q2), .val (.long q3), .second] [(.ref d), (.int q2)])) rfl rfl (hb hby own_d_method_2_2) _ (XS.icmpYes X0.here hx rfl (pc0 := 3) (pc' := 8) rfl (hb hby own_d_method_2_3) rfl (tlt hlt).1 (by decide) (by decide) (XS.aloadN X0.here hx rfl (hb hby own_d_method_2_8) rfl rfl (XS.iloadN X0.here hx rfl (hb hby own_d_method_2_9) rfl k))))) ?_
  refine OGo.st (T' := s₁) (g' := (mkF m 11 #[.val (.ref d), .val (.ref g), .val (.int q2), .val (.long q3), .second] [(.long (f_d kk))])) (fun _ k => (own_ldJ X0 hx hZ e0 A_d (j := q2) (i := kk) hix hkd (g := (mkF m 10 #[.val (.ref d), .val (.ref g), .val (.int q2), .val (.long q3), .second] [(.int q2), (.ref d)])) rfl rfl (hb hby own_d_method_2_10) _ k)) ?_
  refine OGo.st (T' := s₁) (g' := (mkF m 18 #[.val (.ref d), .val (.ref g), .val (.int q2), .val (.long q3), .second] [(.int q2), (.ref g)])) (fun _ k => (XS.lloadN X0.here hx rfl (hb hby own_d_method_2_11) rfl (XS.lcmp X0.here hx rfl (hb hby own_d_method_2_12) rfl (XS.ifNo X0.here hx rfl (hb hby own_d_method_2_13) rfl ((if0 _ _).trans (teq ((lw_eq (f_d kk) q3).mpr hv1)).2) (XS.aloadN X0.here hx rfl (hb hby own_d_method_2_16) rfl rfl (XS.iloadN X0.here hx rfl (hb hby own_d_method_2_17) rfl k)))))) ?_
  refine OGo.st (T' := s₁) (g' := (mkF m 19 #[.val (.ref d), .val (.ref g), .val (.int q2), .val (.long q3), .second] [(.long (f_g kk))])) (fun _ k => (own_ldJ X0 hx hZ e0 A_g (j := q2) (i := kk) hix hkg (g := (mkF m 18 #[.val (.ref d), .val (.ref g), .val (.int q2), .val (.long q3), .second] [(.int q2), (.ref g)])) rfl rfl (hb hby own_d_method_2_18) _ k)) ?_
  refine OGo.st (T' := s₁) (g' := (mkF m 29 #[.val (.ref d), .val (.ref g), .val (.int q2), .val (.long q3), .second] [(.int (1 : Int32))])) (fun _ k => (XS.lloadN X0.here hx rfl (hb hby own_d_method_2_19) rfl (XS.lcmp X0.here hx rfl (hb hby own_d_method_2_20) rfl (XS.ifNo X0.here hx rfl (hb hby own_d_method_2_21) rfl ((if0 _ _).trans (teq ((lw_eq (f_g kk) q3).mpr hv2)).2) (XS.iconst X0.here hx rfl (hb hby own_d_method_2_24) (XS.goto X0.here hx rfl (pc0 := 25) (pc' := 29) rfl (hb hby own_d_method_2_25) (by decide) (by decide) k)))))) ?_
  exact OGo.ret X0 hx hlk Bd.returns rfl (own_rI (Or.inr (Or.inl rfl))) (hb hby own_d_method_2_29) (by decide) (by decide) e0 (⟨rfl, N0, rfl⟩)
theorem own_ef_rm0 (m : MethodId) (x0 : Int64) (x1 : Int64) (x2 : Int64) (x3 : Int64) (x4 : Int64) (x5 : Int32) : entryFrame m #[(.long x0), (.long x1), (.long x2), (.long x3), (.long x4), (.int x5)] maxLocals = mkF m 0 #[.val (.long x0), .second, .val (.long x1), .second, .val (.long x2), .second, .val (.long x3), .second, .val (.long x4), .second, .val (.int x5), .unset, .unset, .unset] [] := by first | (simp [entryFrame, mkF, argsToLocals, Value.category, maxLocals]; done) | rfl
def Q_rm0 (Z : State) (p0 : Int64) (p1 : Int64) (p2 : Int64) (p3 : Int64) (p4 : Int64) (p5 : Int32) (h0 : Heap) (n0 : Nat) (v : Option Value) (h : Heap) (L : List Loc) : Prop := v = some (.int 1) ∧ Fr n0 L
set_option maxRecDepth 65536 in
set_option maxHeartbeats 40000000 in
theorem rm0 (l : Launch) (Z : State) (a0 : Array Value) (hw : ∀ d ∈ tables_1, d.before a0 Z = true) (ws : List Jvm.Cond) (p0 : Int64) (p1 : Int64) (p2 : Int64) (p3 : Int64) (p4 : Int64) (p5 : Int32) (h0 : Heap) (n0 : Nat) (Z0 : n0 ≤ h0.size) :
    MetFree l x (head1 (Jvm.Cond.code x code maxLocals ret :: ws) room_1) (fun vs_ U => vs_ = #[(.long p0), (.long p1), (.long p2), (.long p3), (.long p4), (.int p5)] ∧ Z.Warmed39 U.vm ∧ U.heap = h0) (fun _ _ _ _ _ => True) (fun _ U o U' => ∃ v L, o = .returned v ∧ Q_rm0 Z p0 p1 p2 p3 p4 p5 h0 n0 v U'.heap L ∧ FrameEnd U o U' L 16 128) := by
  refine MetFree.of_bodySF (plainFor_of_name own_pn1) hisR ?_
  intro p e s m args below meth c s₁ Bd hml0 hP hK
  obtain ⟨rfl, hZ, hh⟩ := hP
  have hx := Bd.exec
  have hby := Bd.bytes
  have hml : c.maxLocals = 14 := hml0
  have hown : s.vm.findClass "com/example/unify_to_cover/unifytocover/search/ValueSetsCopyPinLaw" = some m.cls := findClass_of_methodNamed Bd.named
  have hnm := (name_of_methodNamed Bd.named Bd.method).1
  have hlk : meth.locks = false := BodyLoose.notSynchronized Bd
  have X0 : Stand p l e room_1 s m #[(.long p0), (.long p1), (.long p2), (.long p3), (.long p4), (.int p5)] below meth c s₁ [] 0 0 := Stand.of_body Bd
  have e0 : s₁.heap = h0 := by rw [← hh, Bd.state]; rfl
  have N0 := Fr.nil n0
  refine OGo.en (Q := Q_rm0 Z p0 p1 p2 p3 p4 p5 h0 n0) (C := 16) (S := 128) (own_ef_rm0 m p0 p1 p2 p3 p4 p5) ?_
  refine OGo.st (T' := s₁) (g' := (mkF m 9 #[.val (.long p0), .second, .val (.long p1), .second, .val (.long p2), .second, .val (.long p3), .second, .val (.long p4), .second, .val (.int p5), .val (.int ((p5 &&& (7 : Int32)) % (5 : Int32))), .unset, .unset] [])) (fun _ k => (XS.iload X0.here hx rfl (hb hby at_0) rfl (XS.bipush X0.here hx rfl (hb hby at_2) (XS.iand X0.here hx rfl (hb hby at_4) rfl (XS.iconst X0.here hx rfl (hb hby at_5) (iremM X0 hx rfl (hb hby at_6) rfl (by decide) (XS.istore X0.here hx rfl (hb hby at_7) rfl (l' := #[.val (.long p0), .second, .val (.long p1), .second, .val (.long p2), .second, .val (.long p3), .second, .val (.long p4), .second, .val (.int p5), .val (.int ((p5 &&& (7 : Int32)) % (5 : Int32))), .unset, .unset]) rfl k))))))) ?_
  rcases own_mod5 (p5 &&& (7 : Int32)) (own_and32 _ _ (by decide)) with hl1 | hl1 | hl1 | hl1 | hl1
  · rw [hl1]
    refine OGo.st (T' := s₁) (g' := (mkF m 11 #[.val (.long p0), .second, .val (.long p1), .second, .val (.long p2), .second, .val (.long p3), .second, .val (.long p4), .second, .val (.int p5), .val (.int (0 : Int32)), .unset, .unset] [(.int (0 : Int32))])) (fun _ k => (XS.iload X0.here hx rfl (hb hby at_9) rfl k)) ?_
    obtain ⟨T2, h2, b2, g2, X2, e2, E2, V2, st2⟩ := own_newA X0 hx hZ (hw _ (List.mem_of_getElem? (i := 0) rfl)) e0 (g := (mkF m 11 #[.val (.long p0), .second, .val (.long p1), .second, .val (.long p2), .second, .val (.long p3), .second, .val (.long p4), .second, .val (.int p5), .val (.int (0 : Int32)), .unset, .unset] [(.int (0 : Int32))])) rfl (hb hby at_11) rfl (n := 0) ⟨by decide, by decide⟩ (cap := 0) (by decide) (by decide) (by decide) (by decide)
    have g_b2 : n0 ≤ b2 := Nat.le_trans Z0 (Nat.le_of_eq g2.symm)
    have A2 : OArr Z h2 b2 .long 0 (fun j => .long ((own_L (0 : Int64) ([] : List Int64)) j)) := OArr.cast V2 (fun j _ => congrArg Value.long (own_L_rep (0 : Int64) 0 j))
    have Zn2 : n0 ≤ h2.size := Nat.le_trans Z0 E2.1
    have X2 : Stand p l e room_1 s m _ below meth c T2 _ 1 0 := X2
    refine OGo.st (T' := T2) (g' := (mkF m 13 #[.val (.long p0), .second, .val (.long p1), .second, .val (.long p2), .second, .val (.long p3), .second, .val (.long p4), .second, .val (.int p5), .val (.int (0 : Int32)), .unset, .unset] [(.ref b2)])) (fun _ k => st2 _ k) ?_
    refine OGo.st (T' := T2) (g' := (mkF m 17 #[.val (.long p0), .second, .val (.long p1), .second, .val (.long p2), .second, .val (.long p3), .second, .val (.long p4), .second, .val (.int p5), .val (.int (0 : Int32)), .val (.ref b2), .unset] [(.int (0 : Int32))])) (fun _ k => (XS.astore X2.here hx rfl (hb hby at_13) rfl rfl (l' := #[.val (.long p0), .second, .val (.long p1), .second, .val (.long p2), .second, .val (.long p3), .second, .val (.long p4), .second, .val (.int p5), .val (.int (0 : Int32)), .val (.ref b2), .unset]) rfl (XS.iload X2.here hx rfl (hb hby at_15) rfl k))) ?_
    obtain ⟨T3, h3, b3, g3, X3, e3, E3, V3, st3⟩ := own_newA X2 hx hZ (hw _ (List.mem_of_getElem? (i := 0) rfl)) e2 (g := (mkF m 17 #[.val (.long p0), .second, .val (.long p1), .second, .val (.long p2), .second, .val (.long p3), .second, .val (.long p4), .second, .val (.int p5), .val (.int (0 : Int32)), .val (.ref b2), .unset] [(.int (0 : Int32))])) rfl (hb hby at_17) rfl (n := 0) ⟨by decide, by decide⟩ (cap := 0) (by decide) (by decide) (by decide) (by decide)
    have ne_b2_b3 : b2 ≠ b3 := Nat.ne_of_lt (Nat.lt_of_lt_of_le A2.lt (Nat.le_of_eq g3.symm))
    have g_b3 : n0 ≤ b3 := Nat.le_trans Zn2 (Nat.le_of_eq g3.symm)
    have A3 : OArr Z h3 b3 .long 0 (fun j => .long ((own_L (0 : Int64) ([] : List Int64)) j)) := OArr.cast V3 (fun j _ => congrArg Value.long (own_L_rep (0 : Int64) 0 j))
    have A2_3 : OArr Z h3 b2 .long 0 (fun j => .long ((own_L (0 : Int64) ([] : List Int64)) j)) := A2.ext E3
    have Zn3 : n0 ≤ h3.size := Nat.le_trans Zn2 E3.1
    have X3 : Stand p l e room_1 s m _ below meth c T3 _ 2 0 := X3
    refine OGo.st (T' := T3) (g' := (mkF m 19 #[.val (.long p0), .second, .val (.long p1), .second, .val (.long p2), .second, .val (.long p3), .second, .val (.long p4), .second, .val (.int p5), .val (.int (0 : Int32)), .val (.ref b2), .unset] [(.ref b3)])) (fun _ k => st3 _ k) ?_
    refine OGo.st (T' := T3) (g' := (mkF m 54 #[.val (.long p0), .second, .val (.long p1), .second, .val (.long p2), .second, .val (.long p3), .second, .val (.long p4), .second, .val (.int p5), .val (.int (0 : Int32)), .val (.ref b2), .val (.ref b3)] [])) (fun _ k => (XS.astore X3.here hx rfl (hb hby at_19) rfl rfl (l' := #[.val (.long p0), .second, .val (.long p1), .second, .val (.long p2), .second, .val (.long p3), .second, .val (.long p4), .second, .val (.int p5), .val (.int (0 : Int32)), .val (.ref b2), .val (.ref b3)]) rfl (XS.iload X3.here hx rfl (hb hby at_21) rfl (XS.ifYes X3.here hx rfl (pc0 := 23) (pc' := 37) rfl (hb hby at_23) rfl ((if0 _ _).trans (flt (by decide : ¬ ((0 : Int32) < (0 : Int32)))).2.2.2) (by decide) (by decide) (XS.iload X3.here hx rfl (hb hby at_37) rfl (XS.iconst X3.here hx rfl (hb hby at_39) (XS.icmpYes X3.here hx rfl (pc0 := 40) (pc' := 54) rfl (hb hby at_40) rfl (flt (by decide : ¬ ((1 : Int32) < (0 : Int32)))).2.2.2 (by decide) (by decide) k))))))) ?_
    refine OGo.st (T' := T3) (g' := (mkF m 90 #[.val (.long p0), .second, .val (.long p1), .second, .val (.long p2), .second, .val (.long p3), .second, .val (.long p4), .second, .val (.int p5), .val (.int (0 : Int32)), .val (.ref b2), .val (.ref b3)] [])) (fun _ k => (XS.iload X3.here hx rfl (hb hby at_54) rfl (XS.iconst X3.here hx rfl (hb hby at_56) (XS.icmpYes X3.here hx rfl (pc0 := 57) (pc' := 72) rfl (hb hby at_57) rfl (flt (by decide : ¬ ((2 : Int32) < (0 : Int32)))).2.2.2 (by decide) (by decide) (XS.iload X3.here hx rfl (hb hby at_72) rfl (XS.iconst X3.here hx rfl (hb hby at_74) (XS.icmpYes X3.here hx rfl (pc0 := 75) (pc' := 90) rfl (hb hby at_75) rfl (flt (by decide : ¬ ((3 : Int32) < (0 : Int32)))).2.2.2 (by decide) (by decide) k))))))) ?_
    refine OGo.st (T' := T3) (g' := (mkF m 94 #[.val (.long p0), .second, .val (.long p1), .second, .val (.long p2), .second, .val (.long p3), .second, .val (.long p4), .second, .val (.int p5), .val (.int (0 : Int32)), .val (.ref b2), .val (.ref b3)] [(.ref b3), (.ref b2)])) (fun _ k => (XS.aload X3.here hx rfl (hb hby at_90) rfl rfl (XS.aload X3.here hx rfl (hb hby at_92) rfl rfl k))) ?_
    obtain ⟨_, _, ⟨T4, L4, k4, n4⟩, -, X4, ⟨Lc4, hQ4, l4, y4, z4⟩, st4⟩ := Jvm.LawKit.callS X3 hx (y := (⟨"com/example/unify_to_cover/unifytocover/search/ValueSets", "copy", "([J[J)V"⟩ : MethodName)) hown (mvT hZ (hw _ (List.mem_of_getElem? (i := 1) rfl))) (mvT hZ (hw _ (List.mem_of_getElem? (i := 2) rfl))) (mvT hZ (hw _ (List.mem_of_getElem? (i := 3) rfl))) (mvT hZ (hw _ (List.mem_of_getElem? (i := 4) rfl))) (by decide) (backOf (W := 0) (rmC0 l Z a0 hw [] (b2) (b3) h3 n0 Zn3 (A2_3) (A3) (g_b3) (ne_b2_b3)) hZ (hw _ (List.mem_of_getElem? (i := 4) rfl)) (hw _ (List.mem_of_getElem? (i := 3) rfl)) (by decide) (by decide)) (g := (mkF m 94 #[.val (.long p0), .second, .val (.long p1), .second, .val (.long p2), .second, .val (.long p3), .second, .val (.long p4), .second, .val (.int p5), .val (.int (0 : Int32)), .val (.ref b2), .val (.ref b3)] [(.ref b3), (.ref b2)])) rfl (by rw [hml]; rfl) (argsL := [(.ref b2), (.ref b3)]) (rest := []) (lenOf own_pd1 rfl) rfl (by show 2 * 0 + _ ≤ _; exact Nat.le_of_eq rfl) (hb hby at_94) (fun _ _ => ⟨rfl, e3, (by decide : 2 + 0 ≤ _), (by decide : 0 + 0 ≤ _)⟩)
    dsimp only [Pt.U, Pt.locs, Pt.cells, Pt.slots] at X4 l4 y4 z4 st4 hQ4
    subst l4 y4 z4
    have X4 : Stand p l e room_1 s m _ below meth c T4 _ 2 0 := X4
    obtain ⟨rfl, Nq4, e4⟩ := hQ4
    have N4 := Fr.app N0 Nq4
    refine OGo.st (T' := T4) (g' := (mkF m 97 #[.val (.long p0), .second, .val (.long p1), .second, .val (.long p2), .second, .val (.long p3), .second, .val (.long p4), .second, .val (.int p5), .val (.int (0 : Int32)), .val (.ref b2), .val (.ref b3)] [])) (fun _ k => st4 _ k) ?_
    refine OGo.st (T' := T4) (g' := (mkF m 99 #[.val (.long p0), .second, .val (.long p1), .second, .val (.long p2), .second, .val (.long p3), .second, .val (.long p4), .second, .val (.int p5), .val (.int (0 : Int32)), .val (.ref b2), .val (.ref b3)] [(.ref b2)])) (fun _ k => (XS.aload X4.here hx rfl (hb hby at_97) rfl rfl k)) ?_
    refine OGo.st (T' := T4) (g' := (mkF m 107 #[.val (.long p0), .second, .val (.long p1), .second, .val (.long p2), .second, .val (.long p3), .second, .val (.long p4), .second, .val (.int p5), .val (.int (0 : Int32)), .val (.ref b2), .val (.ref b3)] [(.ref b3)])) (fun _ k => (own_len X4 hx hZ e4 A2_3 (g := (mkF m 99 #[.val (.long p0), .second, .val (.long p1), .second, .val (.long p2), .second, .val (.long p3), .second, .val (.long p4), .second, .val (.int p5), .val (.int (0 : Int32)), .val (.ref b2), .val (.ref b3)] [(.ref b2)])) rfl rfl (hb hby at_99) _ (XS.iload X4.here hx rfl (hb hby at_100) rfl (XS.icmpNo X4.here hx rfl (hb hby at_102) rfl (teq (by decide : (0 : Int32) = (0 : Int32))).2 (XS.aload X4.here hx rfl (hb hby at_105) rfl rfl k))))) ?_
    refine OGo.st (T' := T4) (g' := (mkF m 118 #[.val (.long p0), .second, .val (.long p1), .second, .val (.long p2), .second, .val (.long p3), .second, .val (.long p4), .second, .val (.int p5), .val (.int (0 : Int32)), .val (.ref b2), .val (.ref b3)] [(.int (0 : Int32)), (.ref b3), (.ref b2)])) (fun _ k => (own_len X4 hx hZ e4 A3 (g := (mkF m 107 #[.val (.long p0), .second, .val (.long p1), .second, .val (.long p2), .second, .val (.long p3), .second, .val (.long p4), .second, .val (.int p5), .val (.int (0 : Int32)), .val (.ref b2), .val (.ref b3)] [(.ref b3)])) rfl rfl (hb hby at_107) _ (XS.iload X4.here hx rfl (hb hby at_108) rfl (XS.icmpNo X4.here hx rfl (hb hby at_110) rfl (teq (by decide : (0 : Int32) = (0 : Int32))).2 (XS.aload X4.here hx rfl (hb hby at_113) rfl rfl (XS.aload X4.here hx rfl (hb hby at_115) rfl rfl (XS.iconst X4.here hx rfl (hb hby at_117) k))))))) ?_
    refine OGo.st (T' := T4) (g' := (mkF m 119 #[.val (.long p0), .second, .val (.long p1), .second, .val (.long p2), .second, .val (.long p3), .second, .val (.long p4), .second, .val (.int p5), .val (.int (0 : Int32)), .val (.ref b2), .val (.ref b3)] [(.long p0), (.int (0 : Int32)), (.ref b3), (.ref b2)])) (fun _ k => (XS.lloadN X4.here hx rfl (hb hby at_118) rfl k)) ?_
    obtain ⟨_, _, ⟨T5, L5, k5, n5⟩, -, X5, ⟨Lc5, hQ5, l5, y5, z5⟩, st5⟩ := Jvm.LawKit.callS X4 hx (y := (⟨"com/example/unify_to_cover/unifytocover/search/ValueSetsCopyPinLaw", "ok", "([J[JIJ)Z"⟩ : MethodName)) hown (mvT hZ (hw _ (List.mem_of_getElem? (i := 5) rfl))) (mvT hZ (hw _ (List.mem_of_getElem? (i := 6) rfl))) (mvT hZ (hw _ (List.mem_of_getElem? (i := 7) rfl))) (mvT hZ (hw _ (List.mem_of_getElem? (i := 8) rfl))) (by decide) (backOf (W := 0) (rmON l Z a0 hw [] (b2) (0) ((own_L (0 : Int64) ([] : List Int64))) (b3) ((0 : Int32)) (p0) h3 n0 Zn3 (A2_3) (by decide)) hZ (hw _ (List.mem_of_getElem? (i := 8) rfl)) (hw _ (List.mem_of_getElem? (i := 7) rfl)) (by decide) (by decide)) (g := (mkF m 119 #[.val (.long p0), .second, .val (.long p1), .second, .val (.long p2), .second, .val (.long p3), .second, .val (.long p4), .second, .val (.int p5), .val (.int (0 : Int32)), .val (.ref b2), .val (.ref b3)] [(.long p0), (.int (0 : Int32)), (.ref b3), (.ref b2)])) rfl (by rw [hml]; rfl) (argsL := [(.ref b2), (.ref b3), (.int (0 : Int32)), (.long p0)]) (rest := []) (lenOf own_pd2 rfl) rfl (by show 2 * 0 + _ ≤ _; exact Nat.le_of_eq rfl) (hb hby at_119) (fun _ _ => ⟨rfl, e4, (by decide : 2 + 0 ≤ _), (by decide : 0 + 0 ≤ _)⟩)
    dsimp only [Pt.U, Pt.locs, Pt.cells, Pt.slots] at X5 l5 y5 z5 st5 hQ5
    subst l5 y5 z5
    have X5 : Stand p l e room_1 s m _ below meth c T5 _ 2 0 := X5
    obtain ⟨rfl, Nq5, e5⟩ := hQ5
    have N5 := Fr.app N4 Nq5
    refine OGo.st (T' := T5) (g' := (mkF m 122 #[.val (.long p0), .second, .val (.long p1), .second, .val (.long p2), .second, .val (.long p3), .second, .val (.long p4), .second, .val (.int p5), .val (.int (0 : Int32)), .val (.ref b2), .val (.ref b3)] [(.int (1 : Int32))])) (fun _ k => st5 _ k) ?_
    refine OGo.st (T' := T5) (g' := (mkF m 131 #[.val (.long p0), .second, .val (.long p1), .second, .val (.long p2), .second, .val (.long p3), .second, .val (.long p4), .second, .val (.int p5), .val (.int (0 : Int32)), .val (.ref b2), .val (.ref b3)] [(.long p1), (.int (1 : Int32)), (.ref b3), (.ref b2)])) (fun _ k => (XS.ifNo X5.here hx rfl (hb hby at_122) rfl ((if0 _ _).trans (feq (by decide : ¬ ((1 : Int32) = (0 : Int32)))).1) (XS.aload X5.here hx rfl (hb hby at_125) rfl rfl (XS.aload X5.here hx rfl (hb hby at_127) rfl rfl (XS.iconst X5.here hx rfl (hb hby at_129) (XS.lloadN X5.here hx rfl (hb hby at_130) rfl k)))))) ?_
    obtain ⟨_, _, ⟨T6, L6, k6, n6⟩, -, X6, ⟨Lc6, hQ6, l6, y6, z6⟩, st6⟩ := Jvm.LawKit.callS X5 hx (y := (⟨"com/example/unify_to_cover/unifytocover/search/ValueSetsCopyPinLaw", "ok", "([J[JIJ)Z"⟩ : MethodName)) hown (mvT hZ (hw _ (List.mem_of_getElem? (i := 5) rfl))) (mvT hZ (hw _ (List.mem_of_getElem? (i := 6) rfl))) (mvT hZ (hw _ (List.mem_of_getElem? (i := 7) rfl))) (mvT hZ (hw _ (List.mem_of_getElem? (i := 8) rfl))) (by decide) (backOf (W := 0) (rmON l Z a0 hw [] (b2) (0) ((own_L (0 : Int64) ([] : List Int64))) (b3) ((1 : Int32)) (p1) h3 n0 Zn3 (A2_3) (by decide)) hZ (hw _ (List.mem_of_getElem? (i := 8) rfl)) (hw _ (List.mem_of_getElem? (i := 7) rfl)) (by decide) (by decide)) (g := (mkF m 131 #[.val (.long p0), .second, .val (.long p1), .second, .val (.long p2), .second, .val (.long p3), .second, .val (.long p4), .second, .val (.int p5), .val (.int (0 : Int32)), .val (.ref b2), .val (.ref b3)] [(.long p1), (.int (1 : Int32)), (.ref b3), (.ref b2)])) rfl (by rw [hml]; rfl) (argsL := [(.ref b2), (.ref b3), (.int (1 : Int32)), (.long p1)]) (rest := []) (lenOf own_pd2 rfl) rfl (by show 2 * 0 + _ ≤ _; exact Nat.le_of_eq rfl) (hb hby at_131) (fun _ _ => ⟨rfl, e5, (by decide : 2 + 0 ≤ _), (by decide : 0 + 0 ≤ _)⟩)
    dsimp only [Pt.U, Pt.locs, Pt.cells, Pt.slots] at X6 l6 y6 z6 st6 hQ6
    subst l6 y6 z6
    have X6 : Stand p l e room_1 s m _ below meth c T6 _ 2 0 := X6
    obtain ⟨rfl, Nq6, e6⟩ := hQ6
    have N6 := Fr.app N5 Nq6
    refine OGo.st (T' := T6) (g' := (mkF m 134 #[.val (.long p0), .second, .val (.long p1), .second, .val (.long p2), .second, .val (.long p3), .second, .val (.long p4), .second, .val (.int p5), .val (.int (0 : Int32)), .val (.ref b2), .val (.ref b3)] [(.int (1 : Int32))])) (fun _ k => st6 _ k) ?_
    refine OGo.st (T' := T6) (g' := (mkF m 144 #[.val (.long p0), .second, .val (.long p1), .second, .val (.long p2), .second, .val (.long p3), .second, .val (.long p4), .second, .val (.int p5), .val (.int (0 : Int32)), .val (.ref b2), .val (.ref b3)] [(.long p2), (.int (2 : Int32)), (.ref b3), (.ref b2)])) (fun _ k => (XS.ifNo X6.here hx rfl (hb hby at_134) rfl ((if0 _ _).trans (feq (by decide : ¬ ((1 : Int32) = (0 : Int32)))).1) (XS.aload X6.here hx rfl (hb hby at_137) rfl rfl (XS.aload X6.here hx rfl (hb hby at_139) rfl rfl (XS.iconst X6.here hx rfl (hb hby at_141) (XS.lload X6.here hx rfl (hb hby at_142) rfl k)))))) ?_
    obtain ⟨_, _, ⟨T7, L7, k7, n7⟩, -, X7, ⟨Lc7, hQ7, l7, y7, z7⟩, st7⟩ := Jvm.LawKit.callS X6 hx (y := (⟨"com/example/unify_to_cover/unifytocover/search/ValueSetsCopyPinLaw", "ok", "([J[JIJ)Z"⟩ : MethodName)) hown (mvT hZ (hw _ (List.mem_of_getElem? (i := 5) rfl))) (mvT hZ (hw _ (List.mem_of_getElem? (i := 6) rfl))) (mvT hZ (hw _ (List.mem_of_getElem? (i := 7) rfl))) (mvT hZ (hw _ (List.mem_of_getElem? (i := 8) rfl))) (by decide) (backOf (W := 0) (rmON l Z a0 hw [] (b2) (0) ((own_L (0 : Int64) ([] : List Int64))) (b3) ((2 : Int32)) (p2) h3 n0 Zn3 (A2_3) (by decide)) hZ (hw _ (List.mem_of_getElem? (i := 8) rfl)) (hw _ (List.mem_of_getElem? (i := 7) rfl)) (by decide) (by decide)) (g := (mkF m 144 #[.val (.long p0), .second, .val (.long p1), .second, .val (.long p2), .second, .val (.long p3), .second, .val (.long p4), .second, .val (.int p5), .val (.int (0 : Int32)), .val (.ref b2), .val (.ref b3)] [(.long p2), (.int (2 : Int32)), (.ref b3), (.ref b2)])) rfl (by rw [hml]; rfl) (argsL := [(.ref b2), (.ref b3), (.int (2 : Int32)), (.long p2)]) (rest := []) (lenOf own_pd2 rfl) rfl (by show 2 * 0 + _ ≤ _; exact Nat.le_of_eq rfl) (hb hby at_144) (fun _ _ => ⟨rfl, e6, (by decide : 2 + 0 ≤ _), (by decide : 0 + 0 ≤ _)⟩)
    dsimp only [Pt.U, Pt.locs, Pt.cells, Pt.slots] at X7 l7 y7 z7 st7 hQ7
    subst l7 y7 z7
    have X7 : Stand p l e room_1 s m _ below meth c T7 _ 2 0 := X7
    obtain ⟨rfl, Nq7, e7⟩ := hQ7
    have N7 := Fr.app N6 Nq7
    refine OGo.st (T' := T7) (g' := (mkF m 147 #[.val (.long p0), .second, .val (.long p1), .second, .val (.long p2), .second, .val (.long p3), .second, .val (.long p4), .second, .val (.int p5), .val (.int (0 : Int32)), .val (.ref b2), .val (.ref b3)] [(.int (1 : Int32))])) (fun _ k => st7 _ k) ?_
    refine OGo.st (T' := T7) (g' := (mkF m 157 #[.val (.long p0), .second, .val (.long p1), .second, .val (.long p2), .second, .val (.long p3), .second, .val (.long p4), .second, .val (.int p5), .val (.int (0 : Int32)), .val (.ref b2), .val (.ref b3)] [(.long p3), (.int (3 : Int32)), (.ref b3), (.ref b2)])) (fun _ k => (XS.ifNo X7.here hx rfl (hb hby at_147) rfl ((if0 _ _).trans (feq (by decide : ¬ ((1 : Int32) = (0 : Int32)))).1) (XS.aload X7.here hx rfl (hb hby at_150) rfl rfl (XS.aload X7.here hx rfl (hb hby at_152) rfl rfl (XS.iconst X7.here hx rfl (hb hby at_154) (XS.lload X7.here hx rfl (hb hby at_155) rfl k)))))) ?_
    obtain ⟨_, _, ⟨T8, L8, k8, n8⟩, -, X8, ⟨Lc8, hQ8, l8, y8, z8⟩, st8⟩ := Jvm.LawKit.callS X7 hx (y := (⟨"com/example/unify_to_cover/unifytocover/search/ValueSetsCopyPinLaw", "ok", "([J[JIJ)Z"⟩ : MethodName)) hown (mvT hZ (hw _ (List.mem_of_getElem? (i := 5) rfl))) (mvT hZ (hw _ (List.mem_of_getElem? (i := 6) rfl))) (mvT hZ (hw _ (List.mem_of_getElem? (i := 7) rfl))) (mvT hZ (hw _ (List.mem_of_getElem? (i := 8) rfl))) (by decide) (backOf (W := 0) (rmON l Z a0 hw [] (b2) (0) ((own_L (0 : Int64) ([] : List Int64))) (b3) ((3 : Int32)) (p3) h3 n0 Zn3 (A2_3) (by decide)) hZ (hw _ (List.mem_of_getElem? (i := 8) rfl)) (hw _ (List.mem_of_getElem? (i := 7) rfl)) (by decide) (by decide)) (g := (mkF m 157 #[.val (.long p0), .second, .val (.long p1), .second, .val (.long p2), .second, .val (.long p3), .second, .val (.long p4), .second, .val (.int p5), .val (.int (0 : Int32)), .val (.ref b2), .val (.ref b3)] [(.long p3), (.int (3 : Int32)), (.ref b3), (.ref b2)])) rfl (by rw [hml]; rfl) (argsL := [(.ref b2), (.ref b3), (.int (3 : Int32)), (.long p3)]) (rest := []) (lenOf own_pd2 rfl) rfl (by show 2 * 0 + _ ≤ _; exact Nat.le_of_eq rfl) (hb hby at_157) (fun _ _ => ⟨rfl, e7, (by decide : 2 + 0 ≤ _), (by decide : 0 + 0 ≤ _)⟩)
    dsimp only [Pt.U, Pt.locs, Pt.cells, Pt.slots] at X8 l8 y8 z8 st8 hQ8
    subst l8 y8 z8
    have X8 : Stand p l e room_1 s m _ below meth c T8 _ 2 0 := X8
    obtain ⟨rfl, Nq8, e8⟩ := hQ8
    have N8 := Fr.app N7 Nq8
    refine OGo.st (T' := T8) (g' := (mkF m 160 #[.val (.long p0), .second, .val (.long p1), .second, .val (.long p2), .second, .val (.long p3), .second, .val (.long p4), .second, .val (.int p5), .val (.int (0 : Int32)), .val (.ref b2), .val (.ref b3)] [(.int (1 : Int32))])) (fun _ k => st8 _ k) ?_
    refine OGo.st (T' := T8) (g' := (mkF m 168 #[.val (.long p0), .second, .val (.long p1), .second, .val (.long p2), .second, .val (.long p3), .second, .val (.long p4), .second, .val (.int p5), .val (.int (0 : Int32)), .val (.ref b2), .val (.ref b3)] [(.int (1 : Int32))])) (fun _ k => (XS.ifNo X8.here hx rfl (hb hby at_160) rfl ((if0 _ _).trans (feq (by decide : ¬ ((1 : Int32) = (0 : Int32)))).1) (XS.iconst X8.here hx rfl (hb hby at_163) (XS.goto X8.here hx rfl (pc0 := 164) (pc' := 168) rfl (hb hby at_164) (by decide) (by decide) k)))) ?_
    exact OGo.ret X8 hx hlk Bd.returns rfl (own_rI (Or.inr (Or.inl rfl))) (hb hby at_168) (by decide) (by decide) e8 (⟨rfl, N8⟩)
  · rw [hl1]
    refine OGo.st (T' := s₁) (g' := (mkF m 11 #[.val (.long p0), .second, .val (.long p1), .second, .val (.long p2), .second, .val (.long p3), .second, .val (.long p4), .second, .val (.int p5), .val (.int (1 : Int32)), .unset, .unset] [(.int (1 : Int32))])) (fun _ k => (XS.iload X0.here hx rfl (hb hby at_9) rfl k)) ?_
    obtain ⟨T9, h9, b9, g9, X9, e9, E9, V9, st9⟩ := own_newA X0 hx hZ (hw _ (List.mem_of_getElem? (i := 0) rfl)) e0 (g := (mkF m 11 #[.val (.long p0), .second, .val (.long p1), .second, .val (.long p2), .second, .val (.long p3), .second, .val (.long p4), .second, .val (.int p5), .val (.int (1 : Int32)), .unset, .unset] [(.int (1 : Int32))])) rfl (hb hby at_11) rfl (n := 1) ⟨by decide, by decide⟩ (cap := 1) (by decide) (by decide) (by decide) (by decide)
    have g_b9 : n0 ≤ b9 := Nat.le_trans Z0 (Nat.le_of_eq g9.symm)
    have A9 : OArr Z h9 b9 .long 1 (fun j => .long ((own_L (0 : Int64) ([(0 : Int64)] : List Int64)) j)) := OArr.cast V9 (fun j _ => congrArg Value.long (own_L_rep (0 : Int64) 1 j))
    have Zn9 : n0 ≤ h9.size := Nat.le_trans Z0 E9.1
    have X9 : Stand p l e room_1 s m _ below meth c T9 _ 1 1 := X9
    refine OGo.st (T' := T9) (g' := (mkF m 13 #[.val (.long p0), .second, .val (.long p1), .second, .val (.long p2), .second, .val (.long p3), .second, .val (.long p4), .second, .val (.int p5), .val (.int (1 : Int32)), .unset, .unset] [(.ref b9)])) (fun _ k => st9 _ k) ?_
    refine OGo.st (T' := T9) (g' := (mkF m 17 #[.val (.long p0), .second, .val (.long p1), .second, .val (.long p2), .second, .val (.long p3), .second, .val (.long p4), .second, .val (.int p5), .val (.int (1 : Int32)), .val (.ref b9), .unset] [(.int (1 : Int32))])) (fun _ k => (XS.astore X9.here hx rfl (hb hby at_13) rfl rfl (l' := #[.val (.long p0), .second, .val (.long p1), .second, .val (.long p2), .second, .val (.long p3), .second, .val (.long p4), .second, .val (.int p5), .val (.int (1 : Int32)), .val (.ref b9), .unset]) rfl (XS.iload X9.here hx rfl (hb hby at_15) rfl k))) ?_
    obtain ⟨T10, h10, b10, g10, X10, e10, E10, V10, st10⟩ := own_newA X9 hx hZ (hw _ (List.mem_of_getElem? (i := 0) rfl)) e9 (g := (mkF m 17 #[.val (.long p0), .second, .val (.long p1), .second, .val (.long p2), .second, .val (.long p3), .second, .val (.long p4), .second, .val (.int p5), .val (.int (1 : Int32)), .val (.ref b9), .unset] [(.int (1 : Int32))])) rfl (hb hby at_17) rfl (n := 1) ⟨by decide, by decide⟩ (cap := 1) (by decide) (by decide) (by decide) (by decide)
    have ne_b9_b10 : b9 ≠ b10 := Nat.ne_of_lt (Nat.lt_of_lt_of_le A9.lt (Nat.le_of_eq g10.symm))
    have g_b10 : n0 ≤ b10 := Nat.le_trans Zn9 (Nat.le_of_eq g10.symm)
    have A10 : OArr Z h10 b10 .long 1 (fun j => .long ((own_L (0 : Int64) ([(0 : Int64)] : List Int64)) j)) := OArr.cast V10 (fun j _ => congrArg Value.long (own_L_rep (0 : Int64) 1 j))
    have A9_10 : OArr Z h10 b9 .long 1 (fun j => .long ((own_L (0 : Int64) ([(0 : Int64)] : List Int64)) j)) := A9.ext E10
    have Zn10 : n0 ≤ h10.size := Nat.le_trans Zn9 E10.1
    have X10 : Stand p l e room_1 s m _ below meth c T10 _ 2 2 := X10
    refine OGo.st (T' := T10) (g' := (mkF m 19 #[.val (.long p0), .second, .val (.long p1), .second, .val (.long p2), .second, .val (.long p3), .second, .val (.long p4), .second, .val (.int p5), .val (.int (1 : Int32)), .val (.ref b9), .unset] [(.ref b10)])) (fun _ k => st10 _ k) ?_
    refine OGo.st (T' := T10) (g' := (mkF m 30 #[.val (.long p0), .second, .val (.long p1), .second, .val (.long p2), .second, .val (.long p3), .second, .val (.long p4), .second, .val (.int p5), .val (.int (1 : Int32)), .val (.ref b9), .val (.ref b10)] [(.long p0), (.int (0 : Int32)), (.ref b9)])) (fun _ k => (XS.astore X10.here hx rfl (hb hby at_19) rfl rfl (l' := #[.val (.long p0), .second, .val (.long p1), .second, .val (.long p2), .second, .val (.long p3), .second, .val (.long p4), .second, .val (.int p5), .val (.int (1 : Int32)), .val (.ref b9), .val (.ref b10)]) rfl (XS.iload X10.here hx rfl (hb hby at_21) rfl (XS.ifNo X10.here hx rfl (hb hby at_23) rfl ((if0 _ _).trans (tlt (by decide : (0 : Int32) < (1 : Int32))).2.2.2) (XS.aload X10.here hx rfl (hb hby at_26) rfl rfl (XS.iconst X10.here hx rfl (hb hby at_28) (XS.lloadN X10.here hx rfl (hb hby at_29) rfl k))))))) ?_
    obtain ⟨T11, h11, X11, e11, W11, V11, st11⟩ := own_stJ X10 hx hZ e10 A9_10 (j := (0 : Int32)) (i := 0) ⟨by decide, by decide⟩ (by decide) (g := (mkF m 30 #[.val (.long p0), .second, .val (.long p1), .second, .val (.long p2), .second, .val (.long p3), .second, .val (.long p4), .second, .val (.int p5), .val (.int (1 : Int32)), .val (.ref b9), .val (.ref b10)] [(.long p0), (.int (0 : Int32)), (.ref b9)])) rfl rfl (hb hby at_30)
    have Ab9_11 : OArr Z h11 b9 .long 1 (fun j => .long ((own_L (0 : Int64) ([p0] : List Int64)) j)) := V11.cast (fun j _ => (own_updJ _ _ _ j).trans (congrArg Value.long (own_L_set (0 : Int64) ([(0 : Int64)] : List Int64) 0 p0 (Nat.le_of_ble_eq_true rfl) j)))
    have N11 := Fr.snoc X11 N0 g_b9
    have A10_11 : OArr Z h11 b10 .long 1 (fun j => .long ((own_L (0 : Int64) ([(0 : Int64)] : List Int64)) j)) := A10.other W11 (Ne.symm ne_b9_b10)
    have Zn11 : n0 ≤ h11.size := Nat.le_trans Zn10 (Nat.le_of_eq W11.size.symm)
    refine OGo.st (T' := T11) (g' := (mkF m 31 #[.val (.long p0), .second, .val (.long p1), .second, .val (.long p2), .second, .val (.long p3), .second, .val (.long p4), .second, .val (.int p5), .val (.int (1 : Int32)), .val (.ref b9), .val (.ref b10)] [])) (fun _ k => st11 _ k) ?_
    refine OGo.st (T' := T11) (g' := (mkF m 36 #[.val (.long p0), .second, .val (.long p1), .second, .val (.long p2), .second, .val (.long p3), .second, .val (.long p4), .second, .val (.int p5), .val (.int (1 : Int32)), .val (.ref b9), .val (.ref b10)] [(.long p4), (.int (0 : Int32)), (.ref b10)])) (fun _ k => (XS.aload X11.here hx rfl (hb hby at_31) rfl rfl (XS.iconst X11.here hx rfl (hb hby at_33) (XS.lload X11.here hx rfl (hb hby at_34) rfl k)))) ?_
    obtain ⟨T12, h12, X12, e12, W12, V12, st12⟩ := own_stJ X11 hx hZ e11 A10_11 (j := (0 : Int32)) (i := 0) ⟨by decide, by decide⟩ (by decide) (g := (mkF m 36 #[.val (.long p0), .second, .val (.long p1), .second, .val (.long p2), .second, .val (.long p3), .second, .val (.long p4), .second, .val (.int p5), .val (.int (1 : Int32)), .val (.ref b9), .val (.ref b10)] [(.long p4), (.int (0 : Int32)), (.ref b10)])) rfl rfl (hb hby at_36)
    have Ab10_12 : OArr Z h12 b10 .long 1 (fun j => .long ((own_L (0 : Int64) ([p4] : List Int64)) j)) := V12.cast (fun j _ => (own_updJ _ _ _ j).trans (congrArg Value.long (own_L_set (0 : Int64) ([(0 : Int64)] : List Int64) 0 p4 (Nat.le_of_ble_eq_true rfl) j)))
    have N12 := Fr.snoc X12 N11 g_b10
    have Ab9_12 : OArr Z h12 b9 .long 1 (fun j => .long ((own_L (0 : Int64) ([p0] : List Int64)) j)) := Ab9_11.other W12 ne_b9_b10
    have Zn12 : n0 ≤ h12.size := Nat.le_trans Zn11 (Nat.le_of_eq W12.size.symm)
    refine OGo.st (T' := T12) (g' := (mkF m 37 #[.val (.long p0), .second, .val (.long p1), .second, .val (.long p2), .second, .val (.long p3), .second, .val (.long p4), .second, .val (.int p5), .val (.int (1 : Int32)), .val (.ref b9), .val (.ref b10)] [])) (fun _ k => st12 _ k) ?_
    refine OGo.st (T' := T12) (g' := (mkF m 72 #[.val (.long p0), .second, .val (.long p1), .second, .val (.long p2), .second, .val (.long p3), .second, .val (.long p4), .second, .val (.int p5), .val (.int (1 : Int32)), .val (.ref b9), .val (.ref b10)] [])) (fun _ k => (XS.iload X12.here hx rfl (hb hby at_37) rfl (XS.iconst X12.here hx rfl (hb hby at_39) (XS.icmpYes X12.here hx rfl (pc0 := 40) (pc' := 54) rfl (hb hby at_40) rfl (flt (by decide : ¬ ((1 : Int32) < (1 : Int32)))).2.2.2 (by decide) (by decide) (XS.iload X12.here hx rfl (hb hby at_54) rfl (XS.iconst X12.here hx rfl (hb hby at_56) (XS.icmpYes X12.here hx rfl (pc0 := 57) (pc' := 72) rfl (hb hby at_57) rfl (flt (by decide : ¬ ((2 : Int32) < (1 : Int32)))).2.2.2 (by decide) (by decide) k))))))) ?_
    refine OGo.st (T' := T12) (g' := (mkF m 94 #[.val (.long p0), .second, .val (.long p1), .second, .val (.long p2), .second, .val (.long p3), .second, .val (.long p4), .second, .val (.int p5), .val (.int (1 : Int32)), .val (.ref b9), .val (.ref b10)] [(.ref b10), (.ref b9)])) (fun _ k => (XS.iload X12.here hx rfl (hb hby at_72) rfl (XS.iconst X12.here hx rfl (hb hby at_74) (XS.icmpYes X12.here hx rfl (pc0 := 75) (pc' := 90) rfl (hb hby at_75) rfl (flt (by decide : ¬ ((3 : Int32) < (1 : Int32)))).2.2.2 (by decide) (by decide) (XS.aload X12.here hx rfl (hb hby at_90) rfl rfl (XS.aload X12.here hx rfl (hb hby at_92) rfl rfl k)))))) ?_
    obtain ⟨_, _, ⟨T13, L13, k13, n13⟩, -, X13, ⟨Lc13, hQ13, l13, y13, z13⟩, st13⟩ := Jvm.LawKit.callS X12 hx (y := (⟨"com/example/unify_to_cover/unifytocover/search/ValueSets", "copy", "([J[J)V"⟩ : MethodName)) hown (mvT hZ (hw _ (List.mem_of_getElem? (i := 1) rfl))) (mvT hZ (hw _ (List.mem_of_getElem? (i := 2) rfl))) (mvT hZ (hw _ (List.mem_of_getElem? (i := 3) rfl))) (mvT hZ (hw _ (List.mem_of_getElem? (i := 4) rfl))) (by decide) (backOf (W := 0) (rmC1 l Z a0 hw [] (b9) (p0) (b10) (p4) h12 n0 Zn12 (Ab9_12) (Ab10_12) (g_b10) (ne_b9_b10)) hZ (hw _ (List.mem_of_getElem? (i := 4) rfl)) (hw _ (List.mem_of_getElem? (i := 3) rfl)) (by decide) (by decide)) (g := (mkF m 94 #[.val (.long p0), .second, .val (.long p1), .second, .val (.long p2), .second, .val (.long p3), .second, .val (.long p4), .second, .val (.int p5), .val (.int (1 : Int32)), .val (.ref b9), .val (.ref b10)] [(.ref b10), (.ref b9)])) rfl (by rw [hml]; rfl) (argsL := [(.ref b9), (.ref b10)]) (rest := []) (lenOf own_pd1 rfl) rfl (by show 2 * 0 + _ ≤ _; exact Nat.le_of_eq rfl) (hb hby at_94) (fun _ _ => ⟨rfl, e12, (by decide : 2 + 0 ≤ _), (by decide : 2 + 0 ≤ _)⟩)
    dsimp only [Pt.U, Pt.locs, Pt.cells, Pt.slots] at X13 l13 y13 z13 st13 hQ13
    subst l13 y13 z13
    have X13 : Stand p l e room_1 s m _ below meth c T13 _ 2 2 := X13
    obtain ⟨h13, e13⟩ : ∃ z, T13.heap = z := ⟨_, rfl⟩
    rw [e13] at hQ13
    obtain ⟨rfl, Nq13, Kc13, G13x0⟩ := hQ13
    have N13 := Fr.app N12 Nq13
    have Ab9_13 : OArr Z h13 b9 .long 1 (fun j => .long ((own_L (0 : Int64) ([p0] : List Int64)) j)) := Ab9_12.keep Kc13 (ninS ne_b9_b10 nin0)
    have Zn13 : n0 ≤ h13.size := Nat.le_trans Zn12 Kc13.1
    refine OGo.st (T' := T13) (g' := (mkF m 97 #[.val (.long p0), .second, .val (.long p1), .second, .val (.long p2), .second, .val (.long p3), .second, .val (.long p4), .second, .val (.int p5), .val (.int (1 : Int32)), .val (.ref b9), .val (.ref b10)] [])) (fun _ k => st13 _ k) ?_
    refine OGo.st (T' := T13) (g' := (mkF m 99 #[.val (.long p0), .second, .val (.long p1), .second, .val (.long p2), .second, .val (.long p3), .second, .val (.long p4), .second, .val (.int p5), .val (.int (1 : Int32)), .val (.ref b9), .val (.ref b10)] [(.ref b9)])) (fun _ k => (XS.aload X13.here hx rfl (hb hby at_97) rfl rfl k)) ?_
    refine OGo.st (T' := T13) (g' := (mkF m 107 #[.val (.long p0), .second, .val (.long p1), .second, .val (.long p2), .second, .val (.long p3), .second, .val (.long p4), .second, .val (.int p5), .val (.int (1 : Int32)), .val (.ref b9), .val (.ref b10)] [(.ref b10)])) (fun _ k => (own_len X13 hx hZ e13 Ab9_13 (g := (mkF m 99 #[.val (.long p0), .second, .val (.long p1), .second, .val (.long p2), .second, .val (.long p3), .second, .val (.long p4), .second, .val (.int p5), .val (.int (1 : Int32)), .val (.ref b9), .val (.ref b10)] [(.ref b9)])) rfl rfl (hb hby at_99) _ (XS.iload X13.here hx rfl (hb hby at_100) rfl (XS.icmpNo X13.here hx rfl (hb hby at_102) rfl (teq (by decide : (1 : Int32) = (1 : Int32))).2 (XS.aload X13.here hx rfl (hb hby at_105) rfl rfl k))))) ?_
    refine OGo.st (T' := T13) (g' := (mkF m 118 #[.val (.long p0), .second, .val (.long p1), .second, .val (.long p2), .second, .val (.long p3), .second, .val (.long p4), .second, .val (.int p5), .val (.int (1 : Int32)), .val (.ref b9), .val (.ref b10)] [(.int (0 : Int32)), (.ref b10), (.ref b9)])) (fun _ k => (own_len X13 hx hZ e13 G13x0 (g := (mkF m 107 #[.val (.long p0), .second, .val (.long p1), .second, .val (.long p2), .second, .val (.long p3), .second, .val (.long p4), .second, .val (.int p5), .val (.int (1 : Int32)), .val (.ref b9), .val (.ref b10)] [(.ref b10)])) rfl rfl (hb hby at_107) _ (XS.iload X13.here hx rfl (hb hby at_108) rfl (XS.icmpNo X13.here hx rfl (hb hby at_110) rfl (teq (by decide : (1 : Int32) = (1 : Int32))).2 (XS.aload X13.here hx rfl (hb hby at_113) rfl rfl (XS.aload X13.here hx rfl (hb hby at_115) rfl rfl (XS.iconst X13.here hx rfl (hb hby at_117) k))))))) ?_
    refine OGo.st (T' := T13) (g' := (mkF m 119 #[.val (.long p0), .second, .val (.long p1), .second, .val (.long p2), .second, .val (.long p3), .second, .val (.long p4), .second, .val (.int p5), .val (.int (1 : Int32)), .val (.ref b9), .val (.ref b10)] [(.long p0), (.int (0 : Int32)), (.ref b10), (.ref b9)])) (fun _ k => (XS.lloadN X13.here hx rfl (hb hby at_118) rfl k)) ?_
    obtain ⟨_, _, ⟨T14, L14, k14, n14⟩, -, X14, ⟨Lc14, hQ14, l14, y14, z14⟩, st14⟩ := Jvm.LawKit.callS X13 hx (y := (⟨"com/example/unify_to_cover/unifytocover/search/ValueSetsCopyPinLaw", "ok", "([J[JIJ)Z"⟩ : MethodName)) hown (mvT hZ (hw _ (List.mem_of_getElem? (i := 5) rfl))) (mvT hZ (hw _ (List.mem_of_getElem? (i := 6) rfl))) (mvT hZ (hw _ (List.mem_of_getElem? (i := 7) rfl))) (mvT hZ (hw _ (List.mem_of_getElem? (i := 8) rfl))) (by decide) (backOf (W := 0) (rmOY l Z a0 hw [] (b9) (1) ((own_L (0 : Int64) ([p0] : List Int64))) (b10) (1) ((own_L (0 : Int64) ([p0] : List Int64))) ((0 : Int32)) (p0) (0) h13 n0 Zn13 (Ab9_13) (G13x0) (by decide) (⟨by decide, by decide⟩) (by decide) (by decide) (rfl) (rfl)) hZ (hw _ (List.mem_of_getElem? (i := 8) rfl)) (hw _ (List.mem_of_getElem? (i := 7) rfl)) (by decide) (by decide)) (g := (mkF m 119 #[.val (.long p0), .second, .val (.long p1), .second, .val (.long p2), .second, .val (.long p3), .second, .val (.long p4), .second, .val (.int p5), .val (.int (1 : Int32)), .val (.ref b9), .val (.ref b10)] [(.long p0), (.int (0 : Int32)), (.ref b10), (.ref b9)])) rfl (by rw [hml]; rfl) (argsL := [(.ref b9), (.ref b10), (.int (0 : Int32)), (.long p0)]) (rest := []) (lenOf own_pd2 rfl) rfl (by show 2 * 0 + _ ≤ _; exact Nat.le_of_eq rfl) (hb hby at_119) (fun _ _ => ⟨rfl, e13, (by decide : 2 + 0 ≤ _), (by decide : 2 + 0 ≤ _)⟩)
    dsimp only [Pt.U, Pt.locs, Pt.cells, Pt.slots] at X14 l14 y14 z14 st14 hQ14
    subst l14 y14 z14
    have X14 : Stand p l e room_1 s m _ below meth c T14 _ 2 2 := X14
    obtain ⟨rfl, Nq14, e14⟩ := hQ14
    have N14 := Fr.app N13 Nq14
    refine OGo.st (T' := T14) (g' := (mkF m 122 #[.val (.long p0), .second, .val (.long p1), .second, .val (.long p2), .second, .val (.long p3), .second, .val (.long p4), .second, .val (.int p5), .val (.int (1 : Int32)), .val (.ref b9), .val (.ref b10)] [(.int (1 : Int32))])) (fun _ k => st14 _ k) ?_
    refine OGo.st (T' := T14) (g' := (mkF m 131 #[.val (.long p0), .second, .val (.long p1), .second, .val (.long p2), .second, .val (.long p3), .second, .val (.long p4), .second, .val (.int p5), .val (.int (1 : Int32)), .val (.ref b9), .val (.ref b10)] [(.long p1), (.int (1 : Int32)), (.ref b10), (.ref b9)])) (fun _ k => (XS.ifNo X14.here hx rfl (hb hby at_122) rfl ((if0 _ _).trans (feq (by decide : ¬ ((1 : Int32) = (0 : Int32)))).1) (XS.aload X14.here hx rfl (hb hby at_125) rfl rfl (XS.aload X14.here hx rfl (hb hby at_127) rfl rfl (XS.iconst X14.here hx rfl (hb hby at_129) (XS.lloadN X14.here hx rfl (hb hby at_130) rfl k)))))) ?_
    obtain ⟨_, _, ⟨T15, L15, k15, n15⟩, -, X15, ⟨Lc15, hQ15, l15, y15, z15⟩, st15⟩ := Jvm.LawKit.callS X14 hx (y := (⟨"com/example/unify_to_cover/unifytocover/search/ValueSetsCopyPinLaw", "ok", "([J[JIJ)Z"⟩ : MethodName)) hown (mvT hZ (hw _ (List.mem_of_getElem? (i := 5) rfl))) (mvT hZ (hw _ (List.mem_of_getElem? (i := 6) rfl))) (mvT hZ (hw _ (List.mem_of_getElem? (i := 7) rfl))) (mvT hZ (hw _ (List.mem_of_getElem? (i := 8) rfl))) (by decide) (backOf (W := 0) (rmON l Z a0 hw [] (b9) (1) ((own_L (0 : Int64) ([p0] : List Int64))) (b10) ((1 : Int32)) (p1) h13 n0 Zn13 (Ab9_13) (by decide)) hZ (hw _ (List.mem_of_getElem? (i := 8) rfl)) (hw _ (List.mem_of_getElem? (i := 7) rfl)) (by decide) (by decide)) (g := (mkF m 131 #[.val (.long p0), .second, .val (.long p1), .second, .val (.long p2), .second, .val (.long p3), .second, .val (.long p4), .second, .val (.int p5), .val (.int (1 : Int32)), .val (.ref b9), .val (.ref b10)] [(.long p1), (.int (1 : Int32)), (.ref b10), (.ref b9)])) rfl (by rw [hml]; rfl) (argsL := [(.ref b9), (.ref b10), (.int (1 : Int32)), (.long p1)]) (rest := []) (lenOf own_pd2 rfl) rfl (by show 2 * 0 + _ ≤ _; exact Nat.le_of_eq rfl) (hb hby at_131) (fun _ _ => ⟨rfl, e14, (by decide : 2 + 0 ≤ _), (by decide : 2 + 0 ≤ _)⟩)
    dsimp only [Pt.U, Pt.locs, Pt.cells, Pt.slots] at X15 l15 y15 z15 st15 hQ15
    subst l15 y15 z15
    have X15 : Stand p l e room_1 s m _ below meth c T15 _ 2 2 := X15
    obtain ⟨rfl, Nq15, e15⟩ := hQ15
    have N15 := Fr.app N14 Nq15
    refine OGo.st (T' := T15) (g' := (mkF m 134 #[.val (.long p0), .second, .val (.long p1), .second, .val (.long p2), .second, .val (.long p3), .second, .val (.long p4), .second, .val (.int p5), .val (.int (1 : Int32)), .val (.ref b9), .val (.ref b10)] [(.int (1 : Int32))])) (fun _ k => st15 _ k) ?_
    refine OGo.st (T' := T15) (g' := (mkF m 144 #[.val (.long p0), .second, .val (.long p1), .second, .val (.long p2), .second, .val (.long p3), .second, .val (.long p4), .second, .val (.int p5), .val (.int (1 : Int32)), .val (.ref b9), .val (.ref b10)] [(.long p2), (.int (2 : Int32)), (.ref b10), (.ref b9)])) (fun _ k => (XS.ifNo X15.here hx rfl (hb hby at_134) rfl ((if0 _ _).trans (feq (by decide : ¬ ((1 : Int32) = (0 : Int32)))).1) (XS.aload X15.here hx rfl (hb hby at_137) rfl rfl (XS.aload X15.here hx rfl (hb hby at_139) rfl rfl (XS.iconst X15.here hx rfl (hb hby at_141) (XS.lload X15.here hx rfl (hb hby at_142) rfl k)))))) ?_
    obtain ⟨_, _, ⟨T16, L16, k16, n16⟩, -, X16, ⟨Lc16, hQ16, l16, y16, z16⟩, st16⟩ := Jvm.LawKit.callS X15 hx (y := (⟨"com/example/unify_to_cover/unifytocover/search/ValueSetsCopyPinLaw", "ok", "([J[JIJ)Z"⟩ : MethodName)) hown (mvT hZ (hw _ (List.mem_of_getElem? (i := 5) rfl))) (mvT hZ (hw _ (List.mem_of_getElem? (i := 6) rfl))) (mvT hZ (hw _ (List.mem_of_getElem? (i := 7) rfl))) (mvT hZ (hw _ (List.mem_of_getElem? (i := 8) rfl))) (by decide) (backOf (W := 0) (rmON l Z a0 hw [] (b9) (1) ((own_L (0 : Int64) ([p0] : List Int64))) (b10) ((2 : Int32)) (p2) h13 n0 Zn13 (Ab9_13) (by decide)) hZ (hw _ (List.mem_of_getElem? (i := 8) rfl)) (hw _ (List.mem_of_getElem? (i := 7) rfl)) (by decide) (by decide)) (g := (mkF m 144 #[.val (.long p0), .second, .val (.long p1), .second, .val (.long p2), .second, .val (.long p3), .second, .val (.long p4), .second, .val (.int p5), .val (.int (1 : Int32)), .val (.ref b9), .val (.ref b10)] [(.long p2), (.int (2 : Int32)), (.ref b10), (.ref b9)])) rfl (by rw [hml]; rfl) (argsL := [(.ref b9), (.ref b10), (.int (2 : Int32)), (.long p2)]) (rest := []) (lenOf own_pd2 rfl) rfl (by show 2 * 0 + _ ≤ _; exact Nat.le_of_eq rfl) (hb hby at_144) (fun _ _ => ⟨rfl, e15, (by decide : 2 + 0 ≤ _), (by decide : 2 + 0 ≤ _)⟩)
    dsimp only [Pt.U, Pt.locs, Pt.cells, Pt.slots] at X16 l16 y16 z16 st16 hQ16
    subst l16 y16 z16
    have X16 : Stand p l e room_1 s m _ below meth c T16 _ 2 2 := X16
    obtain ⟨rfl, Nq16, e16⟩ := hQ16
    have N16 := Fr.app N15 Nq16
    refine OGo.st (T' := T16) (g' := (mkF m 147 #[.val (.long p0), .second, .val (.long p1), .second, .val (.long p2), .second, .val (.long p3), .second, .val (.long p4), .second, .val (.int p5), .val (.int (1 : Int32)), .val (.ref b9), .val (.ref b10)] [(.int (1 : Int32))])) (fun _ k => st16 _ k) ?_
    refine OGo.st (T' := T16) (g' := (mkF m 157 #[.val (.long p0), .second, .val (.long p1), .second, .val (.long p2), .second, .val (.long p3), .second, .val (.long p4), .second, .val (.int p5), .val (.int (1 : Int32)), .val (.ref b9), .val (.ref b10)] [(.long p3), (.int (3 : Int32)), (.ref b10), (.ref b9)])) (fun _ k => (XS.ifNo X16.here hx rfl (hb hby at_147) rfl ((if0 _ _).trans (feq (by decide : ¬ ((1 : Int32) = (0 : Int32)))).1) (XS.aload X16.here hx rfl (hb hby at_150) rfl rfl (XS.aload X16.here hx rfl (hb hby at_152) rfl rfl (XS.iconst X16.here hx rfl (hb hby at_154) (XS.lload X16.here hx rfl (hb hby at_155) rfl k)))))) ?_
    obtain ⟨_, _, ⟨T17, L17, k17, n17⟩, -, X17, ⟨Lc17, hQ17, l17, y17, z17⟩, st17⟩ := Jvm.LawKit.callS X16 hx (y := (⟨"com/example/unify_to_cover/unifytocover/search/ValueSetsCopyPinLaw", "ok", "([J[JIJ)Z"⟩ : MethodName)) hown (mvT hZ (hw _ (List.mem_of_getElem? (i := 5) rfl))) (mvT hZ (hw _ (List.mem_of_getElem? (i := 6) rfl))) (mvT hZ (hw _ (List.mem_of_getElem? (i := 7) rfl))) (mvT hZ (hw _ (List.mem_of_getElem? (i := 8) rfl))) (by decide) (backOf (W := 0) (rmON l Z a0 hw [] (b9) (1) ((own_L (0 : Int64) ([p0] : List Int64))) (b10) ((3 : Int32)) (p3) h13 n0 Zn13 (Ab9_13) (by decide)) hZ (hw _ (List.mem_of_getElem? (i := 8) rfl)) (hw _ (List.mem_of_getElem? (i := 7) rfl)) (by decide) (by decide)) (g := (mkF m 157 #[.val (.long p0), .second, .val (.long p1), .second, .val (.long p2), .second, .val (.long p3), .second, .val (.long p4), .second, .val (.int p5), .val (.int (1 : Int32)), .val (.ref b9), .val (.ref b10)] [(.long p3), (.int (3 : Int32)), (.ref b10), (.ref b9)])) rfl (by rw [hml]; rfl) (argsL := [(.ref b9), (.ref b10), (.int (3 : Int32)), (.long p3)]) (rest := []) (lenOf own_pd2 rfl) rfl (by show 2 * 0 + _ ≤ _; exact Nat.le_of_eq rfl) (hb hby at_157) (fun _ _ => ⟨rfl, e16, (by decide : 2 + 0 ≤ _), (by decide : 2 + 0 ≤ _)⟩)
    dsimp only [Pt.U, Pt.locs, Pt.cells, Pt.slots] at X17 l17 y17 z17 st17 hQ17
    subst l17 y17 z17
    have X17 : Stand p l e room_1 s m _ below meth c T17 _ 2 2 := X17
    obtain ⟨rfl, Nq17, e17⟩ := hQ17
    have N17 := Fr.app N16 Nq17
    refine OGo.st (T' := T17) (g' := (mkF m 160 #[.val (.long p0), .second, .val (.long p1), .second, .val (.long p2), .second, .val (.long p3), .second, .val (.long p4), .second, .val (.int p5), .val (.int (1 : Int32)), .val (.ref b9), .val (.ref b10)] [(.int (1 : Int32))])) (fun _ k => st17 _ k) ?_
    refine OGo.st (T' := T17) (g' := (mkF m 168 #[.val (.long p0), .second, .val (.long p1), .second, .val (.long p2), .second, .val (.long p3), .second, .val (.long p4), .second, .val (.int p5), .val (.int (1 : Int32)), .val (.ref b9), .val (.ref b10)] [(.int (1 : Int32))])) (fun _ k => (XS.ifNo X17.here hx rfl (hb hby at_160) rfl ((if0 _ _).trans (feq (by decide : ¬ ((1 : Int32) = (0 : Int32)))).1) (XS.iconst X17.here hx rfl (hb hby at_163) (XS.goto X17.here hx rfl (pc0 := 164) (pc' := 168) rfl (hb hby at_164) (by decide) (by decide) k)))) ?_
    exact OGo.ret X17 hx hlk Bd.returns rfl (own_rI (Or.inr (Or.inl rfl))) (hb hby at_168) (by decide) (by decide) e17 (⟨rfl, N17⟩)
  · rw [hl1]
    refine OGo.st (T' := s₁) (g' := (mkF m 11 #[.val (.long p0), .second, .val (.long p1), .second, .val (.long p2), .second, .val (.long p3), .second, .val (.long p4), .second, .val (.int p5), .val (.int (2 : Int32)), .unset, .unset] [(.int (2 : Int32))])) (fun _ k => (XS.iload X0.here hx rfl (hb hby at_9) rfl k)) ?_
    obtain ⟨T18, h18, b18, g18, X18, e18, E18, V18, st18⟩ := own_newA X0 hx hZ (hw _ (List.mem_of_getElem? (i := 0) rfl)) e0 (g := (mkF m 11 #[.val (.long p0), .second, .val (.long p1), .second, .val (.long p2), .second, .val (.long p3), .second, .val (.long p4), .second, .val (.int p5), .val (.int (2 : Int32)), .unset, .unset] [(.int (2 : Int32))])) rfl (hb hby at_11) rfl (n := 2) ⟨by decide, by decide⟩ (cap := 2) (by decide) (by decide) (by decide) (by decide)
    have g_b18 : n0 ≤ b18 := Nat.le_trans Z0 (Nat.le_of_eq g18.symm)
    have A18 : OArr Z h18 b18 .long 2 (fun j => .long ((own_L (0 : Int64) ([(0 : Int64), (0 : Int64)] : List Int64)) j)) := OArr.cast V18 (fun j _ => congrArg Value.long (own_L_rep (0 : Int64) 2 j))
    have Zn18 : n0 ≤ h18.size := Nat.le_trans Z0 E18.1
    have X18 : Stand p l e room_1 s m _ below meth c T18 _ 1 2 := X18
    refine OGo.st (T' := T18) (g' := (mkF m 13 #[.val (.long p0), .second, .val (.long p1), .second, .val (.long p2), .second, .val (.long p3), .second, .val (.long p4), .second, .val (.int p5), .val (.int (2 : Int32)), .unset, .unset] [(.ref b18)])) (fun _ k => st18 _ k) ?_
    refine OGo.st (T' := T18) (g' := (mkF m 17 #[.val (.long p0), .second, .val (.long p1), .second, .val (.long p2), .second, .val (.long p3), .second, .val (.long p4), .second, .val (.int p5), .val (.int (2 : Int32)), .val (.ref b18), .unset] [(.int (2 : Int32))])) (fun _ k => (XS.astore X18.here hx rfl (hb hby at_13) rfl rfl (l' := #[.val (.long p0), .second, .val (.long p1), .second, .val (.long p2), .second, .val (.long p3), .second, .val (.long p4), .second, .val (.int p5), .val (.int (2 : Int32)), .val (.ref b18), .unset]) rfl (XS.iload X18.here hx rfl (hb hby at_15) rfl k))) ?_
    obtain ⟨T19, h19, b19, g19, X19, e19, E19, V19, st19⟩ := own_newA X18 hx hZ (hw _ (List.mem_of_getElem? (i := 0) rfl)) e18 (g := (mkF m 17 #[.val (.long p0), .second, .val (.long p1), .second, .val (.long p2), .second, .val (.long p3), .second, .val (.long p4), .second, .val (.int p5), .val (.int (2 : Int32)), .val (.ref b18), .unset] [(.int (2 : Int32))])) rfl (hb hby at_17) rfl (n := 2) ⟨by decide, by decide⟩ (cap := 2) (by decide) (by decide) (by decide) (by decide)
    have ne_b18_b19 : b18 ≠ b19 := Nat.ne_of_lt (Nat.lt_of_lt_of_le A18.lt (Nat.le_of_eq g19.symm))
    have g_b19 : n0 ≤ b19 := Nat.le_trans Zn18 (Nat.le_of_eq g19.symm)
    have A19 : OArr Z h19 b19 .long 2 (fun j => .long ((own_L (0 : Int64) ([(0 : Int64), (0 : Int64)] : List Int64)) j)) := OArr.cast V19 (fun j _ => congrArg Value.long (own_L_rep (0 : Int64) 2 j))
    have A18_19 : OArr Z h19 b18 .long 2 (fun j => .long ((own_L (0 : Int64) ([(0 : Int64), (0 : Int64)] : List Int64)) j)) := A18.ext E19
    have Zn19 : n0 ≤ h19.size := Nat.le_trans Zn18 E19.1
    have X19 : Stand p l e room_1 s m _ below meth c T19 _ 2 4 := X19
    refine OGo.st (T' := T19) (g' := (mkF m 19 #[.val (.long p0), .second, .val (.long p1), .second, .val (.long p2), .second, .val (.long p3), .second, .val (.long p4), .second, .val (.int p5), .val (.int (2 : Int32)), .val (.ref b18), .unset] [(.ref b19)])) (fun _ k => st19 _ k) ?_
    refine OGo.st (T' := T19) (g' := (mkF m 30 #[.val (.long p0), .second, .val (.long p1), .second, .val (.long p2), .second, .val (.long p3), .second, .val (.long p4), .second, .val (.int p5), .val (.int (2 : Int32)), .val (.ref b18), .val (.ref b19)] [(.long p0), (.int (0 : Int32)), (.ref b18)])) (fun _ k => (XS.astore X19.here hx rfl (hb hby at_19) rfl rfl (l' := #[.val (.long p0), .second, .val (.long p1), .second, .val (.long p2), .second, .val (.long p3), .second, .val (.long p4), .second, .val (.int p5), .val (.int (2 : Int32)), .val (.ref b18), .val (.ref b19)]) rfl (XS.iload X19.here hx rfl (hb hby at_21) rfl (XS.ifNo X19.here hx rfl (hb hby at_23) rfl ((if0 _ _).trans (tlt (by decide : (0 : Int32) < (2 : Int32))).2.2.2) (XS.aload X19.here hx rfl (hb hby at_26) rfl rfl (XS.iconst X19.here hx rfl (hb hby at_28) (XS.lloadN X19.here hx rfl (hb hby at_29) rfl k))))))) ?_
    obtain ⟨T20, h20, X20, e20, W20, V20, st20⟩ := own_stJ X19 hx hZ e19 A18_19 (j := (0 : Int32)) (i := 0) ⟨by decide, by decide⟩ (by decide) (g := (mkF m 30 #[.val (.long p0), .second, .val (.long p1), .second, .val (.long p2), .second, .val (.long p3), .second, .val (.long p4), .second, .val (.int p5), .val (.int (2 : Int32)), .val (.ref b18), .val (.ref b19)] [(.long p0), (.int (0 : Int32)), (.ref b18)])) rfl rfl (hb hby at_30)
    have Ab18_20 : OArr Z h20 b18 .long 2 (fun j => .long ((own_L (0 : Int64) ([p0, (0 : Int64)] : List Int64)) j)) := V20.cast (fun j _ => (own_updJ _ _ _ j).trans (congrArg Value.long (own_L_set (0 : Int64) ([(0 : Int64), (0 : Int64)] : List Int64) 0 p0 (Nat.le_of_ble_eq_true rfl) j)))
    have N20 := Fr.snoc X20 N0 g_b18
    have A19_20 : OArr Z h20 b19 .long 2 (fun j => .long ((own_L (0 : Int64) ([(0 : Int64), (0 : Int64)] : List Int64)) j)) := A19.other W20 (Ne.symm ne_b18_b19)
    have Zn20 : n0 ≤ h20.size := Nat.le_trans Zn19 (Nat.le_of_eq W20.size.symm)
    refine OGo.st (T' := T20) (g' := (mkF m 31 #[.val (.long p0), .second, .val (.long p1), .second, .val (.long p2), .second, .val (.long p3), .second, .val (.long p4), .second, .val (.int p5), .val (.int (2 : Int32)), .val (.ref b18), .val (.ref b19)] [])) (fun _ k => st20 _ k) ?_
    refine OGo.st (T' := T20) (g' := (mkF m 36 #[.val (.long p0), .second, .val (.long p1), .second, .val (.long p2), .second, .val (.long p3), .second, .val (.long p4), .second, .val (.int p5), .val (.int (2 : Int32)), .val (.ref b18), .val (.ref b19)] [(.long p4), (.int (0 : Int32)), (.ref b19)])) (fun _ k => (XS.aload X20.here hx rfl (hb hby at_31) rfl rfl (XS.iconst X20.here hx rfl (hb hby at_33) (XS.lload X20.here hx rfl (hb hby at_34) rfl k)))) ?_
    obtain ⟨T21, h21, X21, e21, W21, V21, st21⟩ := own_stJ X20 hx hZ e20 A19_20 (j := (0 : Int32)) (i := 0) ⟨by decide, by decide⟩ (by decide) (g := (mkF m 36 #[.val (.long p0), .second, .val (.long p1), .second, .val (.long p2), .second, .val (.long p3), .second, .val (.long p4), .second, .val (.int p5), .val (.int (2 : Int32)), .val (.ref b18), .val (.ref b19)] [(.long p4), (.int (0 : Int32)), (.ref b19)])) rfl rfl (hb hby at_36)
    have Ab19_21 : OArr Z h21 b19 .long 2 (fun j => .long ((own_L (0 : Int64) ([p4, (0 : Int64)] : List Int64)) j)) := V21.cast (fun j _ => (own_updJ _ _ _ j).trans (congrArg Value.long (own_L_set (0 : Int64) ([(0 : Int64), (0 : Int64)] : List Int64) 0 p4 (Nat.le_of_ble_eq_true rfl) j)))
    have N21 := Fr.snoc X21 N20 g_b19
    have Ab18_21 : OArr Z h21 b18 .long 2 (fun j => .long ((own_L (0 : Int64) ([p0, (0 : Int64)] : List Int64)) j)) := Ab18_20.other W21 ne_b18_b19
    have Zn21 : n0 ≤ h21.size := Nat.le_trans Zn20 (Nat.le_of_eq W21.size.symm)
    refine OGo.st (T' := T21) (g' := (mkF m 37 #[.val (.long p0), .second, .val (.long p1), .second, .val (.long p2), .second, .val (.long p3), .second, .val (.long p4), .second, .val (.int p5), .val (.int (2 : Int32)), .val (.ref b18), .val (.ref b19)] [])) (fun _ k => st21 _ k) ?_
    refine OGo.st (T' := T21) (g' := (mkF m 47 #[.val (.long p0), .second, .val (.long p1), .second, .val (.long p2), .second, .val (.long p3), .second, .val (.long p4), .second, .val (.int p5), .val (.int (2 : Int32)), .val (.ref b18), .val (.ref b19)] [(.long p1), (.int (1 : Int32)), (.ref b18)])) (fun _ k => (XS.iload X21.here hx rfl (hb hby at_37) rfl (XS.iconst X21.here hx rfl (hb hby at_39) (XS.icmpNo X21.here hx rfl (hb hby at_40) rfl (tlt (by decide : (1 : Int32) < (2 : Int32))).2.2.2 (XS.aload X21.here hx rfl (hb hby at_43) rfl rfl (XS.iconst X21.here hx rfl (hb hby at_45) (XS.lloadN X21.here hx rfl (hb hby at_46) rfl k))))))) ?_
    obtain ⟨T22, h22, X22, e22, W22, V22, st22⟩ := own_stJ X21 hx hZ e21 Ab18_21 (j := (1 : Int32)) (i := 1) ⟨by decide, by decide⟩ (by decide) (g := (mkF m 47 #[.val (.long p0), .second, .val (.long p1), .second, .val (.long p2), .second, .val (.long p3), .second, .val (.long p4), .second, .val (.int p5), .val (.int (2 : Int32)), .val (.ref b18), .val (.ref b19)] [(.long p1), (.int (1 : Int32)), (.ref b18)])) rfl rfl (hb hby at_47)
    have Ab18_22 : OArr Z h22 b18 .long 2 (fun j => .long ((own_L (0 : Int64) ([p0, p1] : List Int64)) j)) := V22.cast (fun j _ => (own_updJ _ _ _ j).trans (congrArg Value.long (own_L_set (0 : Int64) ([p0, (0 : Int64)] : List Int64) 1 p1 (Nat.le_of_ble_eq_true rfl) j)))
    have N22 := Fr.snoc X22 N21 g_b18
    have Ab19_22 : OArr Z h22 b19 .long 2 (fun j => .long ((own_L (0 : Int64) ([p4, (0 : Int64)] : List Int64)) j)) := Ab19_21.other W22 (Ne.symm ne_b18_b19)
    have Zn22 : n0 ≤ h22.size := Nat.le_trans Zn21 (Nat.le_of_eq W22.size.symm)
    refine OGo.st (T' := T22) (g' := (mkF m 48 #[.val (.long p0), .second, .val (.long p1), .second, .val (.long p2), .second, .val (.long p3), .second, .val (.long p4), .second, .val (.int p5), .val (.int (2 : Int32)), .val (.ref b18), .val (.ref b19)] [])) (fun _ k => st22 _ k) ?_
    refine OGo.st (T' := T22) (g' := (mkF m 53 #[.val (.long p0), .second, .val (.long p1), .second, .val (.long p2), .second, .val (.long p3), .second, .val (.long p4), .second, .val (.int p5), .val (.int (2 : Int32)), .val (.ref b18), .val (.ref b19)] [(.long p4), (.int (1 : Int32)), (.ref b19)])) (fun _ k => (XS.aload X22.here hx rfl (hb hby at_48) rfl rfl (XS.iconst X22.here hx rfl (hb hby at_50) (XS.lload X22.here hx rfl (hb hby at_51) rfl k)))) ?_
    obtain ⟨T23, h23, X23, e23, W23, V23, st23⟩ := own_stJ X22 hx hZ e22 Ab19_22 (j := (1 : Int32)) (i := 1) ⟨by decide, by decide⟩ (by decide) (g := (mkF m 53 #[.val (.long p0), .second, .val (.long p1), .second, .val (.long p2), .second, .val (.long p3), .second, .val (.long p4), .second, .val (.int p5), .val (.int (2 : Int32)), .val (.ref b18), .val (.ref b19)] [(.long p4), (.int (1 : Int32)), (.ref b19)])) rfl rfl (hb hby at_53)
    have Ab19_23 : OArr Z h23 b19 .long 2 (fun j => .long ((own_L (0 : Int64) ([p4, p4] : List Int64)) j)) := V23.cast (fun j _ => (own_updJ _ _ _ j).trans (congrArg Value.long (own_L_set (0 : Int64) ([p4, (0 : Int64)] : List Int64) 1 p4 (Nat.le_of_ble_eq_true rfl) j)))
    have N23 := Fr.snoc X23 N22 g_b19
    have Ab18_23 : OArr Z h23 b18 .long 2 (fun j => .long ((own_L (0 : Int64) ([p0, p1] : List Int64)) j)) := Ab18_22.other W23 ne_b18_b19
    have Zn23 : n0 ≤ h23.size := Nat.le_trans Zn22 (Nat.le_of_eq W23.size.symm)
    refine OGo.st (T' := T23) (g' := (mkF m 54 #[.val (.long p0), .second, .val (.long p1), .second, .val (.long p2), .second, .val (.long p3), .second, .val (.long p4), .second, .val (.int p5), .val (.int (2 : Int32)), .val (.ref b18), .val (.ref b19)] [])) (fun _ k => st23 _ k) ?_
    refine OGo.st (T' := T23) (g' := (mkF m 90 #[.val (.long p0), .second, .val (.long p1), .second, .val (.long p2), .second, .val (.long p3), .second, .val (.long p4), .second, .val (.int p5), .val (.int (2 : Int32)), .val (.ref b18), .val (.ref b19)] [])) (fun _ k => (XS.iload X23.here hx rfl (hb hby at_54) rfl (XS.iconst X23.here hx rfl (hb hby at_56) (XS.icmpYes X23.here hx rfl (pc0 := 57) (pc' := 72) rfl (hb hby at_57) rfl (flt (by decide : ¬ ((2 : Int32) < (2 : Int32)))).2.2.2 (by decide) (by decide) (XS.iload X23.here hx rfl (hb hby at_72) rfl (XS.iconst X23.here hx rfl (hb hby at_74) (XS.icmpYes X23.here hx rfl (pc0 := 75) (pc' := 90) rfl (hb hby at_75) rfl (flt (by decide : ¬ ((3 : Int32) < (2 : Int32)))).2.2.2 (by decide) (by decide) k))))))) ?_
    refine OGo.st (T' := T23) (g' := (mkF m 94 #[.val (.long p0), .second, .val (.long p1), .second, .val (.long p2), .second, .val (.long p3), .second, .val (.long p4), .second, .val (.int p5), .val (.int (2 : Int32)), .val (.ref b18), .val (.ref b19)] [(.ref b19), (.ref b18)])) (fun _ k => (XS.aload X23.here hx rfl (hb hby at_90) rfl rfl (XS.aload X23.here hx rfl (hb hby at_92) rfl rfl k))) ?_
    obtain ⟨_, _, ⟨T24, L24, k24, n24⟩, -, X24, ⟨Lc24, hQ24, l24, y24, z24⟩, st24⟩ := Jvm.LawKit.callS X23 hx (y := (⟨"com/example/unify_to_cover/unifytocover/search/ValueSets", "copy", "([J[J)V"⟩ : MethodName)) hown (mvT hZ (hw _ (List.mem_of_getElem? (i := 1) rfl))) (mvT hZ (hw _ (List.mem_of_getElem? (i := 2) rfl))) (mvT hZ (hw _ (List.mem_of_getElem? (i := 3) rfl))) (mvT hZ (hw _ (List.mem_of_getElem? (i := 4) rfl))) (by decide) (backOf (W := 0) (rmC2 l Z a0 hw [] (b18) (p0) (p1) (b19) (p4) (p4) h23 n0 Zn23 (Ab18_23) (Ab19_23) (g_b19) (ne_b18_b19)) hZ (hw _ (List.mem_of_getElem? (i := 4) rfl)) (hw _ (List.mem_of_getElem? (i := 3) rfl)) (by decide) (by decide)) (g := (mkF m 94 #[.val (.long p0), .second, .val (.long p1), .second, .val (.long p2), .second, .val (.long p3), .second, .val (.long p4), .second, .val (.int p5), .val (.int (2 : Int32)), .val (.ref b18), .val (.ref b19)] [(.ref b19), (.ref b18)])) rfl (by rw [hml]; rfl) (argsL := [(.ref b18), (.ref b19)]) (rest := []) (lenOf own_pd1 rfl) rfl (by show 2 * 0 + _ ≤ _; exact Nat.le_of_eq rfl) (hb hby at_94) (fun _ _ => ⟨rfl, e23, (by decide : 2 + 0 ≤ _), (by decide : 4 + 0 ≤ _)⟩)
    dsimp only [Pt.U, Pt.locs, Pt.cells, Pt.slots] at X24 l24 y24 z24 st24 hQ24
    subst l24 y24 z24
    have X24 : Stand p l e room_1 s m _ below meth c T24 _ 2 4 := X24
    obtain ⟨h24, e24⟩ : ∃ z, T24.heap = z := ⟨_, rfl⟩
    rw [e24] at hQ24
    obtain ⟨rfl, Nq24, Kc24, G24x0⟩ := hQ24
    have N24 := Fr.app N23 Nq24
    have Ab18_24 : OArr Z h24 b18 .long 2 (fun j => .long ((own_L (0 : Int64) ([p0, p1] : List Int64)) j)) := Ab18_23.keep Kc24 (ninS ne_b18_b19 nin0)
    have Zn24 : n0 ≤ h24.size := Nat.le_trans Zn23 Kc24.1
    refine OGo.st (T' := T24) (g' := (mkF m 97 #[.val (.long p0), .second, .val (.long p1), .second, .val (.long p2), .second, .val (.long p3), .second, .val (.long p4), .second, .val (.int p5), .val (.int (2 : Int32)), .val (.ref b18), .val (.ref b19)] [])) (fun _ k => st24 _ k) ?_
    refine OGo.st (T' := T24) (g' := (mkF m 99 #[.val (.long p0), .second, .val (.long p1), .second, .val (.long p2), .second, .val (.long p3), .second, .val (.long p4), .second, .val (.int p5), .val (.int (2 : Int32)), .val (.ref b18), .val (.ref b19)] [(.ref b18)])) (fun _ k => (XS.aload X24.here hx rfl (hb hby at_97) rfl rfl k)) ?_
    refine OGo.st (T' := T24) (g' := (mkF m 107 #[.val (.long p0), .second, .val (.long p1), .second, .val (.long p2), .second, .val (.long p3), .second, .val (.long p4), .second, .val (.int p5), .val (.int (2 : Int32)), .val (.ref b18), .val (.ref b19)] [(.ref b19)])) (fun _ k => (own_len X24 hx hZ e24 Ab18_24 (g := (mkF m 99 #[.val (.long p0), .second, .val (.long p1), .second, .val (.long p2), .second, .val (.long p3), .second, .val (.long p4), .second, .val (.int p5), .val (.int (2 : Int32)), .val (.ref b18), .val (.ref b19)] [(.ref b18)])) rfl rfl (hb hby at_99) _ (XS.iload X24.here hx rfl (hb hby at_100) rfl (XS.icmpNo X24.here hx rfl (hb hby at_102) rfl (teq (by decide : (2 : Int32) = (2 : Int32))).2 (XS.aload X24.here hx rfl (hb hby at_105) rfl rfl k))))) ?_
    refine OGo.st (T' := T24) (g' := (mkF m 118 #[.val (.long p0), .second, .val (.long p1), .second, .val (.long p2), .second, .val (.long p3), .second, .val (.long p4), .second, .val (.int p5), .val (.int (2 : Int32)), .val (.ref b18), .val (.ref b19)] [(.int (0 : Int32)), (.ref b19), (.ref b18)])) (fun _ k => (own_len X24 hx hZ e24 G24x0 (g := (mkF m 107 #[.val (.long p0), .second, .val (.long p1), .second, .val (.long p2), .second, .val (.long p3), .second, .val (.long p4), .second, .val (.int p5), .val (.int (2 : Int32)), .val (.ref b18), .val (.ref b19)] [(.ref b19)])) rfl rfl (hb hby at_107) _ (XS.iload X24.here hx rfl (hb hby at_108) rfl (XS.icmpNo X24.here hx rfl (hb hby at_110) rfl (teq (by decide : (2 : Int32) = (2 : Int32))).2 (XS.aload X24.here hx rfl (hb hby at_113) rfl rfl (XS.aload X24.here hx rfl (hb hby at_115) rfl rfl (XS.iconst X24.here hx rfl (hb hby at_117) k))))))) ?_
    refine OGo.st (T' := T24) (g' := (mkF m 119 #[.val (.long p0), .second, .val (.long p1), .second, .val (.long p2), .second, .val (.long p3), .second, .val (.long p4), .second, .val (.int p5), .val (.int (2 : Int32)), .val (.ref b18), .val (.ref b19)] [(.long p0), (.int (0 : Int32)), (.ref b19), (.ref b18)])) (fun _ k => (XS.lloadN X24.here hx rfl (hb hby at_118) rfl k)) ?_
    obtain ⟨_, _, ⟨T25, L25, k25, n25⟩, -, X25, ⟨Lc25, hQ25, l25, y25, z25⟩, st25⟩ := Jvm.LawKit.callS X24 hx (y := (⟨"com/example/unify_to_cover/unifytocover/search/ValueSetsCopyPinLaw", "ok", "([J[JIJ)Z"⟩ : MethodName)) hown (mvT hZ (hw _ (List.mem_of_getElem? (i := 5) rfl))) (mvT hZ (hw _ (List.mem_of_getElem? (i := 6) rfl))) (mvT hZ (hw _ (List.mem_of_getElem? (i := 7) rfl))) (mvT hZ (hw _ (List.mem_of_getElem? (i := 8) rfl))) (by decide) (backOf (W := 0) (rmOY l Z a0 hw [] (b18) (2) ((own_L (0 : Int64) ([p0, p1] : List Int64))) (b19) (2) ((own_L (0 : Int64) ([p0, p1] : List Int64))) ((0 : Int32)) (p0) (0) h24 n0 Zn24 (Ab18_24) (G24x0) (by decide) (⟨by decide, by decide⟩) (by decide) (by decide) (rfl) (rfl)) hZ (hw _ (List.mem_of_getElem? (i := 8) rfl)) (hw _ (List.mem_of_getElem? (i := 7) rfl)) (by decide) (by decide)) (g := (mkF m 119 #[.val (.long p0), .second, .val (.long p1), .second, .val (.long p2), .second, .val (.long p3), .second, .val (.long p4), .second, .val (.int p5), .val (.int (2 : Int32)), .val (.ref b18), .val (.ref b19)] [(.long p0), (.int (0 : Int32)), (.ref b19), (.ref b18)])) rfl (by rw [hml]; rfl) (argsL := [(.ref b18), (.ref b19), (.int (0 : Int32)), (.long p0)]) (rest := []) (lenOf own_pd2 rfl) rfl (by show 2 * 0 + _ ≤ _; exact Nat.le_of_eq rfl) (hb hby at_119) (fun _ _ => ⟨rfl, e24, (by decide : 2 + 0 ≤ _), (by decide : 4 + 0 ≤ _)⟩)
    dsimp only [Pt.U, Pt.locs, Pt.cells, Pt.slots] at X25 l25 y25 z25 st25 hQ25
    subst l25 y25 z25
    have X25 : Stand p l e room_1 s m _ below meth c T25 _ 2 4 := X25
    obtain ⟨rfl, Nq25, e25⟩ := hQ25
    have N25 := Fr.app N24 Nq25
    refine OGo.st (T' := T25) (g' := (mkF m 122 #[.val (.long p0), .second, .val (.long p1), .second, .val (.long p2), .second, .val (.long p3), .second, .val (.long p4), .second, .val (.int p5), .val (.int (2 : Int32)), .val (.ref b18), .val (.ref b19)] [(.int (1 : Int32))])) (fun _ k => st25 _ k) ?_
    refine OGo.st (T' := T25) (g' := (mkF m 131 #[.val (.long p0), .second, .val (.long p1), .second, .val (.long p2), .second, .val (.long p3), .second, .val (.long p4), .second, .val (.int p5), .val (.int (2 : Int32)), .val (.ref b18), .val (.ref b19)] [(.long p1), (.int (1 : Int32)), (.ref b19), (.ref b18)])) (fun _ k => (XS.ifNo X25.here hx rfl (hb hby at_122) rfl ((if0 _ _).trans (feq (by decide : ¬ ((1 : Int32) = (0 : Int32)))).1) (XS.aload X25.here hx rfl (hb hby at_125) rfl rfl (XS.aload X25.here hx rfl (hb hby at_127) rfl rfl (XS.iconst X25.here hx rfl (hb hby at_129) (XS.lloadN X25.here hx rfl (hb hby at_130) rfl k)))))) ?_
    obtain ⟨_, _, ⟨T26, L26, k26, n26⟩, -, X26, ⟨Lc26, hQ26, l26, y26, z26⟩, st26⟩ := Jvm.LawKit.callS X25 hx (y := (⟨"com/example/unify_to_cover/unifytocover/search/ValueSetsCopyPinLaw", "ok", "([J[JIJ)Z"⟩ : MethodName)) hown (mvT hZ (hw _ (List.mem_of_getElem? (i := 5) rfl))) (mvT hZ (hw _ (List.mem_of_getElem? (i := 6) rfl))) (mvT hZ (hw _ (List.mem_of_getElem? (i := 7) rfl))) (mvT hZ (hw _ (List.mem_of_getElem? (i := 8) rfl))) (by decide) (backOf (W := 0) (rmOY l Z a0 hw [] (b18) (2) ((own_L (0 : Int64) ([p0, p1] : List Int64))) (b19) (2) ((own_L (0 : Int64) ([p0, p1] : List Int64))) ((1 : Int32)) (p1) (1) h24 n0 Zn24 (Ab18_24) (G24x0) (by decide) (⟨by decide, by decide⟩) (by decide) (by decide) (rfl) (rfl)) hZ (hw _ (List.mem_of_getElem? (i := 8) rfl)) (hw _ (List.mem_of_getElem? (i := 7) rfl)) (by decide) (by decide)) (g := (mkF m 131 #[.val (.long p0), .second, .val (.long p1), .second, .val (.long p2), .second, .val (.long p3), .second, .val (.long p4), .second, .val (.int p5), .val (.int (2 : Int32)), .val (.ref b18), .val (.ref b19)] [(.long p1), (.int (1 : Int32)), (.ref b19), (.ref b18)])) rfl (by rw [hml]; rfl) (argsL := [(.ref b18), (.ref b19), (.int (1 : Int32)), (.long p1)]) (rest := []) (lenOf own_pd2 rfl) rfl (by show 2 * 0 + _ ≤ _; exact Nat.le_of_eq rfl) (hb hby at_131) (fun _ _ => ⟨rfl, e25, (by decide : 2 + 0 ≤ _), (by decide : 4 + 0 ≤ _)⟩)
    dsimp only [Pt.U, Pt.locs, Pt.cells, Pt.slots] at X26 l26 y26 z26 st26 hQ26
    subst l26 y26 z26
    have X26 : Stand p l e room_1 s m _ below meth c T26 _ 2 4 := X26
    obtain ⟨rfl, Nq26, e26⟩ := hQ26
    have N26 := Fr.app N25 Nq26
    refine OGo.st (T' := T26) (g' := (mkF m 134 #[.val (.long p0), .second, .val (.long p1), .second, .val (.long p2), .second, .val (.long p3), .second, .val (.long p4), .second, .val (.int p5), .val (.int (2 : Int32)), .val (.ref b18), .val (.ref b19)] [(.int (1 : Int32))])) (fun _ k => st26 _ k) ?_
    refine OGo.st (T' := T26) (g' := (mkF m 144 #[.val (.long p0), .second, .val (.long p1), .second, .val (.long p2), .second, .val (.long p3), .second, .val (.long p4), .second, .val (.int p5), .val (.int (2 : Int32)), .val (.ref b18), .val (.ref b19)] [(.long p2), (.int (2 : Int32)), (.ref b19), (.ref b18)])) (fun _ k => (XS.ifNo X26.here hx rfl (hb hby at_134) rfl ((if0 _ _).trans (feq (by decide : ¬ ((1 : Int32) = (0 : Int32)))).1) (XS.aload X26.here hx rfl (hb hby at_137) rfl rfl (XS.aload X26.here hx rfl (hb hby at_139) rfl rfl (XS.iconst X26.here hx rfl (hb hby at_141) (XS.lload X26.here hx rfl (hb hby at_142) rfl k)))))) ?_
    obtain ⟨_, _, ⟨T27, L27, k27, n27⟩, -, X27, ⟨Lc27, hQ27, l27, y27, z27⟩, st27⟩ := Jvm.LawKit.callS X26 hx (y := (⟨"com/example/unify_to_cover/unifytocover/search/ValueSetsCopyPinLaw", "ok", "([J[JIJ)Z"⟩ : MethodName)) hown (mvT hZ (hw _ (List.mem_of_getElem? (i := 5) rfl))) (mvT hZ (hw _ (List.mem_of_getElem? (i := 6) rfl))) (mvT hZ (hw _ (List.mem_of_getElem? (i := 7) rfl))) (mvT hZ (hw _ (List.mem_of_getElem? (i := 8) rfl))) (by decide) (backOf (W := 0) (rmON l Z a0 hw [] (b18) (2) ((own_L (0 : Int64) ([p0, p1] : List Int64))) (b19) ((2 : Int32)) (p2) h24 n0 Zn24 (Ab18_24) (by decide)) hZ (hw _ (List.mem_of_getElem? (i := 8) rfl)) (hw _ (List.mem_of_getElem? (i := 7) rfl)) (by decide) (by decide)) (g := (mkF m 144 #[.val (.long p0), .second, .val (.long p1), .second, .val (.long p2), .second, .val (.long p3), .second, .val (.long p4), .second, .val (.int p5), .val (.int (2 : Int32)), .val (.ref b18), .val (.ref b19)] [(.long p2), (.int (2 : Int32)), (.ref b19), (.ref b18)])) rfl (by rw [hml]; rfl) (argsL := [(.ref b18), (.ref b19), (.int (2 : Int32)), (.long p2)]) (rest := []) (lenOf own_pd2 rfl) rfl (by show 2 * 0 + _ ≤ _; exact Nat.le_of_eq rfl) (hb hby at_144) (fun _ _ => ⟨rfl, e26, (by decide : 2 + 0 ≤ _), (by decide : 4 + 0 ≤ _)⟩)
    dsimp only [Pt.U, Pt.locs, Pt.cells, Pt.slots] at X27 l27 y27 z27 st27 hQ27
    subst l27 y27 z27
    have X27 : Stand p l e room_1 s m _ below meth c T27 _ 2 4 := X27
    obtain ⟨rfl, Nq27, e27⟩ := hQ27
    have N27 := Fr.app N26 Nq27
    refine OGo.st (T' := T27) (g' := (mkF m 147 #[.val (.long p0), .second, .val (.long p1), .second, .val (.long p2), .second, .val (.long p3), .second, .val (.long p4), .second, .val (.int p5), .val (.int (2 : Int32)), .val (.ref b18), .val (.ref b19)] [(.int (1 : Int32))])) (fun _ k => st27 _ k) ?_
    refine OGo.st (T' := T27) (g' := (mkF m 157 #[.val (.long p0), .second, .val (.long p1), .second, .val (.long p2), .second, .val (.long p3), .second, .val (.long p4), .second, .val (.int p5), .val (.int (2 : Int32)), .val (.ref b18), .val (.ref b19)] [(.long p3), (.int (3 : Int32)), (.ref b19), (.ref b18)])) (fun _ k => (XS.ifNo X27.here hx rfl (hb hby at_147) rfl ((if0 _ _).trans (feq (by decide : ¬ ((1 : Int32) = (0 : Int32)))).1) (XS.aload X27.here hx rfl (hb hby at_150) rfl rfl (XS.aload X27.here hx rfl (hb hby at_152) rfl rfl (XS.iconst X27.here hx rfl (hb hby at_154) (XS.lload X27.here hx rfl (hb hby at_155) rfl k)))))) ?_
    obtain ⟨_, _, ⟨T28, L28, k28, n28⟩, -, X28, ⟨Lc28, hQ28, l28, y28, z28⟩, st28⟩ := Jvm.LawKit.callS X27 hx (y := (⟨"com/example/unify_to_cover/unifytocover/search/ValueSetsCopyPinLaw", "ok", "([J[JIJ)Z"⟩ : MethodName)) hown (mvT hZ (hw _ (List.mem_of_getElem? (i := 5) rfl))) (mvT hZ (hw _ (List.mem_of_getElem? (i := 6) rfl))) (mvT hZ (hw _ (List.mem_of_getElem? (i := 7) rfl))) (mvT hZ (hw _ (List.mem_of_getElem? (i := 8) rfl))) (by decide) (backOf (W := 0) (rmON l Z a0 hw [] (b18) (2) ((own_L (0 : Int64) ([p0, p1] : List Int64))) (b19) ((3 : Int32)) (p3) h24 n0 Zn24 (Ab18_24) (by decide)) hZ (hw _ (List.mem_of_getElem? (i := 8) rfl)) (hw _ (List.mem_of_getElem? (i := 7) rfl)) (by decide) (by decide)) (g := (mkF m 157 #[.val (.long p0), .second, .val (.long p1), .second, .val (.long p2), .second, .val (.long p3), .second, .val (.long p4), .second, .val (.int p5), .val (.int (2 : Int32)), .val (.ref b18), .val (.ref b19)] [(.long p3), (.int (3 : Int32)), (.ref b19), (.ref b18)])) rfl (by rw [hml]; rfl) (argsL := [(.ref b18), (.ref b19), (.int (3 : Int32)), (.long p3)]) (rest := []) (lenOf own_pd2 rfl) rfl (by show 2 * 0 + _ ≤ _; exact Nat.le_of_eq rfl) (hb hby at_157) (fun _ _ => ⟨rfl, e27, (by decide : 2 + 0 ≤ _), (by decide : 4 + 0 ≤ _)⟩)
    dsimp only [Pt.U, Pt.locs, Pt.cells, Pt.slots] at X28 l28 y28 z28 st28 hQ28
    subst l28 y28 z28
    have X28 : Stand p l e room_1 s m _ below meth c T28 _ 2 4 := X28
    obtain ⟨rfl, Nq28, e28⟩ := hQ28
    have N28 := Fr.app N27 Nq28
    refine OGo.st (T' := T28) (g' := (mkF m 160 #[.val (.long p0), .second, .val (.long p1), .second, .val (.long p2), .second, .val (.long p3), .second, .val (.long p4), .second, .val (.int p5), .val (.int (2 : Int32)), .val (.ref b18), .val (.ref b19)] [(.int (1 : Int32))])) (fun _ k => st28 _ k) ?_
    refine OGo.st (T' := T28) (g' := (mkF m 168 #[.val (.long p0), .second, .val (.long p1), .second, .val (.long p2), .second, .val (.long p3), .second, .val (.long p4), .second, .val (.int p5), .val (.int (2 : Int32)), .val (.ref b18), .val (.ref b19)] [(.int (1 : Int32))])) (fun _ k => (XS.ifNo X28.here hx rfl (hb hby at_160) rfl ((if0 _ _).trans (feq (by decide : ¬ ((1 : Int32) = (0 : Int32)))).1) (XS.iconst X28.here hx rfl (hb hby at_163) (XS.goto X28.here hx rfl (pc0 := 164) (pc' := 168) rfl (hb hby at_164) (by decide) (by decide) k)))) ?_
    exact OGo.ret X28 hx hlk Bd.returns rfl (own_rI (Or.inr (Or.inl rfl))) (hb hby at_168) (by decide) (by decide) e28 (⟨rfl, N28⟩)
  · rw [hl1]
    refine OGo.st (T' := s₁) (g' := (mkF m 11 #[.val (.long p0), .second, .val (.long p1), .second, .val (.long p2), .second, .val (.long p3), .second, .val (.long p4), .second, .val (.int p5), .val (.int (3 : Int32)), .unset, .unset] [(.int (3 : Int32))])) (fun _ k => (XS.iload X0.here hx rfl (hb hby at_9) rfl k)) ?_
    obtain ⟨T29, h29, b29, g29, X29, e29, E29, V29, st29⟩ := own_newA X0 hx hZ (hw _ (List.mem_of_getElem? (i := 0) rfl)) e0 (g := (mkF m 11 #[.val (.long p0), .second, .val (.long p1), .second, .val (.long p2), .second, .val (.long p3), .second, .val (.long p4), .second, .val (.int p5), .val (.int (3 : Int32)), .unset, .unset] [(.int (3 : Int32))])) rfl (hb hby at_11) rfl (n := 3) ⟨by decide, by decide⟩ (cap := 3) (by decide) (by decide) (by decide) (by decide)
    have g_b29 : n0 ≤ b29 := Nat.le_trans Z0 (Nat.le_of_eq g29.symm)
    have A29 : OArr Z h29 b29 .long 3 (fun j => .long ((own_L (0 : Int64) ([(0 : Int64), (0 : Int64), (0 : Int64)] : List Int64)) j)) := OArr.cast V29 (fun j _ => congrArg Value.long (own_L_rep (0 : Int64) 3 j))
    have Zn29 : n0 ≤ h29.size := Nat.le_trans Z0 E29.1
    have X29 : Stand p l e room_1 s m _ below meth c T29 _ 1 3 := X29
    refine OGo.st (T' := T29) (g' := (mkF m 13 #[.val (.long p0), .second, .val (.long p1), .second, .val (.long p2), .second, .val (.long p3), .second, .val (.long p4), .second, .val (.int p5), .val (.int (3 : Int32)), .unset, .unset] [(.ref b29)])) (fun _ k => st29 _ k) ?_
    refine OGo.st (T' := T29) (g' := (mkF m 17 #[.val (.long p0), .second, .val (.long p1), .second, .val (.long p2), .second, .val (.long p3), .second, .val (.long p4), .second, .val (.int p5), .val (.int (3 : Int32)), .val (.ref b29), .unset] [(.int (3 : Int32))])) (fun _ k => (XS.astore X29.here hx rfl (hb hby at_13) rfl rfl (l' := #[.val (.long p0), .second, .val (.long p1), .second, .val (.long p2), .second, .val (.long p3), .second, .val (.long p4), .second, .val (.int p5), .val (.int (3 : Int32)), .val (.ref b29), .unset]) rfl (XS.iload X29.here hx rfl (hb hby at_15) rfl k))) ?_
    obtain ⟨T30, h30, b30, g30, X30, e30, E30, V30, st30⟩ := own_newA X29 hx hZ (hw _ (List.mem_of_getElem? (i := 0) rfl)) e29 (g := (mkF m 17 #[.val (.long p0), .second, .val (.long p1), .second, .val (.long p2), .second, .val (.long p3), .second, .val (.long p4), .second, .val (.int p5), .val (.int (3 : Int32)), .val (.ref b29), .unset] [(.int (3 : Int32))])) rfl (hb hby at_17) rfl (n := 3) ⟨by decide, by decide⟩ (cap := 3) (by decide) (by decide) (by decide) (by decide)
    have ne_b29_b30 : b29 ≠ b30 := Nat.ne_of_lt (Nat.lt_of_lt_of_le A29.lt (Nat.le_of_eq g30.symm))
    have g_b30 : n0 ≤ b30 := Nat.le_trans Zn29 (Nat.le_of_eq g30.symm)
    have A30 : OArr Z h30 b30 .long 3 (fun j => .long ((own_L (0 : Int64) ([(0 : Int64), (0 : Int64), (0 : Int64)] : List Int64)) j)) := OArr.cast V30 (fun j _ => congrArg Value.long (own_L_rep (0 : Int64) 3 j))
    have A29_30 : OArr Z h30 b29 .long 3 (fun j => .long ((own_L (0 : Int64) ([(0 : Int64), (0 : Int64), (0 : Int64)] : List Int64)) j)) := A29.ext E30
    have Zn30 : n0 ≤ h30.size := Nat.le_trans Zn29 E30.1
    have X30 : Stand p l e room_1 s m _ below meth c T30 _ 2 6 := X30
    refine OGo.st (T' := T30) (g' := (mkF m 19 #[.val (.long p0), .second, .val (.long p1), .second, .val (.long p2), .second, .val (.long p3), .second, .val (.long p4), .second, .val (.int p5), .val (.int (3 : Int32)), .val (.ref b29), .unset] [(.ref b30)])) (fun _ k => st30 _ k) ?_
    refine OGo.st (T' := T30) (g' := (mkF m 30 #[.val (.long p0), .second, .val (.long p1), .second, .val (.long p2), .second, .val (.long p3), .second, .val (.long p4), .second, .val (.int p5), .val (.int (3 : Int32)), .val (.ref b29), .val (.ref b30)] [(.long p0), (.int (0 : Int32)), (.ref b29)])) (fun _ k => (XS.astore X30.here hx rfl (hb hby at_19) rfl rfl (l' := #[.val (.long p0), .second, .val (.long p1), .second, .val (.long p2), .second, .val (.long p3), .second, .val (.long p4), .second, .val (.int p5), .val (.int (3 : Int32)), .val (.ref b29), .val (.ref b30)]) rfl (XS.iload X30.here hx rfl (hb hby at_21) rfl (XS.ifNo X30.here hx rfl (hb hby at_23) rfl ((if0 _ _).trans (tlt (by decide : (0 : Int32) < (3 : Int32))).2.2.2) (XS.aload X30.here hx rfl (hb hby at_26) rfl rfl (XS.iconst X30.here hx rfl (hb hby at_28) (XS.lloadN X30.here hx rfl (hb hby at_29) rfl k))))))) ?_
    obtain ⟨T31, h31, X31, e31, W31, V31, st31⟩ := own_stJ X30 hx hZ e30 A29_30 (j := (0 : Int32)) (i := 0) ⟨by decide, by decide⟩ (by decide) (g := (mkF m 30 #[.val (.long p0), .second, .val (.long p1), .second, .val (.long p2), .second, .val (.long p3), .second, .val (.long p4), .second, .val (.int p5), .val (.int (3 : Int32)), .val (.ref b29), .val (.ref b30)] [(.long p0), (.int (0 : Int32)), (.ref b29)])) rfl rfl (hb hby at_30)
    have Ab29_31 : OArr Z h31 b29 .long 3 (fun j => .long ((own_L (0 : Int64) ([p0, (0 : Int64), (0 : Int64)] : List Int64)) j)) := V31.cast (fun j _ => (own_updJ _ _ _ j).trans (congrArg Value.long (own_L_set (0 : Int64) ([(0 : Int64), (0 : Int64), (0 : Int64)] : List Int64) 0 p0 (Nat.le_of_ble_eq_true rfl) j)))
    have N31 := Fr.snoc X31 N0 g_b29
    have A30_31 : OArr Z h31 b30 .long 3 (fun j => .long ((own_L (0 : Int64) ([(0 : Int64), (0 : Int64), (0 : Int64)] : List Int64)) j)) := A30.other W31 (Ne.symm ne_b29_b30)
    have Zn31 : n0 ≤ h31.size := Nat.le_trans Zn30 (Nat.le_of_eq W31.size.symm)
    refine OGo.st (T' := T31) (g' := (mkF m 31 #[.val (.long p0), .second, .val (.long p1), .second, .val (.long p2), .second, .val (.long p3), .second, .val (.long p4), .second, .val (.int p5), .val (.int (3 : Int32)), .val (.ref b29), .val (.ref b30)] [])) (fun _ k => st31 _ k) ?_
    refine OGo.st (T' := T31) (g' := (mkF m 36 #[.val (.long p0), .second, .val (.long p1), .second, .val (.long p2), .second, .val (.long p3), .second, .val (.long p4), .second, .val (.int p5), .val (.int (3 : Int32)), .val (.ref b29), .val (.ref b30)] [(.long p4), (.int (0 : Int32)), (.ref b30)])) (fun _ k => (XS.aload X31.here hx rfl (hb hby at_31) rfl rfl (XS.iconst X31.here hx rfl (hb hby at_33) (XS.lload X31.here hx rfl (hb hby at_34) rfl k)))) ?_
    obtain ⟨T32, h32, X32, e32, W32, V32, st32⟩ := own_stJ X31 hx hZ e31 A30_31 (j := (0 : Int32)) (i := 0) ⟨by decide, by decide⟩ (by decide) (g := (mkF m 36 #[.val (.long p0), .second, .val (.long p1), .second, .val (.long p2), .second, .val (.long p3), .second, .val (.long p4), .second, .val (.int p5), .val (.int (3 : Int32)), .val (.ref b29), .val (.ref b30)] [(.long p4), (.int (0 : Int32)), (.ref b30)])) rfl rfl (hb hby at_36)
    have Ab30_32 : OArr Z h32 b30 .long 3 (fun j => .long ((own_L (0 : Int64) ([p4, (0 : Int64), (0 : Int64)] : List Int64)) j)) := V32.cast (fun j _ => (own_updJ _ _ _ j).trans (congrArg Value.long (own_L_set (0 : Int64) ([(0 : Int64), (0 : Int64), (0 : Int64)] : List Int64) 0 p4 (Nat.le_of_ble_eq_true rfl) j)))
    have N32 := Fr.snoc X32 N31 g_b30
    have Ab29_32 : OArr Z h32 b29 .long 3 (fun j => .long ((own_L (0 : Int64) ([p0, (0 : Int64), (0 : Int64)] : List Int64)) j)) := Ab29_31.other W32 ne_b29_b30
    have Zn32 : n0 ≤ h32.size := Nat.le_trans Zn31 (Nat.le_of_eq W32.size.symm)
    refine OGo.st (T' := T32) (g' := (mkF m 37 #[.val (.long p0), .second, .val (.long p1), .second, .val (.long p2), .second, .val (.long p3), .second, .val (.long p4), .second, .val (.int p5), .val (.int (3 : Int32)), .val (.ref b29), .val (.ref b30)] [])) (fun _ k => st32 _ k) ?_
    refine OGo.st (T' := T32) (g' := (mkF m 47 #[.val (.long p0), .second, .val (.long p1), .second, .val (.long p2), .second, .val (.long p3), .second, .val (.long p4), .second, .val (.int p5), .val (.int (3 : Int32)), .val (.ref b29), .val (.ref b30)] [(.long p1), (.int (1 : Int32)), (.ref b29)])) (fun _ k => (XS.iload X32.here hx rfl (hb hby at_37) rfl (XS.iconst X32.here hx rfl (hb hby at_39) (XS.icmpNo X32.here hx rfl (hb hby at_40) rfl (tlt (by decide : (1 : Int32) < (3 : Int32))).2.2.2 (XS.aload X32.here hx rfl (hb hby at_43) rfl rfl (XS.iconst X32.here hx rfl (hb hby at_45) (XS.lloadN X32.here hx rfl (hb hby at_46) rfl k))))))) ?_
    obtain ⟨T33, h33, X33, e33, W33, V33, st33⟩ := own_stJ X32 hx hZ e32 Ab29_32 (j := (1 : Int32)) (i := 1) ⟨by decide, by decide⟩ (by decide) (g := (mkF m 47 #[.val (.long p0), .second, .val (.long p1), .second, .val (.long p2), .second, .val (.long p3), .second, .val (.long p4), .second, .val (.int p5), .val (.int (3 : Int32)), .val (.ref b29), .val (.ref b30)] [(.long p1), (.int (1 : Int32)), (.ref b29)])) rfl rfl (hb hby at_47)
    have Ab29_33 : OArr Z h33 b29 .long 3 (fun j => .long ((own_L (0 : Int64) ([p0, p1, (0 : Int64)] : List Int64)) j)) := V33.cast (fun j _ => (own_updJ _ _ _ j).trans (congrArg Value.long (own_L_set (0 : Int64) ([p0, (0 : Int64), (0 : Int64)] : List Int64) 1 p1 (Nat.le_of_ble_eq_true rfl) j)))
    have N33 := Fr.snoc X33 N32 g_b29
    have Ab30_33 : OArr Z h33 b30 .long 3 (fun j => .long ((own_L (0 : Int64) ([p4, (0 : Int64), (0 : Int64)] : List Int64)) j)) := Ab30_32.other W33 (Ne.symm ne_b29_b30)
    have Zn33 : n0 ≤ h33.size := Nat.le_trans Zn32 (Nat.le_of_eq W33.size.symm)
    refine OGo.st (T' := T33) (g' := (mkF m 48 #[.val (.long p0), .second, .val (.long p1), .second, .val (.long p2), .second, .val (.long p3), .second, .val (.long p4), .second, .val (.int p5), .val (.int (3 : Int32)), .val (.ref b29), .val (.ref b30)] [])) (fun _ k => st33 _ k) ?_
    refine OGo.st (T' := T33) (g' := (mkF m 53 #[.val (.long p0), .second, .val (.long p1), .second, .val (.long p2), .second, .val (.long p3), .second, .val (.long p4), .second, .val (.int p5), .val (.int (3 : Int32)), .val (.ref b29), .val (.ref b30)] [(.long p4), (.int (1 : Int32)), (.ref b30)])) (fun _ k => (XS.aload X33.here hx rfl (hb hby at_48) rfl rfl (XS.iconst X33.here hx rfl (hb hby at_50) (XS.lload X33.here hx rfl (hb hby at_51) rfl k)))) ?_
    obtain ⟨T34, h34, X34, e34, W34, V34, st34⟩ := own_stJ X33 hx hZ e33 Ab30_33 (j := (1 : Int32)) (i := 1) ⟨by decide, by decide⟩ (by decide) (g := (mkF m 53 #[.val (.long p0), .second, .val (.long p1), .second, .val (.long p2), .second, .val (.long p3), .second, .val (.long p4), .second, .val (.int p5), .val (.int (3 : Int32)), .val (.ref b29), .val (.ref b30)] [(.long p4), (.int (1 : Int32)), (.ref b30)])) rfl rfl (hb hby at_53)
    have Ab30_34 : OArr Z h34 b30 .long 3 (fun j => .long ((own_L (0 : Int64) ([p4, p4, (0 : Int64)] : List Int64)) j)) := V34.cast (fun j _ => (own_updJ _ _ _ j).trans (congrArg Value.long (own_L_set (0 : Int64) ([p4, (0 : Int64), (0 : Int64)] : List Int64) 1 p4 (Nat.le_of_ble_eq_true rfl) j)))
    have N34 := Fr.snoc X34 N33 g_b30
    have Ab29_34 : OArr Z h34 b29 .long 3 (fun j => .long ((own_L (0 : Int64) ([p0, p1, (0 : Int64)] : List Int64)) j)) := Ab29_33.other W34 ne_b29_b30
    have Zn34 : n0 ≤ h34.size := Nat.le_trans Zn33 (Nat.le_of_eq W34.size.symm)
    refine OGo.st (T' := T34) (g' := (mkF m 54 #[.val (.long p0), .second, .val (.long p1), .second, .val (.long p2), .second, .val (.long p3), .second, .val (.long p4), .second, .val (.int p5), .val (.int (3 : Int32)), .val (.ref b29), .val (.ref b30)] [])) (fun _ k => st34 _ k) ?_
    refine OGo.st (T' := T34) (g' := (mkF m 65 #[.val (.long p0), .second, .val (.long p1), .second, .val (.long p2), .second, .val (.long p3), .second, .val (.long p4), .second, .val (.int p5), .val (.int (3 : Int32)), .val (.ref b29), .val (.ref b30)] [(.long p2), (.int (2 : Int32)), (.ref b29)])) (fun _ k => (XS.iload X34.here hx rfl (hb hby at_54) rfl (XS.iconst X34.here hx rfl (hb hby at_56) (XS.icmpNo X34.here hx rfl (hb hby at_57) rfl (tlt (by decide : (2 : Int32) < (3 : Int32))).2.2.2 (XS.aload X34.here hx rfl (hb hby at_60) rfl rfl (XS.iconst X34.here hx rfl (hb hby at_62) (XS.lload X34.here hx rfl (hb hby at_63) rfl k))))))) ?_
    obtain ⟨T35, h35, X35, e35, W35, V35, st35⟩ := own_stJ X34 hx hZ e34 Ab29_34 (j := (2 : Int32)) (i := 2) ⟨by decide, by decide⟩ (by decide) (g := (mkF m 65 #[.val (.long p0), .second, .val (.long p1), .second, .val (.long p2), .second, .val (.long p3), .second, .val (.long p4), .second, .val (.int p5), .val (.int (3 : Int32)), .val (.ref b29), .val (.ref b30)] [(.long p2), (.int (2 : Int32)), (.ref b29)])) rfl rfl (hb hby at_65)
    have Ab29_35 : OArr Z h35 b29 .long 3 (fun j => .long ((own_L (0 : Int64) ([p0, p1, p2] : List Int64)) j)) := V35.cast (fun j _ => (own_updJ _ _ _ j).trans (congrArg Value.long (own_L_set (0 : Int64) ([p0, p1, (0 : Int64)] : List Int64) 2 p2 (Nat.le_of_ble_eq_true rfl) j)))
    have N35 := Fr.snoc X35 N34 g_b29
    have Ab30_35 : OArr Z h35 b30 .long 3 (fun j => .long ((own_L (0 : Int64) ([p4, p4, (0 : Int64)] : List Int64)) j)) := Ab30_34.other W35 (Ne.symm ne_b29_b30)
    have Zn35 : n0 ≤ h35.size := Nat.le_trans Zn34 (Nat.le_of_eq W35.size.symm)
    refine OGo.st (T' := T35) (g' := (mkF m 66 #[.val (.long p0), .second, .val (.long p1), .second, .val (.long p2), .second, .val (.long p3), .second, .val (.long p4), .second, .val (.int p5), .val (.int (3 : Int32)), .val (.ref b29), .val (.ref b30)] [])) (fun _ k => st35 _ k) ?_
    refine OGo.st (T' := T35) (g' := (mkF m 71 #[.val (.long p0), .second, .val (.long p1), .second, .val (.long p2), .second, .val (.long p3), .second, .val (.long p4), .second, .val (.int p5), .val (.int (3 : Int32)), .val (.ref b29), .val (.ref b30)] [(.long p4), (.int (2 : Int32)), (.ref b30)])) (fun _ k => (XS.aload X35.here hx rfl (hb hby at_66) rfl rfl (XS.iconst X35.here hx rfl (hb hby at_68) (XS.lload X35.here hx rfl (hb hby at_69) rfl k)))) ?_
    obtain ⟨T36, h36, X36, e36, W36, V36, st36⟩ := own_stJ X35 hx hZ e35 Ab30_35 (j := (2 : Int32)) (i := 2) ⟨by decide, by decide⟩ (by decide) (g := (mkF m 71 #[.val (.long p0), .second, .val (.long p1), .second, .val (.long p2), .second, .val (.long p3), .second, .val (.long p4), .second, .val (.int p5), .val (.int (3 : Int32)), .val (.ref b29), .val (.ref b30)] [(.long p4), (.int (2 : Int32)), (.ref b30)])) rfl rfl (hb hby at_71)
    have Ab30_36 : OArr Z h36 b30 .long 3 (fun j => .long ((own_L (0 : Int64) ([p4, p4, p4] : List Int64)) j)) := V36.cast (fun j _ => (own_updJ _ _ _ j).trans (congrArg Value.long (own_L_set (0 : Int64) ([p4, p4, (0 : Int64)] : List Int64) 2 p4 (Nat.le_of_ble_eq_true rfl) j)))
    have N36 := Fr.snoc X36 N35 g_b30
    have Ab29_36 : OArr Z h36 b29 .long 3 (fun j => .long ((own_L (0 : Int64) ([p0, p1, p2] : List Int64)) j)) := Ab29_35.other W36 ne_b29_b30
    have Zn36 : n0 ≤ h36.size := Nat.le_trans Zn35 (Nat.le_of_eq W36.size.symm)
    refine OGo.st (T' := T36) (g' := (mkF m 72 #[.val (.long p0), .second, .val (.long p1), .second, .val (.long p2), .second, .val (.long p3), .second, .val (.long p4), .second, .val (.int p5), .val (.int (3 : Int32)), .val (.ref b29), .val (.ref b30)] [])) (fun _ k => st36 _ k) ?_
    refine OGo.st (T' := T36) (g' := (mkF m 94 #[.val (.long p0), .second, .val (.long p1), .second, .val (.long p2), .second, .val (.long p3), .second, .val (.long p4), .second, .val (.int p5), .val (.int (3 : Int32)), .val (.ref b29), .val (.ref b30)] [(.ref b30), (.ref b29)])) (fun _ k => (XS.iload X36.here hx rfl (hb hby at_72) rfl (XS.iconst X36.here hx rfl (hb hby at_74) (XS.icmpYes X36.here hx rfl (pc0 := 75) (pc' := 90) rfl (hb hby at_75) rfl (flt (by decide : ¬ ((3 : Int32) < (3 : Int32)))).2.2.2 (by decide) (by decide) (XS.aload X36.here hx rfl (hb hby at_90) rfl rfl (XS.aload X36.here hx rfl (hb hby at_92) rfl rfl k)))))) ?_
    obtain ⟨_, _, ⟨T37, L37, k37, n37⟩, -, X37, ⟨Lc37, hQ37, l37, y37, z37⟩, st37⟩ := Jvm.LawKit.callS X36 hx (y := (⟨"com/example/unify_to_cover/unifytocover/search/ValueSets", "copy", "([J[J)V"⟩ : MethodName)) hown (mvT hZ (hw _ (List.mem_of_getElem? (i := 1) rfl))) (mvT hZ (hw _ (List.mem_of_getElem? (i := 2) rfl))) (mvT hZ (hw _ (List.mem_of_getElem? (i := 3) rfl))) (mvT hZ (hw _ (List.mem_of_getElem? (i := 4) rfl))) (by decide) (backOf (W := 0) (rmC3 l Z a0 hw [] (b29) (p0) (p1) (p2) (b30) (p4) (p4) (p4) h36 n0 Zn36 (Ab29_36) (Ab30_36) (g_b30) (ne_b29_b30)) hZ (hw _ (List.mem_of_getElem? (i := 4) rfl)) (hw _ (List.mem_of_getElem? (i := 3) rfl)) (by decide) (by decide)) (g := (mkF m 94 #[.val (.long p0), .second, .val (.long p1), .second, .val (.long p2), .second, .val (.long p3), .second, .val (.long p4), .second, .val (.int p5), .val (.int (3 : Int32)), .val (.ref b29), .val (.ref b30)] [(.ref b30), (.ref b29)])) rfl (by rw [hml]; rfl) (argsL := [(.ref b29), (.ref b30)]) (rest := []) (lenOf own_pd1 rfl) rfl (by show 2 * 0 + _ ≤ _; exact Nat.le_of_eq rfl) (hb hby at_94) (fun _ _ => ⟨rfl, e36, (by decide : 2 + 0 ≤ _), (by decide : 6 + 0 ≤ _)⟩)
    dsimp only [Pt.U, Pt.locs, Pt.cells, Pt.slots] at X37 l37 y37 z37 st37 hQ37
    subst l37 y37 z37
    have X37 : Stand p l e room_1 s m _ below meth c T37 _ 2 6 := X37
    obtain ⟨h37, e37⟩ : ∃ z, T37.heap = z := ⟨_, rfl⟩
    rw [e37] at hQ37
    obtain ⟨rfl, Nq37, Kc37, G37x0⟩ := hQ37
    have N37 := Fr.app N36 Nq37
    have Ab29_37 : OArr Z h37 b29 .long 3 (fun j => .long ((own_L (0 : Int64) ([p0, p1, p2] : List Int64)) j)) := Ab29_36.keep Kc37 (ninS ne_b29_b30 nin0)
    have Zn37 : n0 ≤ h37.size := Nat.le_trans Zn36 Kc37.1
    refine OGo.st (T' := T37) (g' := (mkF m 97 #[.val (.long p0), .second, .val (.long p1), .second, .val (.long p2), .second, .val (.long p3), .second, .val (.long p4), .second, .val (.int p5), .val (.int (3 : Int32)), .val (.ref b29), .val (.ref b30)] [])) (fun _ k => st37 _ k) ?_
    refine OGo.st (T' := T37) (g' := (mkF m 99 #[.val (.long p0), .second, .val (.long p1), .second, .val (.long p2), .second, .val (.long p3), .second, .val (.long p4), .second, .val (.int p5), .val (.int (3 : Int32)), .val (.ref b29), .val (.ref b30)] [(.ref b29)])) (fun _ k => (XS.aload X37.here hx rfl (hb hby at_97) rfl rfl k)) ?_
    refine OGo.st (T' := T37) (g' := (mkF m 107 #[.val (.long p0), .second, .val (.long p1), .second, .val (.long p2), .second, .val (.long p3), .second, .val (.long p4), .second, .val (.int p5), .val (.int (3 : Int32)), .val (.ref b29), .val (.ref b30)] [(.ref b30)])) (fun _ k => (own_len X37 hx hZ e37 Ab29_37 (g := (mkF m 99 #[.val (.long p0), .second, .val (.long p1), .second, .val (.long p2), .second, .val (.long p3), .second, .val (.long p4), .second, .val (.int p5), .val (.int (3 : Int32)), .val (.ref b29), .val (.ref b30)] [(.ref b29)])) rfl rfl (hb hby at_99) _ (XS.iload X37.here hx rfl (hb hby at_100) rfl (XS.icmpNo X37.here hx rfl (hb hby at_102) rfl (teq (by decide : (3 : Int32) = (3 : Int32))).2 (XS.aload X37.here hx rfl (hb hby at_105) rfl rfl k))))) ?_
    refine OGo.st (T' := T37) (g' := (mkF m 118 #[.val (.long p0), .second, .val (.long p1), .second, .val (.long p2), .second, .val (.long p3), .second, .val (.long p4), .second, .val (.int p5), .val (.int (3 : Int32)), .val (.ref b29), .val (.ref b30)] [(.int (0 : Int32)), (.ref b30), (.ref b29)])) (fun _ k => (own_len X37 hx hZ e37 G37x0 (g := (mkF m 107 #[.val (.long p0), .second, .val (.long p1), .second, .val (.long p2), .second, .val (.long p3), .second, .val (.long p4), .second, .val (.int p5), .val (.int (3 : Int32)), .val (.ref b29), .val (.ref b30)] [(.ref b30)])) rfl rfl (hb hby at_107) _ (XS.iload X37.here hx rfl (hb hby at_108) rfl (XS.icmpNo X37.here hx rfl (hb hby at_110) rfl (teq (by decide : (3 : Int32) = (3 : Int32))).2 (XS.aload X37.here hx rfl (hb hby at_113) rfl rfl (XS.aload X37.here hx rfl (hb hby at_115) rfl rfl (XS.iconst X37.here hx rfl (hb hby at_117) k))))))) ?_
    refine OGo.st (T' := T37) (g' := (mkF m 119 #[.val (.long p0), .second, .val (.long p1), .second, .val (.long p2), .second, .val (.long p3), .second, .val (.long p4), .second, .val (.int p5), .val (.int (3 : Int32)), .val (.ref b29), .val (.ref b30)] [(.long p0), (.int (0 : Int32)), (.ref b30), (.ref b29)])) (fun _ k => (XS.lloadN X37.here hx rfl (hb hby at_118) rfl k)) ?_
    obtain ⟨_, _, ⟨T38, L38, k38, n38⟩, -, X38, ⟨Lc38, hQ38, l38, y38, z38⟩, st38⟩ := Jvm.LawKit.callS X37 hx (y := (⟨"com/example/unify_to_cover/unifytocover/search/ValueSetsCopyPinLaw", "ok", "([J[JIJ)Z"⟩ : MethodName)) hown (mvT hZ (hw _ (List.mem_of_getElem? (i := 5) rfl))) (mvT hZ (hw _ (List.mem_of_getElem? (i := 6) rfl))) (mvT hZ (hw _ (List.mem_of_getElem? (i := 7) rfl))) (mvT hZ (hw _ (List.mem_of_getElem? (i := 8) rfl))) (by decide) (backOf (W := 0) (rmOY l Z a0 hw [] (b29) (3) ((own_L (0 : Int64) ([p0, p1, p2] : List Int64))) (b30) (3) ((own_L (0 : Int64) ([p0, p1, p2] : List Int64))) ((0 : Int32)) (p0) (0) h37 n0 Zn37 (Ab29_37) (G37x0) (by decide) (⟨by decide, by decide⟩) (by decide) (by decide) (rfl) (rfl)) hZ (hw _ (List.mem_of_getElem? (i := 8) rfl)) (hw _ (List.mem_of_getElem? (i := 7) rfl)) (by decide) (by decide)) (g := (mkF m 119 #[.val (.long p0), .second, .val (.long p1), .second, .val (.long p2), .second, .val (.long p3), .second, .val (.long p4), .second, .val (.int p5), .val (.int (3 : Int32)), .val (.ref b29), .val (.ref b30)] [(.long p0), (.int (0 : Int32)), (.ref b30), (.ref b29)])) rfl (by rw [hml]; rfl) (argsL := [(.ref b29), (.ref b30), (.int (0 : Int32)), (.long p0)]) (rest := []) (lenOf own_pd2 rfl) rfl (by show 2 * 0 + _ ≤ _; exact Nat.le_of_eq rfl) (hb hby at_119) (fun _ _ => ⟨rfl, e37, (by decide : 2 + 0 ≤ _), (by decide : 6 + 0 ≤ _)⟩)
    dsimp only [Pt.U, Pt.locs, Pt.cells, Pt.slots] at X38 l38 y38 z38 st38 hQ38
    subst l38 y38 z38
    have X38 : Stand p l e room_1 s m _ below meth c T38 _ 2 6 := X38
    obtain ⟨rfl, Nq38, e38⟩ := hQ38
    have N38 := Fr.app N37 Nq38
    refine OGo.st (T' := T38) (g' := (mkF m 122 #[.val (.long p0), .second, .val (.long p1), .second, .val (.long p2), .second, .val (.long p3), .second, .val (.long p4), .second, .val (.int p5), .val (.int (3 : Int32)), .val (.ref b29), .val (.ref b30)] [(.int (1 : Int32))])) (fun _ k => st38 _ k) ?_
    refine OGo.st (T' := T38) (g' := (mkF m 131 #[.val (.long p0), .second, .val (.long p1), .second, .val (.long p2), .second, .val (.long p3), .second, .val (.long p4), .second, .val (.int p5), .val (.int (3 : Int32)), .val (.ref b29), .val (.ref b30)] [(.long p1), (.int (1 : Int32)), (.ref b30), (.ref b29)])) (fun _ k => (XS.ifNo X38.here hx rfl (hb hby at_122) rfl ((if0 _ _).trans (feq (by decide : ¬ ((1 : Int32) = (0 : Int32)))).1) (XS.aload X38.here hx rfl (hb hby at_125) rfl rfl (XS.aload X38.here hx rfl (hb hby at_127) rfl rfl (XS.iconst X38.here hx rfl (hb hby at_129) (XS.lloadN X38.here hx rfl (hb hby at_130) rfl k)))))) ?_
    obtain ⟨_, _, ⟨T39, L39, k39, n39⟩, -, X39, ⟨Lc39, hQ39, l39, y39, z39⟩, st39⟩ := Jvm.LawKit.callS X38 hx (y := (⟨"com/example/unify_to_cover/unifytocover/search/ValueSetsCopyPinLaw", "ok", "([J[JIJ)Z"⟩ : MethodName)) hown (mvT hZ (hw _ (List.mem_of_getElem? (i := 5) rfl))) (mvT hZ (hw _ (List.mem_of_getElem? (i := 6) rfl))) (mvT hZ (hw _ (List.mem_of_getElem? (i := 7) rfl))) (mvT hZ (hw _ (List.mem_of_getElem? (i := 8) rfl))) (by decide) (backOf (W := 0) (rmOY l Z a0 hw [] (b29) (3) ((own_L (0 : Int64) ([p0, p1, p2] : List Int64))) (b30) (3) ((own_L (0 : Int64) ([p0, p1, p2] : List Int64))) ((1 : Int32)) (p1) (1) h37 n0 Zn37 (Ab29_37) (G37x0) (by decide) (⟨by decide, by decide⟩) (by decide) (by decide) (rfl) (rfl)) hZ (hw _ (List.mem_of_getElem? (i := 8) rfl)) (hw _ (List.mem_of_getElem? (i := 7) rfl)) (by decide) (by decide)) (g := (mkF m 131 #[.val (.long p0), .second, .val (.long p1), .second, .val (.long p2), .second, .val (.long p3), .second, .val (.long p4), .second, .val (.int p5), .val (.int (3 : Int32)), .val (.ref b29), .val (.ref b30)] [(.long p1), (.int (1 : Int32)), (.ref b30), (.ref b29)])) rfl (by rw [hml]; rfl) (argsL := [(.ref b29), (.ref b30), (.int (1 : Int32)), (.long p1)]) (rest := []) (lenOf own_pd2 rfl) rfl (by show 2 * 0 + _ ≤ _; exact Nat.le_of_eq rfl) (hb hby at_131) (fun _ _ => ⟨rfl, e38, (by decide : 2 + 0 ≤ _), (by decide : 6 + 0 ≤ _)⟩)
    dsimp only [Pt.U, Pt.locs, Pt.cells, Pt.slots] at X39 l39 y39 z39 st39 hQ39
    subst l39 y39 z39
    have X39 : Stand p l e room_1 s m _ below meth c T39 _ 2 6 := X39
    obtain ⟨rfl, Nq39, e39⟩ := hQ39
    have N39 := Fr.app N38 Nq39
    refine OGo.st (T' := T39) (g' := (mkF m 134 #[.val (.long p0), .second, .val (.long p1), .second, .val (.long p2), .second, .val (.long p3), .second, .val (.long p4), .second, .val (.int p5), .val (.int (3 : Int32)), .val (.ref b29), .val (.ref b30)] [(.int (1 : Int32))])) (fun _ k => st39 _ k) ?_
    refine OGo.st (T' := T39) (g' := (mkF m 144 #[.val (.long p0), .second, .val (.long p1), .second, .val (.long p2), .second, .val (.long p3), .second, .val (.long p4), .second, .val (.int p5), .val (.int (3 : Int32)), .val (.ref b29), .val (.ref b30)] [(.long p2), (.int (2 : Int32)), (.ref b30), (.ref b29)])) (fun _ k => (XS.ifNo X39.here hx rfl (hb hby at_134) rfl ((if0 _ _).trans (feq (by decide : ¬ ((1 : Int32) = (0 : Int32)))).1) (XS.aload X39.here hx rfl (hb hby at_137) rfl rfl (XS.aload X39.here hx rfl (hb hby at_139) rfl rfl (XS.iconst X39.here hx rfl (hb hby at_141) (XS.lload X39.here hx rfl (hb hby at_142) rfl k)))))) ?_
    obtain ⟨_, _, ⟨T40, L40, k40, n40⟩, -, X40, ⟨Lc40, hQ40, l40, y40, z40⟩, st40⟩ := Jvm.LawKit.callS X39 hx (y := (⟨"com/example/unify_to_cover/unifytocover/search/ValueSetsCopyPinLaw", "ok", "([J[JIJ)Z"⟩ : MethodName)) hown (mvT hZ (hw _ (List.mem_of_getElem? (i := 5) rfl))) (mvT hZ (hw _ (List.mem_of_getElem? (i := 6) rfl))) (mvT hZ (hw _ (List.mem_of_getElem? (i := 7) rfl))) (mvT hZ (hw _ (List.mem_of_getElem? (i := 8) rfl))) (by decide) (backOf (W := 0) (rmOY l Z a0 hw [] (b29) (3) ((own_L (0 : Int64) ([p0, p1, p2] : List Int64))) (b30) (3) ((own_L (0 : Int64) ([p0, p1, p2] : List Int64))) ((2 : Int32)) (p2) (2) h37 n0 Zn37 (Ab29_37) (G37x0) (by decide) (⟨by decide, by decide⟩) (by decide) (by decide) (rfl) (rfl)) hZ (hw _ (List.mem_of_getElem? (i := 8) rfl)) (hw _ (List.mem_of_getElem? (i := 7) rfl)) (by decide) (by decide)) (g := (mkF m 144 #[.val (.long p0), .second, .val (.long p1), .second, .val (.long p2), .second, .val (.long p3), .second, .val (.long p4), .second, .val (.int p5), .val (.int (3 : Int32)), .val (.ref b29), .val (.ref b30)] [(.long p2), (.int (2 : Int32)), (.ref b30), (.ref b29)])) rfl (by rw [hml]; rfl) (argsL := [(.ref b29), (.ref b30), (.int (2 : Int32)), (.long p2)]) (rest := []) (lenOf own_pd2 rfl) rfl (by show 2 * 0 + _ ≤ _; exact Nat.le_of_eq rfl) (hb hby at_144) (fun _ _ => ⟨rfl, e39, (by decide : 2 + 0 ≤ _), (by decide : 6 + 0 ≤ _)⟩)
    dsimp only [Pt.U, Pt.locs, Pt.cells, Pt.slots] at X40 l40 y40 z40 st40 hQ40
    subst l40 y40 z40
    have X40 : Stand p l e room_1 s m _ below meth c T40 _ 2 6 := X40
    obtain ⟨rfl, Nq40, e40⟩ := hQ40
    have N40 := Fr.app N39 Nq40
    refine OGo.st (T' := T40) (g' := (mkF m 147 #[.val (.long p0), .second, .val (.long p1), .second, .val (.long p2), .second, .val (.long p3), .second, .val (.long p4), .second, .val (.int p5), .val (.int (3 : Int32)), .val (.ref b29), .val (.ref b30)] [(.int (1 : Int32))])) (fun _ k => st40 _ k) ?_
    refine OGo.st (T' := T40) (g' := (mkF m 157 #[.val (.long p0), .second, .val (.long p1), .second, .val (.long p2), .second, .val (.long p3), .second, .val (.long p4), .second, .val (.int p5), .val (.int (3 : Int32)), .val (.ref b29), .val (.ref b30)] [(.long p3), (.int (3 : Int32)), (.ref b30), (.ref b29)])) (fun _ k => (XS.ifNo X40.here hx rfl (hb hby at_147) rfl ((if0 _ _).trans (feq (by decide : ¬ ((1 : Int32) = (0 : Int32)))).1) (XS.aload X40.here hx rfl (hb hby at_150) rfl rfl (XS.aload X40.here hx rfl (hb hby at_152) rfl rfl (XS.iconst X40.here hx rfl (hb hby at_154) (XS.lload X40.here hx rfl (hb hby at_155) rfl k)))))) ?_
    obtain ⟨_, _, ⟨T41, L41, k41, n41⟩, -, X41, ⟨Lc41, hQ41, l41, y41, z41⟩, st41⟩ := Jvm.LawKit.callS X40 hx (y := (⟨"com/example/unify_to_cover/unifytocover/search/ValueSetsCopyPinLaw", "ok", "([J[JIJ)Z"⟩ : MethodName)) hown (mvT hZ (hw _ (List.mem_of_getElem? (i := 5) rfl))) (mvT hZ (hw _ (List.mem_of_getElem? (i := 6) rfl))) (mvT hZ (hw _ (List.mem_of_getElem? (i := 7) rfl))) (mvT hZ (hw _ (List.mem_of_getElem? (i := 8) rfl))) (by decide) (backOf (W := 0) (rmON l Z a0 hw [] (b29) (3) ((own_L (0 : Int64) ([p0, p1, p2] : List Int64))) (b30) ((3 : Int32)) (p3) h37 n0 Zn37 (Ab29_37) (by decide)) hZ (hw _ (List.mem_of_getElem? (i := 8) rfl)) (hw _ (List.mem_of_getElem? (i := 7) rfl)) (by decide) (by decide)) (g := (mkF m 157 #[.val (.long p0), .second, .val (.long p1), .second, .val (.long p2), .second, .val (.long p3), .second, .val (.long p4), .second, .val (.int p5), .val (.int (3 : Int32)), .val (.ref b29), .val (.ref b30)] [(.long p3), (.int (3 : Int32)), (.ref b30), (.ref b29)])) rfl (by rw [hml]; rfl) (argsL := [(.ref b29), (.ref b30), (.int (3 : Int32)), (.long p3)]) (rest := []) (lenOf own_pd2 rfl) rfl (by show 2 * 0 + _ ≤ _; exact Nat.le_of_eq rfl) (hb hby at_157) (fun _ _ => ⟨rfl, e40, (by decide : 2 + 0 ≤ _), (by decide : 6 + 0 ≤ _)⟩)
    dsimp only [Pt.U, Pt.locs, Pt.cells, Pt.slots] at X41 l41 y41 z41 st41 hQ41
    subst l41 y41 z41
    have X41 : Stand p l e room_1 s m _ below meth c T41 _ 2 6 := X41
    obtain ⟨rfl, Nq41, e41⟩ := hQ41
    have N41 := Fr.app N40 Nq41
    refine OGo.st (T' := T41) (g' := (mkF m 160 #[.val (.long p0), .second, .val (.long p1), .second, .val (.long p2), .second, .val (.long p3), .second, .val (.long p4), .second, .val (.int p5), .val (.int (3 : Int32)), .val (.ref b29), .val (.ref b30)] [(.int (1 : Int32))])) (fun _ k => st41 _ k) ?_
    refine OGo.st (T' := T41) (g' := (mkF m 168 #[.val (.long p0), .second, .val (.long p1), .second, .val (.long p2), .second, .val (.long p3), .second, .val (.long p4), .second, .val (.int p5), .val (.int (3 : Int32)), .val (.ref b29), .val (.ref b30)] [(.int (1 : Int32))])) (fun _ k => (XS.ifNo X41.here hx rfl (hb hby at_160) rfl ((if0 _ _).trans (feq (by decide : ¬ ((1 : Int32) = (0 : Int32)))).1) (XS.iconst X41.here hx rfl (hb hby at_163) (XS.goto X41.here hx rfl (pc0 := 164) (pc' := 168) rfl (hb hby at_164) (by decide) (by decide) k)))) ?_
    exact OGo.ret X41 hx hlk Bd.returns rfl (own_rI (Or.inr (Or.inl rfl))) (hb hby at_168) (by decide) (by decide) e41 (⟨rfl, N41⟩)
  · rw [hl1]
    refine OGo.st (T' := s₁) (g' := (mkF m 11 #[.val (.long p0), .second, .val (.long p1), .second, .val (.long p2), .second, .val (.long p3), .second, .val (.long p4), .second, .val (.int p5), .val (.int (4 : Int32)), .unset, .unset] [(.int (4 : Int32))])) (fun _ k => (XS.iload X0.here hx rfl (hb hby at_9) rfl k)) ?_
    obtain ⟨T42, h42, b42, g42, X42, e42, E42, V42, st42⟩ := own_newA X0 hx hZ (hw _ (List.mem_of_getElem? (i := 0) rfl)) e0 (g := (mkF m 11 #[.val (.long p0), .second, .val (.long p1), .second, .val (.long p2), .second, .val (.long p3), .second, .val (.long p4), .second, .val (.int p5), .val (.int (4 : Int32)), .unset, .unset] [(.int (4 : Int32))])) rfl (hb hby at_11) rfl (n := 4) ⟨by decide, by decide⟩ (cap := 4) (by decide) (by decide) (by decide) (by decide)
    have g_b42 : n0 ≤ b42 := Nat.le_trans Z0 (Nat.le_of_eq g42.symm)
    have A42 : OArr Z h42 b42 .long 4 (fun j => .long ((own_L (0 : Int64) ([(0 : Int64), (0 : Int64), (0 : Int64), (0 : Int64)] : List Int64)) j)) := OArr.cast V42 (fun j _ => congrArg Value.long (own_L_rep (0 : Int64) 4 j))
    have Zn42 : n0 ≤ h42.size := Nat.le_trans Z0 E42.1
    have X42 : Stand p l e room_1 s m _ below meth c T42 _ 1 4 := X42
    refine OGo.st (T' := T42) (g' := (mkF m 13 #[.val (.long p0), .second, .val (.long p1), .second, .val (.long p2), .second, .val (.long p3), .second, .val (.long p4), .second, .val (.int p5), .val (.int (4 : Int32)), .unset, .unset] [(.ref b42)])) (fun _ k => st42 _ k) ?_
    refine OGo.st (T' := T42) (g' := (mkF m 17 #[.val (.long p0), .second, .val (.long p1), .second, .val (.long p2), .second, .val (.long p3), .second, .val (.long p4), .second, .val (.int p5), .val (.int (4 : Int32)), .val (.ref b42), .unset] [(.int (4 : Int32))])) (fun _ k => (XS.astore X42.here hx rfl (hb hby at_13) rfl rfl (l' := #[.val (.long p0), .second, .val (.long p1), .second, .val (.long p2), .second, .val (.long p3), .second, .val (.long p4), .second, .val (.int p5), .val (.int (4 : Int32)), .val (.ref b42), .unset]) rfl (XS.iload X42.here hx rfl (hb hby at_15) rfl k))) ?_
    obtain ⟨T43, h43, b43, g43, X43, e43, E43, V43, st43⟩ := own_newA X42 hx hZ (hw _ (List.mem_of_getElem? (i := 0) rfl)) e42 (g := (mkF m 17 #[.val (.long p0), .second, .val (.long p1), .second, .val (.long p2), .second, .val (.long p3), .second, .val (.long p4), .second, .val (.int p5), .val (.int (4 : Int32)), .val (.ref b42), .unset] [(.int (4 : Int32))])) rfl (hb hby at_17) rfl (n := 4) ⟨by decide, by decide⟩ (cap := 4) (by decide) (by decide) (by decide) (by decide)
    have ne_b42_b43 : b42 ≠ b43 := Nat.ne_of_lt (Nat.lt_of_lt_of_le A42.lt (Nat.le_of_eq g43.symm))
    have g_b43 : n0 ≤ b43 := Nat.le_trans Zn42 (Nat.le_of_eq g43.symm)
    have A43 : OArr Z h43 b43 .long 4 (fun j => .long ((own_L (0 : Int64) ([(0 : Int64), (0 : Int64), (0 : Int64), (0 : Int64)] : List Int64)) j)) := OArr.cast V43 (fun j _ => congrArg Value.long (own_L_rep (0 : Int64) 4 j))
    have A42_43 : OArr Z h43 b42 .long 4 (fun j => .long ((own_L (0 : Int64) ([(0 : Int64), (0 : Int64), (0 : Int64), (0 : Int64)] : List Int64)) j)) := A42.ext E43
    have Zn43 : n0 ≤ h43.size := Nat.le_trans Zn42 E43.1
    have X43 : Stand p l e room_1 s m _ below meth c T43 _ 2 8 := X43
    refine OGo.st (T' := T43) (g' := (mkF m 19 #[.val (.long p0), .second, .val (.long p1), .second, .val (.long p2), .second, .val (.long p3), .second, .val (.long p4), .second, .val (.int p5), .val (.int (4 : Int32)), .val (.ref b42), .unset] [(.ref b43)])) (fun _ k => st43 _ k) ?_
    refine OGo.st (T' := T43) (g' := (mkF m 30 #[.val (.long p0), .second, .val (.long p1), .second, .val (.long p2), .second, .val (.long p3), .second, .val (.long p4), .second, .val (.int p5), .val (.int (4 : Int32)), .val (.ref b42), .val (.ref b43)] [(.long p0), (.int (0 : Int32)), (.ref b42)])) (fun _ k => (XS.astore X43.here hx rfl (hb hby at_19) rfl rfl (l' := #[.val (.long p0), .second, .val (.long p1), .second, .val (.long p2), .second, .val (.long p3), .second, .val (.long p4), .second, .val (.int p5), .val (.int (4 : Int32)), .val (.ref b42), .val (.ref b43)]) rfl (XS.iload X43.here hx rfl (hb hby at_21) rfl (XS.ifNo X43.here hx rfl (hb hby at_23) rfl ((if0 _ _).trans (tlt (by decide : (0 : Int32) < (4 : Int32))).2.2.2) (XS.aload X43.here hx rfl (hb hby at_26) rfl rfl (XS.iconst X43.here hx rfl (hb hby at_28) (XS.lloadN X43.here hx rfl (hb hby at_29) rfl k))))))) ?_
    obtain ⟨T44, h44, X44, e44, W44, V44, st44⟩ := own_stJ X43 hx hZ e43 A42_43 (j := (0 : Int32)) (i := 0) ⟨by decide, by decide⟩ (by decide) (g := (mkF m 30 #[.val (.long p0), .second, .val (.long p1), .second, .val (.long p2), .second, .val (.long p3), .second, .val (.long p4), .second, .val (.int p5), .val (.int (4 : Int32)), .val (.ref b42), .val (.ref b43)] [(.long p0), (.int (0 : Int32)), (.ref b42)])) rfl rfl (hb hby at_30)
    have Ab42_44 : OArr Z h44 b42 .long 4 (fun j => .long ((own_L (0 : Int64) ([p0, (0 : Int64), (0 : Int64), (0 : Int64)] : List Int64)) j)) := V44.cast (fun j _ => (own_updJ _ _ _ j).trans (congrArg Value.long (own_L_set (0 : Int64) ([(0 : Int64), (0 : Int64), (0 : Int64), (0 : Int64)] : List Int64) 0 p0 (Nat.le_of_ble_eq_true rfl) j)))
    have N44 := Fr.snoc X44 N0 g_b42
    have A43_44 : OArr Z h44 b43 .long 4 (fun j => .long ((own_L (0 : Int64) ([(0 : Int64), (0 : Int64), (0 : Int64), (0 : Int64)] : List Int64)) j)) := A43.other W44 (Ne.symm ne_b42_b43)
    have Zn44 : n0 ≤ h44.size := Nat.le_trans Zn43 (Nat.le_of_eq W44.size.symm)
    refine OGo.st (T' := T44) (g' := (mkF m 31 #[.val (.long p0), .second, .val (.long p1), .second, .val (.long p2), .second, .val (.long p3), .second, .val (.long p4), .second, .val (.int p5), .val (.int (4 : Int32)), .val (.ref b42), .val (.ref b43)] [])) (fun _ k => st44 _ k) ?_
    refine OGo.st (T' := T44) (g' := (mkF m 36 #[.val (.long p0), .second, .val (.long p1), .second, .val (.long p2), .second, .val (.long p3), .second, .val (.long p4), .second, .val (.int p5), .val (.int (4 : Int32)), .val (.ref b42), .val (.ref b43)] [(.long p4), (.int (0 : Int32)), (.ref b43)])) (fun _ k => (XS.aload X44.here hx rfl (hb hby at_31) rfl rfl (XS.iconst X44.here hx rfl (hb hby at_33) (XS.lload X44.here hx rfl (hb hby at_34) rfl k)))) ?_
    obtain ⟨T45, h45, X45, e45, W45, V45, st45⟩ := own_stJ X44 hx hZ e44 A43_44 (j := (0 : Int32)) (i := 0) ⟨by decide, by decide⟩ (by decide) (g := (mkF m 36 #[.val (.long p0), .second, .val (.long p1), .second, .val (.long p2), .second, .val (.long p3), .second, .val (.long p4), .second, .val (.int p5), .val (.int (4 : Int32)), .val (.ref b42), .val (.ref b43)] [(.long p4), (.int (0 : Int32)), (.ref b43)])) rfl rfl (hb hby at_36)
    have Ab43_45 : OArr Z h45 b43 .long 4 (fun j => .long ((own_L (0 : Int64) ([p4, (0 : Int64), (0 : Int64), (0 : Int64)] : List Int64)) j)) := V45.cast (fun j _ => (own_updJ _ _ _ j).trans (congrArg Value.long (own_L_set (0 : Int64) ([(0 : Int64), (0 : Int64), (0 : Int64), (0 : Int64)] : List Int64) 0 p4 (Nat.le_of_ble_eq_true rfl) j)))
    have N45 := Fr.snoc X45 N44 g_b43
    have Ab42_45 : OArr Z h45 b42 .long 4 (fun j => .long ((own_L (0 : Int64) ([p0, (0 : Int64), (0 : Int64), (0 : Int64)] : List Int64)) j)) := Ab42_44.other W45 ne_b42_b43
    have Zn45 : n0 ≤ h45.size := Nat.le_trans Zn44 (Nat.le_of_eq W45.size.symm)
    refine OGo.st (T' := T45) (g' := (mkF m 37 #[.val (.long p0), .second, .val (.long p1), .second, .val (.long p2), .second, .val (.long p3), .second, .val (.long p4), .second, .val (.int p5), .val (.int (4 : Int32)), .val (.ref b42), .val (.ref b43)] [])) (fun _ k => st45 _ k) ?_
    refine OGo.st (T' := T45) (g' := (mkF m 47 #[.val (.long p0), .second, .val (.long p1), .second, .val (.long p2), .second, .val (.long p3), .second, .val (.long p4), .second, .val (.int p5), .val (.int (4 : Int32)), .val (.ref b42), .val (.ref b43)] [(.long p1), (.int (1 : Int32)), (.ref b42)])) (fun _ k => (XS.iload X45.here hx rfl (hb hby at_37) rfl (XS.iconst X45.here hx rfl (hb hby at_39) (XS.icmpNo X45.here hx rfl (hb hby at_40) rfl (tlt (by decide : (1 : Int32) < (4 : Int32))).2.2.2 (XS.aload X45.here hx rfl (hb hby at_43) rfl rfl (XS.iconst X45.here hx rfl (hb hby at_45) (XS.lloadN X45.here hx rfl (hb hby at_46) rfl k))))))) ?_
    obtain ⟨T46, h46, X46, e46, W46, V46, st46⟩ := own_stJ X45 hx hZ e45 Ab42_45 (j := (1 : Int32)) (i := 1) ⟨by decide, by decide⟩ (by decide) (g := (mkF m 47 #[.val (.long p0), .second, .val (.long p1), .second, .val (.long p2), .second, .val (.long p3), .second, .val (.long p4), .second, .val (.int p5), .val (.int (4 : Int32)), .val (.ref b42), .val (.ref b43)] [(.long p1), (.int (1 : Int32)), (.ref b42)])) rfl rfl (hb hby at_47)
    have Ab42_46 : OArr Z h46 b42 .long 4 (fun j => .long ((own_L (0 : Int64) ([p0, p1, (0 : Int64), (0 : Int64)] : List Int64)) j)) := V46.cast (fun j _ => (own_updJ _ _ _ j).trans (congrArg Value.long (own_L_set (0 : Int64) ([p0, (0 : Int64), (0 : Int64), (0 : Int64)] : List Int64) 1 p1 (Nat.le_of_ble_eq_true rfl) j)))
    have N46 := Fr.snoc X46 N45 g_b42
    have Ab43_46 : OArr Z h46 b43 .long 4 (fun j => .long ((own_L (0 : Int64) ([p4, (0 : Int64), (0 : Int64), (0 : Int64)] : List Int64)) j)) := Ab43_45.other W46 (Ne.symm ne_b42_b43)
    have Zn46 : n0 ≤ h46.size := Nat.le_trans Zn45 (Nat.le_of_eq W46.size.symm)
    refine OGo.st (T' := T46) (g' := (mkF m 48 #[.val (.long p0), .second, .val (.long p1), .second, .val (.long p2), .second, .val (.long p3), .second, .val (.long p4), .second, .val (.int p5), .val (.int (4 : Int32)), .val (.ref b42), .val (.ref b43)] [])) (fun _ k => st46 _ k) ?_
    refine OGo.st (T' := T46) (g' := (mkF m 53 #[.val (.long p0), .second, .val (.long p1), .second, .val (.long p2), .second, .val (.long p3), .second, .val (.long p4), .second, .val (.int p5), .val (.int (4 : Int32)), .val (.ref b42), .val (.ref b43)] [(.long p4), (.int (1 : Int32)), (.ref b43)])) (fun _ k => (XS.aload X46.here hx rfl (hb hby at_48) rfl rfl (XS.iconst X46.here hx rfl (hb hby at_50) (XS.lload X46.here hx rfl (hb hby at_51) rfl k)))) ?_
    obtain ⟨T47, h47, X47, e47, W47, V47, st47⟩ := own_stJ X46 hx hZ e46 Ab43_46 (j := (1 : Int32)) (i := 1) ⟨by decide, by decide⟩ (by decide) (g := (mkF m 53 #[.val (.long p0), .second, .val (.long p1), .second, .val (.long p2), .second, .val (.long p3), .second, .val (.long p4), .second, .val (.int p5), .val (.int (4 : Int32)), .val (.ref b42), .val (.ref b43)] [(.long p4), (.int (1 : Int32)), (.ref b43)])) rfl rfl (hb hby at_53)
    have Ab43_47 : OArr Z h47 b43 .long 4 (fun j => .long ((own_L (0 : Int64) ([p4, p4, (0 : Int64), (0 : Int64)] : List Int64)) j)) := V47.cast (fun j _ => (own_updJ _ _ _ j).trans (congrArg Value.long (own_L_set (0 : Int64) ([p4, (0 : Int64), (0 : Int64), (0 : Int64)] : List Int64) 1 p4 (Nat.le_of_ble_eq_true rfl) j)))
    have N47 := Fr.snoc X47 N46 g_b43
    have Ab42_47 : OArr Z h47 b42 .long 4 (fun j => .long ((own_L (0 : Int64) ([p0, p1, (0 : Int64), (0 : Int64)] : List Int64)) j)) := Ab42_46.other W47 ne_b42_b43
    have Zn47 : n0 ≤ h47.size := Nat.le_trans Zn46 (Nat.le_of_eq W47.size.symm)
    refine OGo.st (T' := T47) (g' := (mkF m 54 #[.val (.long p0), .second, .val (.long p1), .second, .val (.long p2), .second, .val (.long p3), .second, .val (.long p4), .second, .val (.int p5), .val (.int (4 : Int32)), .val (.ref b42), .val (.ref b43)] [])) (fun _ k => st47 _ k) ?_
    refine OGo.st (T' := T47) (g' := (mkF m 65 #[.val (.long p0), .second, .val (.long p1), .second, .val (.long p2), .second, .val (.long p3), .second, .val (.long p4), .second, .val (.int p5), .val (.int (4 : Int32)), .val (.ref b42), .val (.ref b43)] [(.long p2), (.int (2 : Int32)), (.ref b42)])) (fun _ k => (XS.iload X47.here hx rfl (hb hby at_54) rfl (XS.iconst X47.here hx rfl (hb hby at_56) (XS.icmpNo X47.here hx rfl (hb hby at_57) rfl (tlt (by decide : (2 : Int32) < (4 : Int32))).2.2.2 (XS.aload X47.here hx rfl (hb hby at_60) rfl rfl (XS.iconst X47.here hx rfl (hb hby at_62) (XS.lload X47.here hx rfl (hb hby at_63) rfl k))))))) ?_
    obtain ⟨T48, h48, X48, e48, W48, V48, st48⟩ := own_stJ X47 hx hZ e47 Ab42_47 (j := (2 : Int32)) (i := 2) ⟨by decide, by decide⟩ (by decide) (g := (mkF m 65 #[.val (.long p0), .second, .val (.long p1), .second, .val (.long p2), .second, .val (.long p3), .second, .val (.long p4), .second, .val (.int p5), .val (.int (4 : Int32)), .val (.ref b42), .val (.ref b43)] [(.long p2), (.int (2 : Int32)), (.ref b42)])) rfl rfl (hb hby at_65)
    have Ab42_48 : OArr Z h48 b42 .long 4 (fun j => .long ((own_L (0 : Int64) ([p0, p1, p2, (0 : Int64)] : List Int64)) j)) := V48.cast (fun j _ => (own_updJ _ _ _ j).trans (congrArg Value.long (own_L_set (0 : Int64) ([p0, p1, (0 : Int64), (0 : Int64)] : List Int64) 2 p2 (Nat.le_of_ble_eq_true rfl) j)))
    have N48 := Fr.snoc X48 N47 g_b42
    have Ab43_48 : OArr Z h48 b43 .long 4 (fun j => .long ((own_L (0 : Int64) ([p4, p4, (0 : Int64), (0 : Int64)] : List Int64)) j)) := Ab43_47.other W48 (Ne.symm ne_b42_b43)
    have Zn48 : n0 ≤ h48.size := Nat.le_trans Zn47 (Nat.le_of_eq W48.size.symm)
    refine OGo.st (T' := T48) (g' := (mkF m 66 #[.val (.long p0), .second, .val (.long p1), .second, .val (.long p2), .second, .val (.long p3), .second, .val (.long p4), .second, .val (.int p5), .val (.int (4 : Int32)), .val (.ref b42), .val (.ref b43)] [])) (fun _ k => st48 _ k) ?_
    refine OGo.st (T' := T48) (g' := (mkF m 71 #[.val (.long p0), .second, .val (.long p1), .second, .val (.long p2), .second, .val (.long p3), .second, .val (.long p4), .second, .val (.int p5), .val (.int (4 : Int32)), .val (.ref b42), .val (.ref b43)] [(.long p4), (.int (2 : Int32)), (.ref b43)])) (fun _ k => (XS.aload X48.here hx rfl (hb hby at_66) rfl rfl (XS.iconst X48.here hx rfl (hb hby at_68) (XS.lload X48.here hx rfl (hb hby at_69) rfl k)))) ?_
    obtain ⟨T49, h49, X49, e49, W49, V49, st49⟩ := own_stJ X48 hx hZ e48 Ab43_48 (j := (2 : Int32)) (i := 2) ⟨by decide, by decide⟩ (by decide) (g := (mkF m 71 #[.val (.long p0), .second, .val (.long p1), .second, .val (.long p2), .second, .val (.long p3), .second, .val (.long p4), .second, .val (.int p5), .val (.int (4 : Int32)), .val (.ref b42), .val (.ref b43)] [(.long p4), (.int (2 : Int32)), (.ref b43)])) rfl rfl (hb hby at_71)
    have Ab43_49 : OArr Z h49 b43 .long 4 (fun j => .long ((own_L (0 : Int64) ([p4, p4, p4, (0 : Int64)] : List Int64)) j)) := V49.cast (fun j _ => (own_updJ _ _ _ j).trans (congrArg Value.long (own_L_set (0 : Int64) ([p4, p4, (0 : Int64), (0 : Int64)] : List Int64) 2 p4 (Nat.le_of_ble_eq_true rfl) j)))
    have N49 := Fr.snoc X49 N48 g_b43
    have Ab42_49 : OArr Z h49 b42 .long 4 (fun j => .long ((own_L (0 : Int64) ([p0, p1, p2, (0 : Int64)] : List Int64)) j)) := Ab42_48.other W49 ne_b42_b43
    have Zn49 : n0 ≤ h49.size := Nat.le_trans Zn48 (Nat.le_of_eq W49.size.symm)
    refine OGo.st (T' := T49) (g' := (mkF m 72 #[.val (.long p0), .second, .val (.long p1), .second, .val (.long p2), .second, .val (.long p3), .second, .val (.long p4), .second, .val (.int p5), .val (.int (4 : Int32)), .val (.ref b42), .val (.ref b43)] [])) (fun _ k => st49 _ k) ?_
    refine OGo.st (T' := T49) (g' := (mkF m 83 #[.val (.long p0), .second, .val (.long p1), .second, .val (.long p2), .second, .val (.long p3), .second, .val (.long p4), .second, .val (.int p5), .val (.int (4 : Int32)), .val (.ref b42), .val (.ref b43)] [(.long p3), (.int (3 : Int32)), (.ref b42)])) (fun _ k => (XS.iload X49.here hx rfl (hb hby at_72) rfl (XS.iconst X49.here hx rfl (hb hby at_74) (XS.icmpNo X49.here hx rfl (hb hby at_75) rfl (tlt (by decide : (3 : Int32) < (4 : Int32))).2.2.2 (XS.aload X49.here hx rfl (hb hby at_78) rfl rfl (XS.iconst X49.here hx rfl (hb hby at_80) (XS.lload X49.here hx rfl (hb hby at_81) rfl k))))))) ?_
    obtain ⟨T50, h50, X50, e50, W50, V50, st50⟩ := own_stJ X49 hx hZ e49 Ab42_49 (j := (3 : Int32)) (i := 3) ⟨by decide, by decide⟩ (by decide) (g := (mkF m 83 #[.val (.long p0), .second, .val (.long p1), .second, .val (.long p2), .second, .val (.long p3), .second, .val (.long p4), .second, .val (.int p5), .val (.int (4 : Int32)), .val (.ref b42), .val (.ref b43)] [(.long p3), (.int (3 : Int32)), (.ref b42)])) rfl rfl (hb hby at_83)
    have Ab42_50 : OArr Z h50 b42 .long 4 (fun j => .long ((own_L (0 : Int64) ([p0, p1, p2, p3] : List Int64)) j)) := V50.cast (fun j _ => (own_updJ _ _ _ j).trans (congrArg Value.long (own_L_set (0 : Int64) ([p0, p1, p2, (0 : Int64)] : List Int64) 3 p3 (Nat.le_of_ble_eq_true rfl) j)))
    have N50 := Fr.snoc X50 N49 g_b42
    have Ab43_50 : OArr Z h50 b43 .long 4 (fun j => .long ((own_L (0 : Int64) ([p4, p4, p4, (0 : Int64)] : List Int64)) j)) := Ab43_49.other W50 (Ne.symm ne_b42_b43)
    have Zn50 : n0 ≤ h50.size := Nat.le_trans Zn49 (Nat.le_of_eq W50.size.symm)
    refine OGo.st (T' := T50) (g' := (mkF m 84 #[.val (.long p0), .second, .val (.long p1), .second, .val (.long p2), .second, .val (.long p3), .second, .val (.long p4), .second, .val (.int p5), .val (.int (4 : Int32)), .val (.ref b42), .val (.ref b43)] [])) (fun _ k => st50 _ k) ?_
    refine OGo.st (T' := T50) (g' := (mkF m 89 #[.val (.long p0), .second, .val (.long p1), .second, .val (.long p2), .second, .val (.long p3), .second, .val (.long p4), .second, .val (.int p5), .val (.int (4 : Int32)), .val (.ref b42), .val (.ref b43)] [(.long p4), (.int (3 : Int32)), (.ref b43)])) (fun _ k => (XS.aload X50.here hx rfl (hb hby at_84) rfl rfl (XS.iconst X50.here hx rfl (hb hby at_86) (XS.lload X50.here hx rfl (hb hby at_87) rfl k)))) ?_
    obtain ⟨T51, h51, X51, e51, W51, V51, st51⟩ := own_stJ X50 hx hZ e50 Ab43_50 (j := (3 : Int32)) (i := 3) ⟨by decide, by decide⟩ (by decide) (g := (mkF m 89 #[.val (.long p0), .second, .val (.long p1), .second, .val (.long p2), .second, .val (.long p3), .second, .val (.long p4), .second, .val (.int p5), .val (.int (4 : Int32)), .val (.ref b42), .val (.ref b43)] [(.long p4), (.int (3 : Int32)), (.ref b43)])) rfl rfl (hb hby at_89)
    have Ab43_51 : OArr Z h51 b43 .long 4 (fun j => .long ((own_L (0 : Int64) ([p4, p4, p4, p4] : List Int64)) j)) := V51.cast (fun j _ => (own_updJ _ _ _ j).trans (congrArg Value.long (own_L_set (0 : Int64) ([p4, p4, p4, (0 : Int64)] : List Int64) 3 p4 (Nat.le_of_ble_eq_true rfl) j)))
    have N51 := Fr.snoc X51 N50 g_b43
    have Ab42_51 : OArr Z h51 b42 .long 4 (fun j => .long ((own_L (0 : Int64) ([p0, p1, p2, p3] : List Int64)) j)) := Ab42_50.other W51 ne_b42_b43
    have Zn51 : n0 ≤ h51.size := Nat.le_trans Zn50 (Nat.le_of_eq W51.size.symm)
    refine OGo.st (T' := T51) (g' := (mkF m 90 #[.val (.long p0), .second, .val (.long p1), .second, .val (.long p2), .second, .val (.long p3), .second, .val (.long p4), .second, .val (.int p5), .val (.int (4 : Int32)), .val (.ref b42), .val (.ref b43)] [])) (fun _ k => st51 _ k) ?_
    refine OGo.st (T' := T51) (g' := (mkF m 94 #[.val (.long p0), .second, .val (.long p1), .second, .val (.long p2), .second, .val (.long p3), .second, .val (.long p4), .second, .val (.int p5), .val (.int (4 : Int32)), .val (.ref b42), .val (.ref b43)] [(.ref b43), (.ref b42)])) (fun _ k => (XS.aload X51.here hx rfl (hb hby at_90) rfl rfl (XS.aload X51.here hx rfl (hb hby at_92) rfl rfl k))) ?_
    obtain ⟨_, _, ⟨T52, L52, k52, n52⟩, -, X52, ⟨Lc52, hQ52, l52, y52, z52⟩, st52⟩ := Jvm.LawKit.callS X51 hx (y := (⟨"com/example/unify_to_cover/unifytocover/search/ValueSets", "copy", "([J[J)V"⟩ : MethodName)) hown (mvT hZ (hw _ (List.mem_of_getElem? (i := 1) rfl))) (mvT hZ (hw _ (List.mem_of_getElem? (i := 2) rfl))) (mvT hZ (hw _ (List.mem_of_getElem? (i := 3) rfl))) (mvT hZ (hw _ (List.mem_of_getElem? (i := 4) rfl))) (by decide) (backOf (W := 0) (rmC4 l Z a0 hw [] (b42) (p0) (p1) (p2) (p3) (b43) (p4) (p4) (p4) (p4) h51 n0 Zn51 (Ab42_51) (Ab43_51) (g_b43) (ne_b42_b43)) hZ (hw _ (List.mem_of_getElem? (i := 4) rfl)) (hw _ (List.mem_of_getElem? (i := 3) rfl)) (by decide) (by decide)) (g := (mkF m 94 #[.val (.long p0), .second, .val (.long p1), .second, .val (.long p2), .second, .val (.long p3), .second, .val (.long p4), .second, .val (.int p5), .val (.int (4 : Int32)), .val (.ref b42), .val (.ref b43)] [(.ref b43), (.ref b42)])) rfl (by rw [hml]; rfl) (argsL := [(.ref b42), (.ref b43)]) (rest := []) (lenOf own_pd1 rfl) rfl (by show 2 * 0 + _ ≤ _; exact Nat.le_of_eq rfl) (hb hby at_94) (fun _ _ => ⟨rfl, e51, (by decide : 2 + 0 ≤ _), (by decide : 8 + 0 ≤ _)⟩)
    dsimp only [Pt.U, Pt.locs, Pt.cells, Pt.slots] at X52 l52 y52 z52 st52 hQ52
    subst l52 y52 z52
    have X52 : Stand p l e room_1 s m _ below meth c T52 _ 2 8 := X52
    obtain ⟨h52, e52⟩ : ∃ z, T52.heap = z := ⟨_, rfl⟩
    rw [e52] at hQ52
    obtain ⟨rfl, Nq52, Kc52, G52x0⟩ := hQ52
    have N52 := Fr.app N51 Nq52
    have Ab42_52 : OArr Z h52 b42 .long 4 (fun j => .long ((own_L (0 : Int64) ([p0, p1, p2, p3] : List Int64)) j)) := Ab42_51.keep Kc52 (ninS ne_b42_b43 nin0)
    have Zn52 : n0 ≤ h52.size := Nat.le_trans Zn51 Kc52.1
    refine OGo.st (T' := T52) (g' := (mkF m 97 #[.val (.long p0), .second, .val (.long p1), .second, .val (.long p2), .second, .val (.long p3), .second, .val (.long p4), .second, .val (.int p5), .val (.int (4 : Int32)), .val (.ref b42), .val (.ref b43)] [])) (fun _ k => st52 _ k) ?_
    refine OGo.st (T' := T52) (g' := (mkF m 99 #[.val (.long p0), .second, .val (.long p1), .second, .val (.long p2), .second, .val (.long p3), .second, .val (.long p4), .second, .val (.int p5), .val (.int (4 : Int32)), .val (.ref b42), .val (.ref b43)] [(.ref b42)])) (fun _ k => (XS.aload X52.here hx rfl (hb hby at_97) rfl rfl k)) ?_
    refine OGo.st (T' := T52) (g' := (mkF m 107 #[.val (.long p0), .second, .val (.long p1), .second, .val (.long p2), .second, .val (.long p3), .second, .val (.long p4), .second, .val (.int p5), .val (.int (4 : Int32)), .val (.ref b42), .val (.ref b43)] [(.ref b43)])) (fun _ k => (own_len X52 hx hZ e52 Ab42_52 (g := (mkF m 99 #[.val (.long p0), .second, .val (.long p1), .second, .val (.long p2), .second, .val (.long p3), .second, .val (.long p4), .second, .val (.int p5), .val (.int (4 : Int32)), .val (.ref b42), .val (.ref b43)] [(.ref b42)])) rfl rfl (hb hby at_99) _ (XS.iload X52.here hx rfl (hb hby at_100) rfl (XS.icmpNo X52.here hx rfl (hb hby at_102) rfl (teq (by decide : (4 : Int32) = (4 : Int32))).2 (XS.aload X52.here hx rfl (hb hby at_105) rfl rfl k))))) ?_
    refine OGo.st (T' := T52) (g' := (mkF m 118 #[.val (.long p0), .second, .val (.long p1), .second, .val (.long p2), .second, .val (.long p3), .second, .val (.long p4), .second, .val (.int p5), .val (.int (4 : Int32)), .val (.ref b42), .val (.ref b43)] [(.int (0 : Int32)), (.ref b43), (.ref b42)])) (fun _ k => (own_len X52 hx hZ e52 G52x0 (g := (mkF m 107 #[.val (.long p0), .second, .val (.long p1), .second, .val (.long p2), .second, .val (.long p3), .second, .val (.long p4), .second, .val (.int p5), .val (.int (4 : Int32)), .val (.ref b42), .val (.ref b43)] [(.ref b43)])) rfl rfl (hb hby at_107) _ (XS.iload X52.here hx rfl (hb hby at_108) rfl (XS.icmpNo X52.here hx rfl (hb hby at_110) rfl (teq (by decide : (4 : Int32) = (4 : Int32))).2 (XS.aload X52.here hx rfl (hb hby at_113) rfl rfl (XS.aload X52.here hx rfl (hb hby at_115) rfl rfl (XS.iconst X52.here hx rfl (hb hby at_117) k))))))) ?_
    refine OGo.st (T' := T52) (g' := (mkF m 119 #[.val (.long p0), .second, .val (.long p1), .second, .val (.long p2), .second, .val (.long p3), .second, .val (.long p4), .second, .val (.int p5), .val (.int (4 : Int32)), .val (.ref b42), .val (.ref b43)] [(.long p0), (.int (0 : Int32)), (.ref b43), (.ref b42)])) (fun _ k => (XS.lloadN X52.here hx rfl (hb hby at_118) rfl k)) ?_
    obtain ⟨_, _, ⟨T53, L53, k53, n53⟩, -, X53, ⟨Lc53, hQ53, l53, y53, z53⟩, st53⟩ := Jvm.LawKit.callS X52 hx (y := (⟨"com/example/unify_to_cover/unifytocover/search/ValueSetsCopyPinLaw", "ok", "([J[JIJ)Z"⟩ : MethodName)) hown (mvT hZ (hw _ (List.mem_of_getElem? (i := 5) rfl))) (mvT hZ (hw _ (List.mem_of_getElem? (i := 6) rfl))) (mvT hZ (hw _ (List.mem_of_getElem? (i := 7) rfl))) (mvT hZ (hw _ (List.mem_of_getElem? (i := 8) rfl))) (by decide) (backOf (W := 0) (rmOY l Z a0 hw [] (b42) (4) ((own_L (0 : Int64) ([p0, p1, p2, p3] : List Int64))) (b43) (4) ((own_L (0 : Int64) ([p0, p1, p2, p3] : List Int64))) ((0 : Int32)) (p0) (0) h52 n0 Zn52 (Ab42_52) (G52x0) (by decide) (⟨by decide, by decide⟩) (by decide) (by decide) (rfl) (rfl)) hZ (hw _ (List.mem_of_getElem? (i := 8) rfl)) (hw _ (List.mem_of_getElem? (i := 7) rfl)) (by decide) (by decide)) (g := (mkF m 119 #[.val (.long p0), .second, .val (.long p1), .second, .val (.long p2), .second, .val (.long p3), .second, .val (.long p4), .second, .val (.int p5), .val (.int (4 : Int32)), .val (.ref b42), .val (.ref b43)] [(.long p0), (.int (0 : Int32)), (.ref b43), (.ref b42)])) rfl (by rw [hml]; rfl) (argsL := [(.ref b42), (.ref b43), (.int (0 : Int32)), (.long p0)]) (rest := []) (lenOf own_pd2 rfl) rfl (by show 2 * 0 + _ ≤ _; exact Nat.le_of_eq rfl) (hb hby at_119) (fun _ _ => ⟨rfl, e52, (by decide : 2 + 0 ≤ _), (by decide : 8 + 0 ≤ _)⟩)
    dsimp only [Pt.U, Pt.locs, Pt.cells, Pt.slots] at X53 l53 y53 z53 st53 hQ53
    subst l53 y53 z53
    have X53 : Stand p l e room_1 s m _ below meth c T53 _ 2 8 := X53
    obtain ⟨rfl, Nq53, e53⟩ := hQ53
    have N53 := Fr.app N52 Nq53
    refine OGo.st (T' := T53) (g' := (mkF m 122 #[.val (.long p0), .second, .val (.long p1), .second, .val (.long p2), .second, .val (.long p3), .second, .val (.long p4), .second, .val (.int p5), .val (.int (4 : Int32)), .val (.ref b42), .val (.ref b43)] [(.int (1 : Int32))])) (fun _ k => st53 _ k) ?_
    refine OGo.st (T' := T53) (g' := (mkF m 131 #[.val (.long p0), .second, .val (.long p1), .second, .val (.long p2), .second, .val (.long p3), .second, .val (.long p4), .second, .val (.int p5), .val (.int (4 : Int32)), .val (.ref b42), .val (.ref b43)] [(.long p1), (.int (1 : Int32)), (.ref b43), (.ref b42)])) (fun _ k => (XS.ifNo X53.here hx rfl (hb hby at_122) rfl ((if0 _ _).trans (feq (by decide : ¬ ((1 : Int32) = (0 : Int32)))).1) (XS.aload X53.here hx rfl (hb hby at_125) rfl rfl (XS.aload X53.here hx rfl (hb hby at_127) rfl rfl (XS.iconst X53.here hx rfl (hb hby at_129) (XS.lloadN X53.here hx rfl (hb hby at_130) rfl k)))))) ?_
    obtain ⟨_, _, ⟨T54, L54, k54, n54⟩, -, X54, ⟨Lc54, hQ54, l54, y54, z54⟩, st54⟩ := Jvm.LawKit.callS X53 hx (y := (⟨"com/example/unify_to_cover/unifytocover/search/ValueSetsCopyPinLaw", "ok", "([J[JIJ)Z"⟩ : MethodName)) hown (mvT hZ (hw _ (List.mem_of_getElem? (i := 5) rfl))) (mvT hZ (hw _ (List.mem_of_getElem? (i := 6) rfl))) (mvT hZ (hw _ (List.mem_of_getElem? (i := 7) rfl))) (mvT hZ (hw _ (List.mem_of_getElem? (i := 8) rfl))) (by decide) (backOf (W := 0) (rmOY l Z a0 hw [] (b42) (4) ((own_L (0 : Int64) ([p0, p1, p2, p3] : List Int64))) (b43) (4) ((own_L (0 : Int64) ([p0, p1, p2, p3] : List Int64))) ((1 : Int32)) (p1) (1) h52 n0 Zn52 (Ab42_52) (G52x0) (by decide) (⟨by decide, by decide⟩) (by decide) (by decide) (rfl) (rfl)) hZ (hw _ (List.mem_of_getElem? (i := 8) rfl)) (hw _ (List.mem_of_getElem? (i := 7) rfl)) (by decide) (by decide)) (g := (mkF m 131 #[.val (.long p0), .second, .val (.long p1), .second, .val (.long p2), .second, .val (.long p3), .second, .val (.long p4), .second, .val (.int p5), .val (.int (4 : Int32)), .val (.ref b42), .val (.ref b43)] [(.long p1), (.int (1 : Int32)), (.ref b43), (.ref b42)])) rfl (by rw [hml]; rfl) (argsL := [(.ref b42), (.ref b43), (.int (1 : Int32)), (.long p1)]) (rest := []) (lenOf own_pd2 rfl) rfl (by show 2 * 0 + _ ≤ _; exact Nat.le_of_eq rfl) (hb hby at_131) (fun _ _ => ⟨rfl, e53, (by decide : 2 + 0 ≤ _), (by decide : 8 + 0 ≤ _)⟩)
    dsimp only [Pt.U, Pt.locs, Pt.cells, Pt.slots] at X54 l54 y54 z54 st54 hQ54
    subst l54 y54 z54
    have X54 : Stand p l e room_1 s m _ below meth c T54 _ 2 8 := X54
    obtain ⟨rfl, Nq54, e54⟩ := hQ54
    have N54 := Fr.app N53 Nq54
    refine OGo.st (T' := T54) (g' := (mkF m 134 #[.val (.long p0), .second, .val (.long p1), .second, .val (.long p2), .second, .val (.long p3), .second, .val (.long p4), .second, .val (.int p5), .val (.int (4 : Int32)), .val (.ref b42), .val (.ref b43)] [(.int (1 : Int32))])) (fun _ k => st54 _ k) ?_
    refine OGo.st (T' := T54) (g' := (mkF m 144 #[.val (.long p0), .second, .val (.long p1), .second, .val (.long p2), .second, .val (.long p3), .second, .val (.long p4), .second, .val (.int p5), .val (.int (4 : Int32)), .val (.ref b42), .val (.ref b43)] [(.long p2), (.int (2 : Int32)), (.ref b43), (.ref b42)])) (fun _ k => (XS.ifNo X54.here hx rfl (hb hby at_134) rfl ((if0 _ _).trans (feq (by decide : ¬ ((1 : Int32) = (0 : Int32)))).1) (XS.aload X54.here hx rfl (hb hby at_137) rfl rfl (XS.aload X54.here hx rfl (hb hby at_139) rfl rfl (XS.iconst X54.here hx rfl (hb hby at_141) (XS.lload X54.here hx rfl (hb hby at_142) rfl k)))))) ?_
    obtain ⟨_, _, ⟨T55, L55, k55, n55⟩, -, X55, ⟨Lc55, hQ55, l55, y55, z55⟩, st55⟩ := Jvm.LawKit.callS X54 hx (y := (⟨"com/example/unify_to_cover/unifytocover/search/ValueSetsCopyPinLaw", "ok", "([J[JIJ)Z"⟩ : MethodName)) hown (mvT hZ (hw _ (List.mem_of_getElem? (i := 5) rfl))) (mvT hZ (hw _ (List.mem_of_getElem? (i := 6) rfl))) (mvT hZ (hw _ (List.mem_of_getElem? (i := 7) rfl))) (mvT hZ (hw _ (List.mem_of_getElem? (i := 8) rfl))) (by decide) (backOf (W := 0) (rmOY l Z a0 hw [] (b42) (4) ((own_L (0 : Int64) ([p0, p1, p2, p3] : List Int64))) (b43) (4) ((own_L (0 : Int64) ([p0, p1, p2, p3] : List Int64))) ((2 : Int32)) (p2) (2) h52 n0 Zn52 (Ab42_52) (G52x0) (by decide) (⟨by decide, by decide⟩) (by decide) (by decide) (rfl) (rfl)) hZ (hw _ (List.mem_of_getElem? (i := 8) rfl)) (hw _ (List.mem_of_getElem? (i := 7) rfl)) (by decide) (by decide)) (g := (mkF m 144 #[.val (.long p0), .second, .val (.long p1), .second, .val (.long p2), .second, .val (.long p3), .second, .val (.long p4), .second, .val (.int p5), .val (.int (4 : Int32)), .val (.ref b42), .val (.ref b43)] [(.long p2), (.int (2 : Int32)), (.ref b43), (.ref b42)])) rfl (by rw [hml]; rfl) (argsL := [(.ref b42), (.ref b43), (.int (2 : Int32)), (.long p2)]) (rest := []) (lenOf own_pd2 rfl) rfl (by show 2 * 0 + _ ≤ _; exact Nat.le_of_eq rfl) (hb hby at_144) (fun _ _ => ⟨rfl, e54, (by decide : 2 + 0 ≤ _), (by decide : 8 + 0 ≤ _)⟩)
    dsimp only [Pt.U, Pt.locs, Pt.cells, Pt.slots] at X55 l55 y55 z55 st55 hQ55
    subst l55 y55 z55
    have X55 : Stand p l e room_1 s m _ below meth c T55 _ 2 8 := X55
    obtain ⟨rfl, Nq55, e55⟩ := hQ55
    have N55 := Fr.app N54 Nq55
    refine OGo.st (T' := T55) (g' := (mkF m 147 #[.val (.long p0), .second, .val (.long p1), .second, .val (.long p2), .second, .val (.long p3), .second, .val (.long p4), .second, .val (.int p5), .val (.int (4 : Int32)), .val (.ref b42), .val (.ref b43)] [(.int (1 : Int32))])) (fun _ k => st55 _ k) ?_
    refine OGo.st (T' := T55) (g' := (mkF m 157 #[.val (.long p0), .second, .val (.long p1), .second, .val (.long p2), .second, .val (.long p3), .second, .val (.long p4), .second, .val (.int p5), .val (.int (4 : Int32)), .val (.ref b42), .val (.ref b43)] [(.long p3), (.int (3 : Int32)), (.ref b43), (.ref b42)])) (fun _ k => (XS.ifNo X55.here hx rfl (hb hby at_147) rfl ((if0 _ _).trans (feq (by decide : ¬ ((1 : Int32) = (0 : Int32)))).1) (XS.aload X55.here hx rfl (hb hby at_150) rfl rfl (XS.aload X55.here hx rfl (hb hby at_152) rfl rfl (XS.iconst X55.here hx rfl (hb hby at_154) (XS.lload X55.here hx rfl (hb hby at_155) rfl k)))))) ?_
    obtain ⟨_, _, ⟨T56, L56, k56, n56⟩, -, X56, ⟨Lc56, hQ56, l56, y56, z56⟩, st56⟩ := Jvm.LawKit.callS X55 hx (y := (⟨"com/example/unify_to_cover/unifytocover/search/ValueSetsCopyPinLaw", "ok", "([J[JIJ)Z"⟩ : MethodName)) hown (mvT hZ (hw _ (List.mem_of_getElem? (i := 5) rfl))) (mvT hZ (hw _ (List.mem_of_getElem? (i := 6) rfl))) (mvT hZ (hw _ (List.mem_of_getElem? (i := 7) rfl))) (mvT hZ (hw _ (List.mem_of_getElem? (i := 8) rfl))) (by decide) (backOf (W := 0) (rmOY l Z a0 hw [] (b42) (4) ((own_L (0 : Int64) ([p0, p1, p2, p3] : List Int64))) (b43) (4) ((own_L (0 : Int64) ([p0, p1, p2, p3] : List Int64))) ((3 : Int32)) (p3) (3) h52 n0 Zn52 (Ab42_52) (G52x0) (by decide) (⟨by decide, by decide⟩) (by decide) (by decide) (rfl) (rfl)) hZ (hw _ (List.mem_of_getElem? (i := 8) rfl)) (hw _ (List.mem_of_getElem? (i := 7) rfl)) (by decide) (by decide)) (g := (mkF m 157 #[.val (.long p0), .second, .val (.long p1), .second, .val (.long p2), .second, .val (.long p3), .second, .val (.long p4), .second, .val (.int p5), .val (.int (4 : Int32)), .val (.ref b42), .val (.ref b43)] [(.long p3), (.int (3 : Int32)), (.ref b43), (.ref b42)])) rfl (by rw [hml]; rfl) (argsL := [(.ref b42), (.ref b43), (.int (3 : Int32)), (.long p3)]) (rest := []) (lenOf own_pd2 rfl) rfl (by show 2 * 0 + _ ≤ _; exact Nat.le_of_eq rfl) (hb hby at_157) (fun _ _ => ⟨rfl, e55, (by decide : 2 + 0 ≤ _), (by decide : 8 + 0 ≤ _)⟩)
    dsimp only [Pt.U, Pt.locs, Pt.cells, Pt.slots] at X56 l56 y56 z56 st56 hQ56
    subst l56 y56 z56
    have X56 : Stand p l e room_1 s m _ below meth c T56 _ 2 8 := X56
    obtain ⟨rfl, Nq56, e56⟩ := hQ56
    have N56 := Fr.app N55 Nq56
    refine OGo.st (T' := T56) (g' := (mkF m 160 #[.val (.long p0), .second, .val (.long p1), .second, .val (.long p2), .second, .val (.long p3), .second, .val (.long p4), .second, .val (.int p5), .val (.int (4 : Int32)), .val (.ref b42), .val (.ref b43)] [(.int (1 : Int32))])) (fun _ k => st56 _ k) ?_
    refine OGo.st (T' := T56) (g' := (mkF m 168 #[.val (.long p0), .second, .val (.long p1), .second, .val (.long p2), .second, .val (.long p3), .second, .val (.long p4), .second, .val (.int p5), .val (.int (4 : Int32)), .val (.ref b42), .val (.ref b43)] [(.int (1 : Int32))])) (fun _ k => (XS.ifNo X56.here hx rfl (hb hby at_160) rfl ((if0 _ _).trans (feq (by decide : ¬ ((1 : Int32) = (0 : Int32)))).1) (XS.iconst X56.here hx rfl (hb hby at_163) (XS.goto X56.here hx rfl (pc0 := 164) (pc' := 168) rfl (hb hby at_164) (by decide) (by decide) k)))) ?_
    exact OGo.ret X56 hx hlk Bd.returns rfl (own_rI (Or.inr (Or.inl rfl))) (hb hby at_168) (by decide) (by decide) e56 (⟨rfl, N56⟩)
set_option maxRecDepth 65536 in
set_option maxHeartbeats 40000000 in
theorem comes_1 {Post : Tables → Env → Array Value → State → Outcome → State → Prop} (hpost : ∀ tb e args s v u, (limb_1_1.after args s (.returned v) u = true ∧ limb_1_2.after args s (.returned v) u = true ∧ True) → FrameEnd s (.returned v) u (Jvm.fieldLocs frame_1_writes args s ++ Jvm.arrayLocs frame_1_arrays args s ++ Jvm.staticLocs frame_1_statics s) 16 128 → Post tb e args s (.returned v) u) :
    ArmFor flags0 classFile x code maxLocals ret World_1 tables_1 room_1 Calls_1 rest_1 Pre_1 Post := by
  intro l hfl _ _ p e ha hc hk s m args below hf hA hF happ hP
  obtain ⟨hcalls, hrest, hpre⟩ := hP
  obtain ⟨-, -, -, hnamed, -, -, -, hat⟩ := (Spec.applies_iff hf).mp happ
  obtain ⟨hg, hn⟩ := and_e (Cond.before_iff.mp (show (Jvm.Cond.and given_1 narrow_1).before args s = true from hpre))
  obtain ⟨q0, r0⟩ := and_e hg
  obtain ⟨q1, r1⟩ := and_e r0
  obtain ⟨q2, r2⟩ := and_e r1
  obtain ⟨q3, r3⟩ := and_e r2
  obtain ⟨q4, r4⟩ := and_e r3
  obtain ⟨q5, r5⟩ := and_e r4
  obtain ⟨w0, w1, w2, w3, w4, w5, rfl⟩ : ∃ w0 w1 w2 w3 w4 w5 : Value, args = #[w0, w1, w2, w3, w4, w5] := by
    have hs : args.size = 6 := by simpa [Cond.value, given_1] using q0
    obtain ⟨L⟩ := args
    match L, hs with
    | [w0, w1, w2, w3, w4, w5], _ => exact ⟨w0, w1, w2, w3, w4, w5, rfl⟩
  have hw := fun d (hd : d ∈ tables_1) => atoms_spec (ws := Jvm.Cond.code x code maxLocals ret :: tables_1) hat d (List.mem_cons_of_mem _ hd)
  obtain ⟨i0, ei0⟩ := isL_v q1
  obtain rfl : w0 = (.long i0) := Option.some.inj ei0
  obtain ⟨i1, ei1⟩ := isL_v q2
  obtain rfl : w1 = (.long i1) := Option.some.inj ei1
  obtain ⟨i2, ei2⟩ := isL_v q3
  obtain rfl : w2 = (.long i2) := Option.some.inj ei2
  obtain ⟨i3, ei3⟩ := isL_v q4
  obtain rfl : w3 = (.long i3) := Option.some.inj ei3
  obtain ⟨i4, ei4⟩ := isL_v q5
  obtain rfl : w4 = (.long i4) := Option.some.inj ei4
  obtain ⟨i5, ei5⟩ := is_v r5
  obtain rfl : w5 = (.int i5) := Option.some.inj ei5
  obtain ⟨n, o, h1, h2, h3, _, L, rfl, ⟨rfl, N⟩, hq⟩ := rm0 l s _ hw tables_1 i0 i1 i2 i3 i4 i5 s.heap s.heap.size (Nat.le_refl _) p e ha hc hk s m _ below hf ((Spec.applies_iff_loose hf).mp happ).1 ⟨rfl, State.Warmed39.refl s, rfl⟩ trivial
  refine ⟨n, _, h1, h2, h3, hpost _ _ _ _ _ _ ⟨Cond.after_iff.mpr rfl, Cond.after_iff.mpr (eq_i res_at (Term.int_eval (1)) rfl), trivial⟩ ⟨hq.1, hq.2.1, (hq.2.2.sift fun y hy => Or.inr (N y hy)).mono (by decide) (by decide)⟩⟩
theorem main_1_1 : Claimed_1_1 := comes_1 fun _ _ _ _ _ _ h hF => ⟨h.1, hF⟩
theorem main_1_2 : Claimed_1_2 := comes_1 fun _ _ _ _ _ _ h hF => ⟨h.2.1, hF⟩
end Jvm.Pilot.@@N@@
namespace Jvm.Pilot.@@N@@
open Jvm Jvm.ClassFile Sem Op Lib Jvm.Free Jvm.Stand Jvm.Pilot.@@N@@.Jvm.D
/-! MADE BY PROGRAM (witnessworld.py) out of the Statement's table words and the real class files: 11 classes; the members and pool entries that the words name. The judged class is class 1, her method 2. -/
namespace start1
open Jvm.ClassFile
def u (s : String) : CpInfo := .utf8 (stringToUtf16 s)
/-- a pool by its gaps: so many unusable entries, then the entry; so many at the end -/
def gap : Nat → List CpInfo → List CpInfo
  | 0, r => r
  | n + 1, r => .unusable :: gap n r
def poolList (es : List (Nat × CpInfo)) (last : Nat) : List CpInfo := es.foldr (fun e r => gap e.1 (e.2 :: r)) (gap last [])
def pool (es : List (Nat × CpInfo)) (last : Nat) : Array CpInfo := ⟨poolList es last⟩
def fileOf (pool : Array CpInfo) (this : Nat) (attrs : Array Attribute := #[]) (ms : Array MethodInfo := #[]) (fl : Nat := 33) (sup : Nat := 0) (ifs : Array Nat := #[]) (fds : Array FieldInfo := #[]) : ClassFile where
  minorVersion := 0
  majorVersion := 65
  constantPool := pool
  accessFlags := fl
  thisClass := this
  superClass := sup
  interfaces := ifs
  fields := fds
  methods := ms
  attributes := attrs
def plain (name : String) (sup : Option ClassId) : Class where
  name := name
  kind := .ordinary
  loader := none
  accessFlags := 33
  super := sup
  interfaces := #[]
  cf := none
  fields := #[]
  methods := #[]
  instanceTypes := #[]
  staticTypes := #[]
  resolved := #[]
  callSites := []
  init := .initialized
  statics := none
  mirror := none

def pool0 : Array CpInfo := pool [(5, u "<init>"), (0, u "()V"), (1, .class_ 10), (1, u "java/lang/Object")] 113

def k0m0 : Method := { name := "<init>", desc := "()V", sig := { parameters := [], returnType := none }, accessFlags := 1, code := none }
/-- java/lang/Object -/
def k0 : Class := { plain "java/lang/Object" none with
  accessFlags := 33
  interfaces := #[]
  cf := some (fileOf pool0 8 #[] #[{ accessFlags := 1, nameIndex := 5, descriptorIndex := 6, attributes := #[] }] 33 0 #[] #[])
  fields := #[]
  methods := #[k0m0]
  instanceTypes := #[]
  staticTypes := #[]
  resolved := Array.replicate 124 none
  statics := none }

def pool1 : Array CpInfo := pool [(2, .class_ 4), (1, u "java/lang/Object"), (0, u "<init>"), (0, u "()V"), (0, .methodref 8 9), (0, .class_ 10), (0, .nameAndType 11 12), (0, u "com/example/unify_to_cover/unifytocover/search/ValueSets"), (0, u "copy"), (0, u "([J[J)V"), (0, .methodref 14 15), (0, .class_ 16), (0, .nameAndType 17 18), (0, u "com/example/unify_to_cover/unifytocover/search/ValueSetsCopyPinLaw"), (0, u "ok"), (0, u "([J[JIJ)Z"), (3, u "law"), (0, u "(JJJJJI)Z")] 4

def k1m0 : Method := { name := "<init>", desc := "()V", sig := { parameters := [], returnType := none }, accessFlags := 2, code := none }
def k1c1 : Code := { maxStack := 4, maxLocals := 5, code := method_2_code, exceptionTable := #[], attributes := #[] }
def k1m1 : Method := { name := "ok", desc := "([J[JIJ)Z", sig := { parameters := [(.array .long), (.array .long), .int, .long], returnType := some .boolean }, accessFlags := 10, code := some k1c1 }
def k1c2 : Code := { maxStack := 5, maxLocals := 14, code := code, exceptionTable := #[], attributes := #[] }
def k1m2 : Method := { name := "law", desc := "(JJJJJI)Z", sig := { parameters := [.long, .long, .long, .long, .long, .int], returnType := some .boolean }, accessFlags := 9, code := some k1c2 }
/-- com/example/unify_to_cover/unifytocover/search/ValueSetsCopyPinLaw -/
def k1 : Class := { plain "com/example/unify_to_cover/unifytocover/search/ValueSetsCopyPinLaw" (some 0) with
  accessFlags := 49
  interfaces := #[]
  cf := some (fileOf pool1 14 #[] #[{ accessFlags := 2, nameIndex := 5, descriptorIndex := 6, attributes := #[] }, { accessFlags := 10, nameIndex := 17, descriptorIndex := 18, attributes := #[] }, { accessFlags := 9, nameIndex := 22, descriptorIndex := 23, attributes := #[] }] 49 2 #[] #[])
  fields := #[]
  methods := #[k1m0, k1m1, k1m2]
  instanceTypes := #[]
  staticTypes := #[]
  resolved := Array.replicate 28 none
  statics := none }

def pool2 : Array CpInfo := pool [(2, .class_ 4), (1, u "java/lang/Object"), (0, u "<init>"), (0, u "()V"), (2, .class_ 10), (0, u "com/example/unify_to_cover/unifytocover/search/ValueSets"), (19, u "WORD_SHIFT"), (0, u "I"), (20, u "([J[J)V"), (4, u "copy")] 6

def k2m0 : Method := { name := "<init>", desc := "()V", sig := { parameters := [], returnType := none }, accessFlags := 2, code := none }
def k2c1 : Code := { maxStack := 4, maxLocals := 3, code := prog_71_method_13_code, exceptionTable := #[], attributes := #[] }
def k2m1 : Method := { name := "copy", desc := "([J[J)V", sig := { parameters := [(.array .long), (.array .long)], returnType := none }, accessFlags := 8, code := some k2c1 }
/-- com/example/unify_to_cover/unifytocover/search/ValueSets -/
def k2 : Class := { plain "com/example/unify_to_cover/unifytocover/search/ValueSets" (some 0) with
  accessFlags := 48
  interfaces := #[]
  cf := some (fileOf pool2 9 #[] #[{ accessFlags := 2, nameIndex := 5, descriptorIndex := 6, attributes := #[] }, { accessFlags := 8, nameIndex := 57, descriptorIndex := 52, attributes := #[] }] 48 2 #[] #[{ accessFlags := 26, nameIndex := 30, descriptorIndex := 31, attributes := #[] }])
  fields := #[{ name := "WORD_SHIFT", type := .int, accessFlags := 26, slot := 0, constantValue := 0 }]
  methods := #[k2m0, k2m1]
  instanceTypes := #[]
  staticTypes := #[.int]
  resolved := Array.replicate 64 none
  statics := none }

def pool3 : Array CpInfo := pool [(1, u "java/lang/Cloneable"), (0, .class_ 1), (0, u "java/lang/Object"), (0, .class_ 3)] 3

/-- java/lang/Cloneable -/
def k3 : Class := { plain "java/lang/Cloneable" (some 0) with
  accessFlags := 1537
  interfaces := #[]
  cf := some (fileOf pool3 2 #[] #[] 1537 4 #[] #[])
  fields := #[]
  methods := #[]
  instanceTypes := #[]
  staticTypes := #[]
  resolved := Array.replicate 8 none
  statics := none }

def pool4 : Array CpInfo := pool [(1, u "java/io/Serializable"), (0, .class_ 1), (0, u "java/lang/Object"), (0, .class_ 3)] 3

/-- java/io/Serializable -/
def k4 : Class := { plain "java/io/Serializable" (some 0) with
  accessFlags := 1537
  interfaces := #[]
  cf := some (fileOf pool4 2 #[] #[] 1537 4 #[] #[])
  fields := #[]
  methods := #[]
  instanceTypes := #[]
  staticTypes := #[]
  resolved := Array.replicate 8 none
  statics := none }

/-- the primitive byte -/
def k5 : Class := { plain "byte" none with kind := .primitive 'B', accessFlags := 0x411 }
/-- [B -/
def k6 : Class := { plain "[B" (some 0) with kind := .array 5 .byte, interfaces := #[3, 4], accessFlags := 1041 }

/-- the primitive int -/
def k7 : Class := { plain "int" none with kind := .primitive 'I', accessFlags := 0x411 }
/-- [I -/
def k8 : Class := { plain "[I" (some 0) with kind := .array 7 .int, interfaces := #[3, 4], accessFlags := 1041 }

/-- the primitive long -/
def k9 : Class := { plain "long" none with kind := .primitive 'J', accessFlags := 0x411 }
/-- [J -/
def k10 : Class := { plain "[J" (some 0) with kind := .array 9 .long, interfaces := #[3, 4], accessFlags := 1041 }

def heap : Heap := #[]
def classes : Array Class := #[k0, k1, k2, k3, k4, k5, k6, k7, k8, k9, k10]
def interned : List (Array UInt16 × Addr) := []
def slotsUsed : Nat := 0
def theMethod : MethodId := ⟨1, 2⟩
def args0 : Array Value := #[.long 0, .long 1, .long 2, .long 3, .long 4, .int 5]
def aboutOver (below : List Frame) : State where
  vm := { classes := classes, interned := interned.toArray }
  heap := heap
  slotsUsed := slotsUsed
  threads := #[{ frames := .invoking theMethod args0 :: below }]
def below0 : List Frame := [.native { method := ⟨0, 0⟩, args := #[] }]
def about1 : State := aboutOver below0
def p0 : Program := .bare "" "" ""
def e0 : Env := launch0.env 0 0 0
theorem w_frames : about1.frames = Frame.invoking theMethod args0 :: below0 := rfl
set_option maxRecDepth 65536 in
theorem w_args : argsFit about1.vm theMethod args0 = true := by decide +kernel
set_option maxRecDepth 65536 in
theorem w_heap : heapFits about1 = true := by decide +kernel
set_option maxRecDepth 65536 in
theorem w_runnable : about1.curStatus? = some .runnable := by decide +kernel
set_option maxRecDepth 65536 in
theorem w_alone : about1.alone = true := by decide +kernel
set_option maxRecDepth 65536 in
theorem w_named : about1.methodNamed? x = some theMethod := by decide +kernel
set_option maxRecDepth 65536 in
theorem w_hears : about1.hears theMethod below0 = true := by decide +kernel
set_option maxRecDepth 65536 in
theorem w_ripe : about1.ripe theMethod args0 below0 = true := by decide +kernel
theorem w_running : about1.status = .running := rfl
set_option maxRecDepth 65536 in
theorem w_room : about1.hasRoom e0.platform room_1 = true :=
  launch0.hasRoom_least _ room_1 (by decide +kernel) (by decide +kernel) (by decide +kernel) (by decide +kernel) (by decide +kernel) (by decide +kernel)
theorem allAtoms_all (ts : List Jvm.Cond) (a : Array Jvm.Value) (st : Jvm.State) : (allAtoms ts).before a st = ts.all (fun c => c.before a st) := by
  induction ts with
  | nil => rfl
  | cons c t ih =>
    show (Jvm.Cond.and c (allAtoms t)).before a st = _
    rw [Jvm.Cond.before_and, ih, List.all_cons]
def words1 : List Jvm.Cond := Jvm.Cond.code x code maxLocals ret :: tables_1
/-- a 'code' word, met by the world's own term for the bytes: nothing is compared byte by byte -/
theorem code_word {y : MethodName} {bytes : ByteArray} {mx : Nat} {rt : Option FieldType} {a : Array Value} {s : State} {m : MethodId} {meth : Method} {c : Code} (h1 : s.methodNamed? y = some m) (h2 : s.vm.method? m = some meth) (h3 : meth.code = some c) (h4 : c.code = bytes)
    (h5 : (c.maxLocals == mx && c.exceptionTable.isEmpty && decide (c.maxStack ≤ mostOperands) && decide (meth.sig.returnType = rt) && !meth.locks && decide (parseMethodDescriptor y.desc = some meth.sig)) = true) : (Jvm.Cond.code y bytes mx rt).before a s = true := by
  simp only [Bool.and_eq_true, beq_iff_eq, Bool.not_eq_true', decide_eq_true_eq] at h5
  obtain ⟨⟨⟨⟨⟨g1, g2⟩, g3⟩, g4⟩, g5⟩, g6⟩ := h5
  simp [Cond.before, Cond.holds, Cond.value, h1, h2, h3, h4, g1, g2, g3, g4, g5, g6]
def isCode : Jvm.Cond → Bool
  | .code _ _ _ _ => true
  | _ => false
theorem all_split {L : List Jvm.Cond} {P : Jvm.Cond → Bool} (h1 : L.all (fun c => isCode c || P c) = true) (h2 : ∀ c ∈ L.filter isCode, P c = true) : L.all P = true := by
  refine List.all_eq_true.mpr fun c hc => ?_
  have h := List.all_eq_true.mp h1 c hc
  rcases Bool.eq_false_or_eq_true (isCode c) with hi | hi
  · exact h2 c (List.mem_filter.mpr ⟨hc, hi⟩)
  · simpa [hi] using h
set_option maxRecDepth 65536 in
theorem w_c0 : (Jvm.Cond.code x code maxLocals ret).before args0 about1 = true := code_word (m := ⟨1, 2⟩) (meth := k1m2) (c := k1c2) (by decide +kernel) rfl rfl rfl (by decide +kernel)
set_option maxRecDepth 65536 in
theorem w_c1 : (Jvm.Cond.code ({ cls := "com/example/unify_to_cover/unifytocover/search/ValueSets", name := "copy", desc := "([J[J)V" } : Jvm.MethodName) prog_71_method_13_code (3 : Nat) (Option.none : Option Jvm.ClassFile.FieldType)).before args0 about1 = true := code_word (m := ⟨2, 1⟩) (meth := k2m1) (c := k2c1) (by decide +kernel) rfl rfl rfl (by decide +kernel)
set_option maxRecDepth 65536 in
theorem w_c2 : (Jvm.Cond.code ({ cls := "com/example/unify_to_cover/unifytocover/search/ValueSetsCopyPinLaw", name := "ok", desc := "([J[JIJ)Z" } : Jvm.MethodName) method_2_code (5 : Nat) (Option.some Jvm.ClassFile.FieldType.boolean)).before args0 about1 = true := code_word (m := ⟨1, 1⟩) (meth := k1m1) (c := k1c1) (by decide +kernel) rfl rfl rfl (by decide +kernel)
def codes1 : List Jvm.Cond := [Jvm.Cond.code x code maxLocals ret, Jvm.Cond.code ({ cls := "com/example/unify_to_cover/unifytocover/search/ValueSets", name := "copy", desc := "([J[J)V" } : Jvm.MethodName) prog_71_method_13_code (3 : Nat) (Option.none : Option Jvm.ClassFile.FieldType), Jvm.Cond.code ({ cls := "com/example/unify_to_cover/unifytocover/search/ValueSetsCopyPinLaw", name := "ok", desc := "([J[JIJ)Z" } : Jvm.MethodName) method_2_code (5 : Nat) (Option.some Jvm.ClassFile.FieldType.boolean)]
set_option maxRecDepth 65536 in
theorem codes_eq : words1.filter isCode = codes1 := rfl
theorem w_codes : ∀ c ∈ words1.filter isCode, c.before args0 about1 = true := by
  rw [codes_eq]
  intro c hc
  simp only [codes1, List.mem_cons, List.not_mem_nil, or_false] at hc
  rcases hc with rfl | rfl | rfl
  · exact w_c0
  · exact w_c1
  · exact w_c2
set_option maxRecDepth 65536 in
theorem w_t1 : words1.all (fun c => isCode c || c.before args0 about1) = true := by decide +kernel
theorem w_tables : (allAtoms (Jvm.Cond.code x code maxLocals ret :: tables_1)).before args0 about1 = true := by
  rw [allAtoms_all]
  show words1.all (fun c => c.before args0 about1) = true
  refine all_split ?_ w_codes
  rw [w_t1]
set_option maxRecDepth 65536 in
theorem w_case : (Jvm.Cond.and given_1 narrow_1).before args0 about1 = true := by decide +kernel
theorem w_applies : (headSpec (Jvm.Cond.code x code maxLocals ret :: tables_1) room_1).applies x e0.platform about1 = true :=
  (Spec.applies_iff w_frames).mpr ⟨w_running, w_runnable, w_alone, w_named, w_hears, w_ripe, w_room, w_tables⟩
theorem atStart : AtStart classFile x code maxLocals ret World_1 tables_1 room_1 Calls_1 rest_1 Pre_1 launch0 p0 e0 about1 theMethod args0 below0 :=
  ⟨lists_1, trivial, launch0.admits_env _ _ _, launch0.least_env, fairChoices_fair.cas, fairChoices_fair.clock, w_frames, w_args, w_heap, w_applies, trivial, trivial, w_case⟩
end start1
theorem witness_1 : WitnessClaimed_1 := ⟨start1.p0, start1.e0, start1.about1, start1.theMethod, start1.args0, start1.below0, start1.atStart⟩
end Jvm.Pilot.@@N@@

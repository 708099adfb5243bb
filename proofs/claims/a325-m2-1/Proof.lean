import JvmDerived
import JvmDerived.Pilot.@@N@@Statement
import JvmDerived.Pilot.@@N@@Code
set_option linter.unusedVariables false
set_option linter.unusedSimpArgs false
namespace Jvm.Pilot.@@N@@
open Jvm Jvm.ClassFile Sem Op Lib Jvm.Free Jvm.Stand Jvm.LawKit Jvm.RoadKit Bundle Jvm.Pilot.@@N@@.Jvm.D
/-! ### own: what is left of a body's walk, as one word; each step goes back over it -/
def OGo (p : Program) (e : Env) (below : List Frame) (s : State) (Q : Option Value → Heap → List Loc → Prop) (C S : Nat) (T : State) (g : JFrame) : Prop :=
  ∃ s₂ o, Steps p.tables e below (T.setTop g) s₂ ∧ s₂.status = .running ∧ Ended s₂ below o ∧ ∃ v L, o = .returned v ∧ Q v s₂.heap L ∧ FrameEnd s o s₂ L C S
section Own
variable {p : Program} {l : Launch} {e : Env} {R : Room} {s s₁ : State} {m : MethodId} {args : Array Value} {below : List Frame} {meth : Method} {c : Code} {T T' : State} {locs : List Loc} {cells slots : Nat} {g g' : JFrame} {Q : Option Value → Heap → List Loc → Prop} {C S : Nat} {Z : State} {a0 : Array Value} {h h' : Heap}
theorem OGo.st (k : ∀ t, Steps p.tables e below (T'.setTop g') t → Steps p.tables e below (T.setTop g) t) (q : OGo p e below s Q C S T' g') : OGo p e below s Q C S T g := by
  obtain ⟨s₂, o, h1, h2⟩ := q
  exact ⟨s₂, o, k _ h1, h2⟩
theorem OGo.en {ml : Nat} (q : entryFrame m args ml = g) (k : OGo p e below s Q C S s₁ g) : ∃ s₂ o, Steps p.tables e below (s₁.setTop (entryFrame m args ml)) s₂ ∧ s₂.status = .running ∧ Ended s₂ below o ∧ ∃ v L, o = .returned v ∧ Q v s₂.heap L ∧ FrameEnd s o s₂ L C S := by
  rw [q]; exact k
theorem OGo.ret (X : Stand p l e R s m args below meth c T locs cells slots) (hx : p.tables.exec = Jvm.exec) (hlk : meth.locks = false) {pc : Nat} {Ls : Array Slot} {w : Value} {t : FieldType} {i : Instr} {rest : List Value} (hret : meth.sig.returnType = some t) (hn : narrow t w = w)
    (hi : (i = .ireturn ∧ (t = .int ∨ t = .boolean ∨ t = .byte ∨ t = .char ∨ t = .short) ∧ ∃ z, w = .int z) ∨ (i = .lreturn ∧ t = .long ∧ ∃ z, w = .long z) ∨ (i = .dreturn ∧ t = .double ∧ ∃ z, w = .double z) ∨ (i = .freturn ∧ t = .float ∧ ∃ z, w = .float z) ∨ (i = .areturn ∧ t.isReference = true ∧ w.isRef = true))
    (hd : decode c.code pc = .ok (i, 1)) (hC : cells ≤ C) (hS : slots ≤ S) (hh : T.heap = h) (hQ : Q (some w) h locs) : OGo p e below s Q C S T (mkF m pc Ls (w :: rest)) := by
  obtain ⟨fs, hr, hrun, hended, hW, hsame⟩ := X.leave (v := some w) (fun q => by rw [hret] at q; cases q) hlk
  subst hh
  exact ⟨_, _, retOut X hx hret hn hi hd hr, hrun, hended, _, _, rfl, hQ, ⟨_, rfl⟩, hW, hsame.mono hC hS⟩
theorem OGo.retV (X : Stand p l e R s m args below meth c T locs cells slots) (hx : p.tables.exec = Jvm.exec) (hlk : meth.locks = false) {pc : Nat} {Ls : Array Slot} (hret : meth.sig.returnType = none)
    (hd : decode c.code pc = .ok (.return_, 1)) (hC : cells ≤ C) (hS : slots ≤ S) (hh : T.heap = h) (hQ : Q none h locs) : OGo p e below s Q C S T (mkF m pc Ls []) := by
  obtain ⟨fs, hr, hrun, hended, hW, hsame⟩ := X.leave (v := none) (fun _ => rfl) hlk
  subst hh
  exact ⟨_, _, X.returnOut hx hret hd hr, hrun, hended, _, _, rfl, hQ, ⟨_, rfl⟩, hW, hsame.mono hC hS⟩
theorem own_rI {t : FieldType} {z : Int32} (ht : t = .int ∨ t = .boolean ∨ t = .byte ∨ t = .char ∨ t = .short) : ((Instr.ireturn = .ireturn ∧ (t = .int ∨ t = .boolean ∨ t = .byte ∨ t = .char ∨ t = .short) ∧ ∃ z', Value.int z = .int z') ∨ (Instr.ireturn = .lreturn ∧ t = .long ∧ ∃ z', Value.int z = .long z') ∨ (Instr.ireturn = .dreturn ∧ t = .double ∧ ∃ z', Value.int z = .double z') ∨ (Instr.ireturn = .freturn ∧ t = .float ∧ ∃ z', Value.int z = .float z') ∨ (Instr.ireturn = .areturn ∧ t.isReference = true ∧ (Value.int z).isRef = true)) := Or.inl ⟨rfl, ht, z, rfl⟩
theorem own_rJ {z : Int64} : ((Instr.lreturn = .ireturn ∧ (FieldType.long = .int ∨ FieldType.long = .boolean ∨ FieldType.long = .byte ∨ FieldType.long = .char ∨ FieldType.long = .short) ∧ ∃ z', Value.long z = .int z') ∨ (Instr.lreturn = .lreturn ∧ FieldType.long = .long ∧ ∃ z', Value.long z = .long z') ∨ (Instr.lreturn = .dreturn ∧ FieldType.long = .double ∧ ∃ z', Value.long z = .double z') ∨ (Instr.lreturn = .freturn ∧ FieldType.long = .float ∧ ∃ z', Value.long z = .float z') ∨ (Instr.lreturn = .areturn ∧ FieldType.long.isReference = true ∧ (Value.long z).isRef = true)) := Or.inr (Or.inl ⟨rfl, rfl, z, rfl⟩)
theorem own_rR {t : FieldType} {w : Value} (ht : t.isReference = true) (hw : w.isRef = true) : ((Instr.areturn = .ireturn ∧ (t = .int ∨ t = .boolean ∨ t = .byte ∨ t = .char ∨ t = .short) ∧ ∃ z', w = .int z') ∨ (Instr.areturn = .lreturn ∧ t = .long ∧ ∃ z', w = .long z') ∨ (Instr.areturn = .dreturn ∧ t = .double ∧ ∃ z', w = .double z') ∨ (Instr.areturn = .freturn ∧ t = .float ∧ ∃ z', w = .float z') ∨ (Instr.areturn = .areturn ∧ t.isReference = true ∧ w.isRef = true)) := Or.inr (Or.inr (Or.inr (Or.inr ⟨rfl, ht, hw⟩)))
/-! own: an array by its length and a function of the places -/
def own_ix (j : Int32) (i : Nat) : Prop := ¬ j < 0 ∧ j.toNatClampNeg = i
theorem own_ix_of {i : Nat} (hi : i < 2 ^ 31) : own_ix (Int32.ofNat i) i := by
  have q : (Int32.ofNat i).toInt = i := Int32.toInt_ofNat_of_lt hi
  refine ⟨fun w => ?_, ?_⟩
  · rw [Int32.lt_iff_toInt_lt, q, show (0 : Int32).toInt = 0 from rfl] at w; omega
  · rw [Int32.toNatClampNeg, q]; rfl
theorem own_len32 {n : Nat} : n.toInt32 = Int32.ofNat n := rfl
def own_upd {α : Type} (f : Nat → α) (i : Nat) (v : α) (j : Nat) : α := if j = i then v else f j
def own_L {α : Type} (d : α) (l : List α) (j : Nat) : α := l.getD j d
theorem own_L_set {α : Type} (d : α) (l : List α) (i : Nat) (v : α) (hi : i < l.length) (j : Nat) : own_upd (own_L d l) i v j = own_L d (l.set i v) j := by
  unfold own_upd own_L
  by_cases q : j = i
  · subst q; simp [List.getD_eq_getElem?_getD, hi]
  · simp [List.getD_eq_getElem?_getD, q, List.getElem?_set, Ne.symm q]
theorem own_L_rep {α : Type} (d : α) (n : Nat) (j : Nat) : d = own_L d (List.replicate n d) j := by
  unfold own_L
  rw [List.getD_eq_getElem?_getD, List.getElem?_replicate]
  split <;> rfl
theorem own_updI (f : Nat → Int32) (i : Nat) (x : Int32) (j : Nat) : own_upd (fun j => Value.int (f j)) i (.int x) j = Value.int (own_upd f i x j) := by unfold own_upd; split <;> rfl
theorem own_updJ (f : Nat → Int64) (i : Nat) (x : Int64) (j : Nat) : own_upd (fun j => Value.long (f j)) i (.long x) j = Value.long (own_upd f i x j) := by unfold own_upd; split <;> rfl
def OArr (Z : State) (h : Heap) (a : Addr) (ty : FieldType) (n : Nat) (f : Nat → Value) : Prop := ∃ cl : Cell, Arr Z h a cl ty ∧ cl.slots.size = n ∧ n < 2 ^ 31 ∧ ∀ j, j < n → cl.slots[j]? = some (f j)
variable {a b : Addr} {ty : FieldType} {n : Nat} {f f' : Nat → Value} {sl : Nat} {v : Value} {ws : List Addr}
theorem OArr.lt (F : OArr Z h a ty n f) : a < h.size := by obtain ⟨cl, A, -⟩ := F; exact A.lt
theorem OArr.ext (F : OArr Z h a ty n f) (E : Ext h h') : OArr Z h' a ty n f := by obtain ⟨cl, A, r⟩ := F; exact ⟨cl, A.ext E, r⟩
theorem OArr.other (F : OArr Z h a ty n f) (W : Wr h h' b sl v) (q : a ≠ b) : OArr Z h' a ty n f := by obtain ⟨cl, A, r⟩ := F; exact ⟨cl, A.other W q, r⟩
theorem OArr.keep (F : OArr Z h a ty n f) (K : Keep h h' ws) (q : a ∉ ws) : OArr Z h' a ty n f := by obtain ⟨cl, A, r⟩ := F; exact ⟨cl, ⟨K.2.1 a cl A.1 q, A.2⟩, r⟩
theorem OArr.cast (F : OArr Z h a ty n f) (q : ∀ j, j < n → f j = f' j) : OArr Z h a ty n f' := by obtain ⟨cl, A, r1, r2, r3⟩ := F; exact ⟨cl, A, r1, r2, fun j hj => by rw [r3 j hj, q j hj]⟩
theorem own_in {cl : Cell} {j : Int32} {i : Nat} (hs : cl.slots.size = n) (hj : own_ix j i) (hi : i < n) : ¬ (j < 0 ∨ cl.slots.size ≤ j.toNatClampNeg) := by
  rw [hs, hj.2]; exact fun q => q.elim hj.1 (fun q => absurd hi (Nat.not_lt.mpr q))
theorem OArr.wr (F : OArr Z h a ty n f) {j : Int32} {i : Nat} (hj : own_ix j i) (W : Wr h h' a j.toNatClampNeg v) : OArr Z h' a ty n (own_upd f i v) := by
  obtain ⟨cl, A, r1, r2, r3⟩ := F
  refine ⟨_, A.same W, by rw [sz_set, r1], r2, fun k hk => ?_⟩
  show (cl.slots.setIfInBounds _ v)[k]? = _
  rw [hj.2]
  unfold own_upd
  by_cases q : k = i
  · subst q; rw [if_pos rfl, Array.getElem?_setIfInBounds_self_of_lt (by omega)]
  · rw [if_neg q, Array.getElem?_setIfInBounds_ne (Ne.symm q)]; exact r3 k hk
theorem own_len (X : Stand p l e R s m args below meth c T locs cells slots) (hx : p.tables.exec = Jvm.exec) (hZ : Z.Warmed39 s.vm) (eT : T.heap = h) (F : OArr Z h a ty n f) (hg : g.method = m) {rest : List Value} (hs : g.stack = .ref a :: rest) (hd : decode c.code g.pc = .ok (.arraylength, 1)) :
    ∀ t, Steps p.tables e below (T.setTop { g with pc := g.pc + 1, stack := .int (Int32.ofNat n) :: rest }) t → Steps p.tables e below (T.setTop g) t := by
  obtain ⟨cl, A, r1, r2, r3⟩ := F
  subst r1
  exact X.arraylength hx (by rw [eT]; exact A.1) (State.isArrayOf_alike hZ.alike A.2.1) hg hs hd
theorem own_ldI (X : Stand p l e R s m args below meth c T locs cells slots) (hx : p.tables.exec = Jvm.exec) (hZ : Z.Warmed39 s.vm) (eT : T.heap = h) (F : OArr Z h a .int n f) {j : Int32} {i : Nat} (hj : own_ix j i) (hi : i < n) (hg : g.method = m) {rest : List Value} (hs : g.stack = .int j :: .ref a :: rest) (hd : decode c.code g.pc = .ok (.iaload, 1)) :
    ∀ t, Steps p.tables e below (T.setTop { g with pc := g.pc + 1, stack := f i :: rest }) t → Steps p.tables e below (T.setTop g) t := by
  obtain ⟨cl, A, r1, r2, r3⟩ := F
  exact X.iaload hx (by rw [eT]; exact A.1) (State.isArrayOf_alike hZ.alike A.2.1) A.2.2 (own_in r1 hj hi) (by rw [hj.2]; exact r3 i hi) hg hs hd
theorem own_ldJ (X : Stand p l e R s m args below meth c T locs cells slots) (hx : p.tables.exec = Jvm.exec) (hZ : Z.Warmed39 s.vm) (eT : T.heap = h) (F : OArr Z h a .long n f) {j : Int32} {i : Nat} (hj : own_ix j i) (hi : i < n) (hg : g.method = m) {rest : List Value} (hs : g.stack = .int j :: .ref a :: rest) (hd : decode c.code g.pc = .ok (.laload, 1)) :
    ∀ t, Steps p.tables e below (T.setTop { g with pc := g.pc + 1, stack := f i :: rest }) t → Steps p.tables e below (T.setTop g) t := by
  obtain ⟨cl, A, r1, r2, r3⟩ := F
  exact X.laload hx (by rw [eT]; exact A.1) (State.isArrayOf_alike hZ.alike A.2.1) A.2.2 (own_in r1 hj hi) (by rw [hj.2]; exact r3 i hi) hg hs hd
theorem own_ldB (X : Stand p l e R s m args below meth c T locs cells slots) (hx : p.tables.exec = Jvm.exec) (hZ : Z.Warmed39 s.vm) (eT : T.heap = h) (F : OArr Z h a .byte n f) {j : Int32} {i : Nat} (hj : own_ix j i) (hi : i < n) (hg : g.method = m) {rest : List Value} (hs : g.stack = .int j :: .ref a :: rest) (hd : decode c.code g.pc = .ok (.baload, 1)) :
    ∀ t, Steps p.tables e below (T.setTop { g with pc := g.pc + 1, stack := f i :: rest }) t → Steps p.tables e below (T.setTop g) t := by
  obtain ⟨cl, A, r1, r2, r3⟩ := F
  exact X.baloadBytes hx (by rw [eT]; exact A.1) (State.isArrayOf_alike hZ.alike A.2.1) A.2.2 (own_in r1 hj hi) (by rw [hj.2]; exact r3 i hi) hg hs hd
theorem own_stI (X : Stand p l e R s m args below meth c T locs cells slots) (hx : p.tables.exec = Jvm.exec) (hZ : Z.Warmed39 s.vm) (eT : T.heap = h) (F : OArr Z h a .int n f) {j x : Int32} {i : Nat} (hj : own_ix j i) (hi : i < n) (hg : g.method = m) {rest : List Value} (hs : g.stack = .int x :: .int j :: .ref a :: rest) (hd : decode c.code g.pc = .ok (.iastore, 1)) :
    ∃ T' h', Stand p l e R s m args below meth c T' (locs ++ [⟨a, j.toNatClampNeg⟩]) cells slots ∧ T'.heap = h' ∧ Wr h h' a j.toNatClampNeg (.int x) ∧ OArr Z h' a .int n (own_upd f i (.int x)) ∧ ∀ t, Steps p.tables e below (T'.setTop { g with pc := g.pc + 1, stack := rest }) t → Steps p.tables e below (T.setTop g) t := by
  obtain ⟨cl, A, r1, r2, r3⟩ := id F
  obtain ⟨T', h', X', e', W, st⟩ := stI X hx hZ eT A (own_in r1 hj hi) hg hs hd
  exact ⟨T', h', X', e', W, F.wr hj W, st⟩
theorem own_stJ (X : Stand p l e R s m args below meth c T locs cells slots) (hx : p.tables.exec = Jvm.exec) (hZ : Z.Warmed39 s.vm) (eT : T.heap = h) (F : OArr Z h a .long n f) {j : Int32} {x : Int64} {i : Nat} (hj : own_ix j i) (hi : i < n) (hg : g.method = m) {rest : List Value} (hs : g.stack = .long x :: .int j :: .ref a :: rest) (hd : decode c.code g.pc = .ok (.lastore, 1)) :
    ∃ T' h', Stand p l e R s m args below meth c T' (locs ++ [⟨a, j.toNatClampNeg⟩]) cells slots ∧ T'.heap = h' ∧ Wr h h' a j.toNatClampNeg (.long x) ∧ OArr Z h' a .long n (own_upd f i (.long x)) ∧ ∀ t, Steps p.tables e below (T'.setTop { g with pc := g.pc + 1, stack := rest }) t → Steps p.tables e below (T.setTop g) t := by
  obtain ⟨cl, A, r1, r2, r3⟩ := id F
  obtain ⟨T', h', X', e', W, st⟩ := stJ X hx hZ eT A (own_in r1 hj hi) hg hs hd
  exact ⟨T', h', X', e', W, F.wr hj W, st⟩
theorem own_newA (X : Stand p l e R s m args below meth c T locs cells slots) (hx : p.tables.exec = Jvm.exec) (hZ : Z.Warmed39 s.vm) {aty : ArrayType} (w : (Cond.arrayClass (newarray.typeOf aty)).before a0 Z = true) (eT : T.heap = h) (hg : g.method = m) (hd : decode c.code g.pc = .ok (.newarray aty, 2)) {z : Int32} {rest : List Value} (hs : g.stack = .int z :: rest)
    (hj : own_ix z n) {cap : Nat} (hcap : n ≤ cap) (hb : cap * 8 ≤ 536870912) (hc : cells + 1 ≤ R.cells) (hl : slots + cap ≤ R.slots) :
    ∃ T' h' b, b = h.size ∧ Stand p l e R s m args below meth c T' locs (cells + 1) (slots + cap) ∧ T'.heap = h' ∧ Ext h h' ∧ OArr Z h' b (newarray.typeOf aty) n (fun _ => defaultValue (newarray.typeOf aty)) ∧
      ∀ t, Steps p.tables e below (T'.setTop { g with pc := g.pc + 2, stack := .ref b :: rest }) t → Steps p.tables e below (T.setTop g) t := by
  obtain ⟨T', h', cA, X', e', E, A, st⟩ := newP X hx hZ w eT hg hd hs hj.1 (cap := cap) (by rw [hj.2]; exact hcap) hb hc hl
  have q := back32 hj.1
  rw [hj.2] at q
  refine ⟨T', h', _, rfl, X', e', E, ⟨_, A, (sz_new _ _ _).trans hj.2, q.2, fun k hk => ?_⟩, st⟩
  show (Array.replicate z.toNatClampNeg (defaultValue (newarray.typeOf aty)))[k]? = _
  rw [hj.2, Array.getElem?_replicate, if_pos hk]
theorem own_keepL {x : Addr} {L : List Addr} (K : Keep h h' L) (q : x ∉ L) {cl : Cell} (hc : h[x]? = some cl) : h'[x]? = some cl := K.2.1 x cl hc q
theorem own_pop2L {tb : Tables} [Ours tb] {target : State} (h : At T m c below) (hx : tb.exec = Jvm.exec) (hg : g.method = m) {x : Int64} {rest : List Value} (hd : decode c.code g.pc = .ok (.pop2, 1)) (hs : g.stack = .long x :: rest)
    (hr : Steps tb e below (T.setTop { g with pc := g.pc + 1, stack := rest }) target) : Steps tb e below (T.setTop g) target := by
  subst hg
  jvm_step h [h.top, hx, hd, hs, Value.category]
  exact hr
end Own
theorem own_d_jdk_30_method_1_0 : decode jdk_30_method_1_code 0 = .ok (.aload_n 0, 1) := by decide +kernel
theorem own_d_jdk_30_method_1_1 : decode jdk_30_method_1_code 1 = .ok (.invokespecial 1, 3) := by decide +kernel
theorem own_d_jdk_30_method_1_4 : decode jdk_30_method_1_code 4 = .ok (.return_, 1) := by decide +kernel
theorem own_pn3 : plainName "java/lang/Record" = true := by first | (simp [plainName, overriddenIn]; done) | decide +kernel
theorem own_d_prog_8_method_1_0 : decode prog_8_method_1_code 0 = .ok (.aload_n 0, 1) := by decide +kernel
theorem own_d_prog_8_method_1_1 : decode prog_8_method_1_code 1 = .ok (.invokespecial 1, 3) := by decide +kernel
theorem own_pd2 : parseMethodDescriptor "()V" = some ⟨[], none⟩ := by decide +kernel
theorem own_d_prog_8_method_1_4 : decode prog_8_method_1_code 4 = .ok (.aload_n 0, 1) := by decide +kernel
theorem own_d_prog_8_method_1_5 : decode prog_8_method_1_code 5 = .ok (.iload_n 1, 1) := by decide +kernel
theorem own_d_prog_8_method_1_6 : decode prog_8_method_1_code 6 = .ok (.putfield 7, 3) := by decide +kernel
theorem own_d_prog_8_method_1_9 : decode prog_8_method_1_code 9 = .ok (.aload_n 0, 1) := by decide +kernel
theorem own_d_prog_8_method_1_10 : decode prog_8_method_1_code 10 = .ok (.lload_n 2, 1) := by decide +kernel
theorem own_d_prog_8_method_1_11 : decode prog_8_method_1_code 11 = .ok (.putfield 13, 3) := by decide +kernel
theorem own_d_prog_8_method_1_14 : decode prog_8_method_1_code 14 = .ok (.aload_n 0, 1) := by decide +kernel
theorem own_d_prog_8_method_1_15 : decode prog_8_method_1_code 15 = .ok (.iload 4, 2) := by decide +kernel
theorem own_d_prog_8_method_1_17 : decode prog_8_method_1_code 17 = .ok (.putfield 17, 3) := by decide +kernel
theorem own_d_prog_8_method_1_20 : decode prog_8_method_1_code 20 = .ok (.aload_n 0, 1) := by decide +kernel
theorem own_d_prog_8_method_1_21 : decode prog_8_method_1_code 21 = .ok (.lload 5, 2) := by decide +kernel
theorem own_d_prog_8_method_1_23 : decode prog_8_method_1_code 23 = .ok (.putfield 20, 3) := by decide +kernel
theorem own_d_prog_8_method_1_26 : decode prog_8_method_1_code 26 = .ok (.aload_n 0, 1) := by decide +kernel
theorem own_d_prog_8_method_1_27 : decode prog_8_method_1_code 27 = .ok (.aload 7, 2) := by decide +kernel
theorem own_d_prog_8_method_1_29 : decode prog_8_method_1_code 29 = .ok (.putfield 23, 3) := by decide +kernel
theorem own_d_prog_8_method_1_32 : decode prog_8_method_1_code 32 = .ok (.aload_n 0, 1) := by decide +kernel
theorem own_d_prog_8_method_1_33 : decode prog_8_method_1_code 33 = .ok (.iload 8, 2) := by decide +kernel
theorem own_d_prog_8_method_1_35 : decode prog_8_method_1_code 35 = .ok (.putfield 27, 3) := by decide +kernel
theorem own_d_prog_8_method_1_38 : decode prog_8_method_1_code 38 = .ok (.return_, 1) := by decide +kernel
theorem own_pn0 : plainName "com/example/rallypoint/rallypoint/protocol/ConnectRequest" = true := by first | (simp [plainName, overriddenIn]; done) | decide +kernel
theorem own_d_prog_8_method_2_0 : decode prog_8_method_2_code 0 = .ok (.new 8, 3) := by decide +kernel
theorem own_d_prog_8_method_2_3 : decode prog_8_method_2_code 3 = .ok (.dup, 1) := by decide +kernel
theorem own_d_prog_8_method_2_4 : decode prog_8_method_2_code 4 = .ok (.iconst 0, 1) := by decide +kernel
theorem own_d_prog_8_method_2_5 : decode prog_8_method_2_code 5 = .ok (.lconst 0, 1) := by decide +kernel
theorem own_d_prog_8_method_2_6 : decode prog_8_method_2_code 6 = .ok (.iload_n 0, 1) := by decide +kernel
theorem own_d_prog_8_method_2_7 : decode prog_8_method_2_code 7 = .ok (.lconst 0, 1) := by decide +kernel
theorem own_d_prog_8_method_2_8 : decode prog_8_method_2_code 8 = .ok (.bipush 16, 2) := by decide +kernel
theorem own_d_prog_8_method_2_10 : decode prog_8_method_2_code 10 = .ok (.newarray .byte, 2) := by decide +kernel
theorem own_d_prog_8_method_2_12 : decode prog_8_method_2_code 12 = .ok (.iconst 0, 1) := by decide +kernel
theorem own_d_prog_8_method_2_13 : decode prog_8_method_2_code 13 = .ok (.invokespecial 31, 3) := by decide +kernel
theorem own_pd7 : parseMethodDescriptor "(IJIJ[BZ)V" = some ⟨[.int, .long, .int, .long, (.array .byte), .boolean], none⟩ := by decide +kernel
theorem own_d_prog_8_method_2_16 : decode prog_8_method_2_code 16 = .ok (.areturn, 1) := by decide +kernel
theorem own_d_prog_8_method_9_0 : decode prog_8_method_9_code 0 = .ok (.aload_n 0, 1) := by decide +kernel
theorem own_d_prog_8_method_9_1 : decode prog_8_method_9_code 1 = .ok (.getfield 7, 3) := by decide +kernel
theorem own_d_prog_8_method_9_4 : decode prog_8_method_9_code 4 = .ok (.ireturn, 1) := by decide +kernel
theorem own_d_prog_8_method_10_0 : decode prog_8_method_10_code 0 = .ok (.aload_n 0, 1) := by decide +kernel
theorem own_d_prog_8_method_10_1 : decode prog_8_method_10_code 1 = .ok (.getfield 13, 3) := by decide +kernel
theorem own_d_prog_8_method_10_4 : decode prog_8_method_10_code 4 = .ok (.lreturn, 1) := by decide +kernel
theorem own_d_prog_8_method_11_0 : decode prog_8_method_11_code 0 = .ok (.aload_n 0, 1) := by decide +kernel
theorem own_d_prog_8_method_11_1 : decode prog_8_method_11_code 1 = .ok (.getfield 17, 3) := by decide +kernel
theorem own_d_prog_8_method_11_4 : decode prog_8_method_11_code 4 = .ok (.ireturn, 1) := by decide +kernel
theorem own_d_prog_8_method_12_0 : decode prog_8_method_12_code 0 = .ok (.aload_n 0, 1) := by decide +kernel
theorem own_d_prog_8_method_12_1 : decode prog_8_method_12_code 1 = .ok (.getfield 20, 3) := by decide +kernel
theorem own_d_prog_8_method_12_4 : decode prog_8_method_12_code 4 = .ok (.lreturn, 1) := by decide +kernel
theorem own_d_prog_8_method_13_0 : decode prog_8_method_13_code 0 = .ok (.aload_n 0, 1) := by decide +kernel
theorem own_d_prog_8_method_13_1 : decode prog_8_method_13_code 1 = .ok (.getfield 23, 3) := by decide +kernel
theorem own_d_prog_8_method_13_4 : decode prog_8_method_13_code 4 = .ok (.areturn, 1) := by decide +kernel
theorem own_d_prog_8_method_14_0 : decode prog_8_method_14_code 0 = .ok (.aload_n 0, 1) := by decide +kernel
theorem own_d_prog_8_method_14_1 : decode prog_8_method_14_code 1 = .ok (.getfield 27, 3) := by decide +kernel
theorem own_d_prog_8_method_14_4 : decode prog_8_method_14_code 4 = .ok (.ireturn, 1) := by decide +kernel
theorem own_pd5 : parseMethodDescriptor "(I)Lcom/example/rallypoint/rallypoint/protocol/ConnectRequest;" = some ⟨[.int], some (.object "com/example/rallypoint/rallypoint/protocol/ConnectRequest")⟩ := by decide +kernel
theorem own_pd4 : parseMethodDescriptor "()[B" = some ⟨[], some (.array .byte)⟩ := by decide +kernel
theorem own_pd0 : parseMethodDescriptor "()I" = some ⟨[], some .int⟩ := by decide +kernel
theorem own_pd1 : parseMethodDescriptor "()J" = some ⟨[], some .long⟩ := by decide +kernel
theorem own_pd3 : parseMethodDescriptor "()Z" = some ⟨[], some .boolean⟩ := by decide +kernel
theorem own_pn1 : plainName "com/example/rallypoint/rallypoint/protocol/ConnectRequestNewSessionPinLaw" = true := by first | (simp [plainName, overriddenIn]; done) | decide +kernel
theorem own_mask15 (x : Int32) : ∃ i : Nat, i < 16 ∧ own_ix (x &&& (15 : Int32)) i := by
  have e : (x &&& (15 : Int32)) = Int32.ofNat (x &&& 15).toBitVec.toNat := by
    apply Int32.toBitVec_inj.mp
    show _ = BitVec.ofNat 32 _
    rw [BitVec.ofNat_toNat]; simp
  have b : (x &&& 15).toBitVec.toNat ≤ 15 := by
    simp only [Int32.toBitVec_and, BitVec.toNat_and]
    exact Nat.and_le_right
  refine ⟨(x &&& 15).toBitVec.toNat, by omega, ?_⟩
  have q := own_ix_of (i := (x &&& 15).toBitVec.toNat) (by omega)
  rw [← e] at q
  exact q
theorem own_ef_rm3 (m : MethodId) (x0 : Addr) : entryFrame m #[(.ref x0)] 1 = mkF m 0 #[.val (.ref x0)] [] := by first | (simp [entryFrame, mkF, argsToLocals, Value.category]; done) | rfl
def R_rm3 : Room := { frames := 1, cells := 0, slots := 0, locals := 12 }
def Q_rm3 (Z : State) (a : Addr) (h0 : Heap) (n0 : Nat) (v : Option Value) (h : Heap) (L : List Loc) : Prop := v = none ∧ Fr n0 L ∧ h = h0
set_option maxRecDepth 65536 in
set_option maxHeartbeats 40000000 in
theorem rm3 (l : Launch) (Z : State) (a0 : Array Value) (hw : ∀ d ∈ tables_1, d.before a0 Z = true) (ws : List Jvm.Cond) (a : Addr) (h0 : Heap) (n0 : Nat) (Z0 : n0 ≤ h0.size) :
    MetFree l (⟨"java/lang/Record", "<init>", "()V"⟩ : MethodName) (head1 (Jvm.Cond.code (⟨"java/lang/Record", "<init>", "()V"⟩ : MethodName) jdk_30_method_1_code 1 none :: ws) R_rm3) (fun vs_ U => vs_ = #[(.ref a)] ∧ Z.Warmed39 U.vm ∧ U.heap = h0) (fun _ _ _ _ _ => True) (fun _ U o U' => ∃ v L, o = .returned v ∧ Q_rm3 Z a h0 n0 v U'.heap L ∧ FrameEnd U o U' L R_rm3.cells R_rm3.slots) := by
  refine MetFree.of_bodySF (plainFor_of_name own_pn3) hisR ?_
  intro p e s m args below meth c s₁ Bd hml0 hP hK
  obtain ⟨rfl, hZ, hh⟩ := hP
  have hx := Bd.exec
  have hby := Bd.bytes
  have hml : c.maxLocals = 1 := hml0
  have hown : s.vm.findClass "java/lang/Record" = some m.cls := findClass_of_methodNamed Bd.named
  have hnm := (name_of_methodNamed Bd.named Bd.method).1
  have hlk : meth.locks = false := BodyLoose.notSynchronized Bd
  have X0 : Stand p l e R_rm3 s m #[(.ref a)] below meth c s₁ [] 0 0 := Stand.of_body Bd
  have e0 : s₁.heap = h0 := by rw [← hh, Bd.state]; rfl
  have N0 := Fr.nil n0
  refine OGo.en (Q := Q_rm3 Z a h0 n0) (C := R_rm3.cells) (S := R_rm3.slots) (own_ef_rm3 m a) ?_
  refine OGo.st (T' := s₁) (g' := (mkF m 1 #[.val (.ref a)] [(.ref a)])) (fun _ k => (XS.aloadN X0.here hx rfl (hb hby own_d_jdk_30_method_1_0) rfl rfl k)) ?_
  obtain ⟨T1, X1, e1, st1⟩ := initO X0 hx hZ hown (hw _ (List.mem_of_getElem? (i := 15) rfl)) (hw _ (List.mem_of_getElem? (i := 16) rfl)) (hw _ (List.mem_of_getElem? (i := 17) rfl)) e0 (g := (mkF m 1 #[.val (.ref a)] [(.ref a)])) rfl (by rw [hml]; rfl) rfl (hb hby own_d_jdk_30_method_1_1) (by decide) (W := 0) (by show 2 * 0 + _ ≤ _; exact Nat.le_of_eq rfl) (by decide)
  refine OGo.st (T' := T1) (g' := (mkF m 4 #[.val (.ref a)] [])) (fun _ k => st1 _ k) ?_
  exact OGo.retV X1 hx hlk Bd.returns (hb hby own_d_jdk_30_method_1_4) (by decide) (by decide) e1 (⟨rfl, N0, rfl⟩)
theorem own_ef_rm2 (m : MethodId) (x0 : Addr) (x1 : Int32) (x2 : Int64) (x3 : Int32) (x4 : Int64) (x5 : Addr) (x6 : Int32) : entryFrame m #[(.ref x0), (.int x1), (.long x2), (.int x3), (.long x4), (.ref x5), (.int x6)] 9 = mkF m 0 #[.val (.ref x0), .val (.int x1), .val (.long x2), .second, .val (.int x3), .val (.long x4), .second, .val (.ref x5), .val (.int x6)] [] := by first | (simp [entryFrame, mkF, argsToLocals, Value.category]; done) | rfl
def R_rm2 : Room := { frames := 2, cells := 0, slots := 0, locals := 24 }
def Q_rm2 (Z : State) (a : Addr) (a_protocolVersion : Int32) (a_lastZxidSeen : Int64) (a_timeOut : Int32) (a_sessionId : Int64) (a_passwd : Value) (a_readOnly : Int32) (q1 : Int32) (q2 : Int64) (q3 : Int32) (q4 : Int64) (d : Addr) (h0 : Heap) (n0 : Nat) (v : Option Value) (h : Heap) (L : List Loc) : Prop := v = none ∧ Fr n0 L ∧ Keep h0 h [a] ∧ Fld Z h a "com/example/rallypoint/rallypoint/protocol/ConnectRequest" "protocolVersion" "I" (.int q1) ∧ Fld Z h a "com/example/rallypoint/rallypoint/protocol/ConnectRequest" "lastZxidSeen" "J" (.long q2) ∧ Fld Z h a "com/example/rallypoint/rallypoint/protocol/ConnectRequest" "timeOut" "I" (.int q3) ∧ Fld Z h a "com/example/rallypoint/rallypoint/protocol/ConnectRequest" "sessionId" "J" (.long q4) ∧ Fld Z h a "com/example/rallypoint/rallypoint/protocol/ConnectRequest" "passwd" "[B" (.ref d) ∧ Fld Z h a "com/example/rallypoint/rallypoint/protocol/ConnectRequest" "readOnly" "Z" (.int (0 : Int32))
set_option maxRecDepth 65536 in
set_option maxHeartbeats 40000000 in
theorem rm2 (l : Launch) (Z : State) (a0 : Array Value) (hw : ∀ d ∈ tables_1, d.before a0 Z = true) (ws : List Jvm.Cond) (a : Addr) (a_protocolVersion : Int32) (a_lastZxidSeen : Int64) (a_timeOut : Int32) (a_sessionId : Int64) (a_passwd : Value) (a_readOnly : Int32) (q1 : Int32) (q2 : Int64) (q3 : Int32) (q4 : Int64) (d : Addr) (h0 : Heap) (n0 : Nat) (Z0 : n0 ≤ h0.size) (E_a : Exa Z h0 a "com/example/rallypoint/rallypoint/protocol/ConnectRequest") (F_a_protocolVersion : Fld Z h0 a "com/example/rallypoint/rallypoint/protocol/ConnectRequest" "protocolVersion" "I" (.int a_protocolVersion)) (F_a_lastZxidSeen : Fld Z h0 a "com/example/rallypoint/rallypoint/protocol/ConnectRequest" "lastZxidSeen" "J" (.long a_lastZxidSeen)) (F_a_timeOut : Fld Z h0 a "com/example/rallypoint/rallypoint/protocol/ConnectRequest" "timeOut" "I" (.int a_timeOut)) (F_a_sessionId : Fld Z h0 a "com/example/rallypoint/rallypoint/protocol/ConnectRequest" "sessionId" "J" (.long a_sessionId)) (F_a_passwd : Fld Z h0 a "com/example/rallypoint/rallypoint/protocol/ConnectRequest" "passwd" "[B" a_passwd) (F_a_readOnly : Fld Z h0 a "com/example/rallypoint/rallypoint/protocol/ConnectRequest" "readOnly" "Z" (.int a_readOnly)) (g_a : n0 ≤ a) (ne_a_d : a ≠ d) :
    MetFree l (⟨"com/example/rallypoint/rallypoint/protocol/ConnectRequest", "<init>", "(IJIJ[BZ)V"⟩ : MethodName) (head1 (Jvm.Cond.code (⟨"com/example/rallypoint/rallypoint/protocol/ConnectRequest", "<init>", "(IJIJ[BZ)V"⟩ : MethodName) prog_8_method_1_code 9 none :: ws) R_rm2) (fun vs_ U => vs_ = #[(.ref a), (.int q1), (.long q2), (.int q3), (.long q4), (.ref d), (.int (0 : Int32))] ∧ Z.Warmed39 U.vm ∧ U.heap = h0) (fun _ _ _ _ _ => True) (fun _ U o U' => ∃ v L, o = .returned v ∧ Q_rm2 Z a a_protocolVersion a_lastZxidSeen a_timeOut a_sessionId a_passwd a_readOnly q1 q2 q3 q4 d h0 n0 v U'.heap L ∧ FrameEnd U o U' L R_rm2.cells R_rm2.slots) := by
  refine MetFree.of_bodySF (plainFor_of_name own_pn0) hisR ?_
  intro p e s m args below meth c s₁ Bd hml0 hP hK
  obtain ⟨rfl, hZ, hh⟩ := hP
  have hx := Bd.exec
  have hby := Bd.bytes
  have hml : c.maxLocals = 9 := hml0
  have hown : s.vm.findClass "com/example/rallypoint/rallypoint/protocol/ConnectRequest" = some m.cls := findClass_of_methodNamed Bd.named
  have hnm := (name_of_methodNamed Bd.named Bd.method).1
  have hlk : meth.locks = false := BodyLoose.notSynchronized Bd
  have X0 : Stand p l e R_rm2 s m #[(.ref a), (.int q1), (.long q2), (.int q3), (.long q4), (.ref d), (.int (0 : Int32))] below meth c s₁ [] 0 0 := Stand.of_body Bd
  have e0 : s₁.heap = h0 := by rw [← hh, Bd.state]; rfl
  have N0 := Fr.nil n0
  have K0 : Keep h0 h0 [a] := Keep.refl _ _
  refine OGo.en (Q := Q_rm2 Z a a_protocolVersion a_lastZxidSeen a_timeOut a_sessionId a_passwd a_readOnly q1 q2 q3 q4 d h0 n0) (C := R_rm2.cells) (S := R_rm2.slots) (own_ef_rm2 m a q1 q2 q3 q4 d (0 : Int32)) ?_
  refine OGo.st (T' := s₁) (g' := (mkF m 1 #[.val (.ref a), .val (.int q1), .val (.long q2), .second, .val (.int q3), .val (.long q4), .second, .val (.ref d), .val (.int (0 : Int32))] [(.ref a)])) (fun _ k => (XS.aloadN X0.here hx rfl (hb hby own_d_prog_8_method_1_0) rfl rfl k)) ?_
  obtain ⟨_, _, ⟨T1, L1, k1, n1⟩, -, X1, ⟨Lc1, hQ1, l1, y1, z1⟩, st1⟩ := X0.specialBack hx (y := (⟨"java/lang/Record", "<init>", "()V"⟩ : MethodName)) rfl hown (mvT hZ (hw _ (List.mem_of_getElem? (i := 10) rfl))) (mvT hZ (hw _ (List.mem_of_getElem? (i := 11) rfl))) (mvT hZ (hw _ (List.mem_of_getElem? (i := 14) rfl))) (by decide) (backOf (W := 0) (rm3 l Z a0 hw [] (a) h0 n0 Z0 ) hZ (hw _ (List.mem_of_getElem? (i := 14) rfl)) (hw _ (List.mem_of_getElem? (i := 13) rfl)) (by decide) (by decide)) (g := (mkF m 1 #[.val (.ref a), .val (.int q1), .val (.long q2), .second, .val (.int q3), .val (.long q4), .second, .val (.ref d), .val (.int (0 : Int32))] [(.ref a)])) rfl (by rw [hml]; rfl) (Steps.refl _) (a := a) (argsL := []) (rest := []) (lenOf own_pd2 rfl) rfl (by show 2 * 0 + _ ≤ _; exact Nat.le_of_eq rfl) (hb hby own_d_prog_8_method_1_1) (fun _ _ => ⟨rfl, e0, (by decide : 0 + 0 ≤ _), (by decide : 0 + 0 ≤ _)⟩)
  dsimp only [Pt.U, Pt.locs, Pt.cells, Pt.slots] at X1 l1 y1 z1 st1 hQ1
  subst l1 y1 z1
  have X1 : Stand p l e R_rm2 s m _ below meth c T1 _ 0 0 := X1
  obtain ⟨rfl, Nq1, e1⟩ := hQ1
  have N1 := Fr.app N0 Nq1
  refine OGo.st (T' := T1) (g' := (mkF m 4 #[.val (.ref a), .val (.int q1), .val (.long q2), .second, .val (.int q3), .val (.long q4), .second, .val (.ref d), .val (.int (0 : Int32))] [])) (fun _ k => st1.trans k) ?_
  refine OGo.st (T' := T1) (g' := (mkF m 6 #[.val (.ref a), .val (.int q1), .val (.long q2), .second, .val (.int q3), .val (.long q4), .second, .val (.ref d), .val (.int (0 : Int32))] [(.int q1), (.ref a)])) (fun _ k => (XS.aloadN X1.here hx rfl (hb hby own_d_prog_8_method_1_4) rfl rfl (XS.iloadN X1.here hx rfl (hb hby own_d_prog_8_method_1_5) rfl k))) ?_
  obtain ⟨T2, h2, X2, e2, W2, st2⟩ := putF X1 hx hZ hown (host := "") (Or.inl (hw _ (List.mem_of_getElem? (i := 18) rfl))) Via.refl e1 F_a_protocolVersion E_a (Or.inr ⟨(hw _ (List.mem_of_getElem? (i := 19) rfl)), rfl, hnm⟩) (hw _ (List.mem_of_getElem? (i := 5) rfl)) (ty := .int) (by decide) rfl rfl (g := (mkF m 6 #[.val (.ref a), .val (.int q1), .val (.long q2), .second, .val (.int q3), .val (.long q4), .second, .val (.ref d), .val (.int (0 : Int32))] [(.int q1), (.ref a)])) rfl rfl (hb hby own_d_prog_8_method_1_6)
  have F_a_protocolVersion_2 : Fld Z h2 a "com/example/rallypoint/rallypoint/protocol/ConnectRequest" "protocolVersion" "I" (.int q1) := F_a_protocolVersion.same W2
  have N2 := Fr.snoc X2 N1 g_a
  have E_a_2 : Exa Z h2 a "com/example/rallypoint/rallypoint/protocol/ConnectRequest" := E_a.wr W2
  have F_a_lastZxidSeen_2 : Fld Z h2 a "com/example/rallypoint/rallypoint/protocol/ConnectRequest" "lastZxidSeen" "J" (.long a_lastZxidSeen) := F_a_lastZxidSeen.other W2 (Or.inr (slot_ne (Or.inr (hw _ (List.mem_of_getElem? (i := 21) rfl))) (Or.inr (hw _ (List.mem_of_getElem? (i := 19) rfl))) (by decide) (t := .long) (t' := .int) (by decide) (by decide)))
  have F_a_timeOut_2 : Fld Z h2 a "com/example/rallypoint/rallypoint/protocol/ConnectRequest" "timeOut" "I" (.int a_timeOut) := F_a_timeOut.other W2 (Or.inr (slot_ne (Or.inr (hw _ (List.mem_of_getElem? (i := 23) rfl))) (Or.inr (hw _ (List.mem_of_getElem? (i := 19) rfl))) (by decide) (t := .int) (t' := .int) (by decide) (by decide)))
  have F_a_sessionId_2 : Fld Z h2 a "com/example/rallypoint/rallypoint/protocol/ConnectRequest" "sessionId" "J" (.long a_sessionId) := F_a_sessionId.other W2 (Or.inr (slot_ne (Or.inr (hw _ (List.mem_of_getElem? (i := 25) rfl))) (Or.inr (hw _ (List.mem_of_getElem? (i := 19) rfl))) (by decide) (t := .long) (t' := .int) (by decide) (by decide)))
  have F_a_passwd_2 : Fld Z h2 a "com/example/rallypoint/rallypoint/protocol/ConnectRequest" "passwd" "[B" a_passwd := F_a_passwd.other W2 (Or.inr (slot_ne (Or.inr (hw _ (List.mem_of_getElem? (i := 27) rfl))) (Or.inr (hw _ (List.mem_of_getElem? (i := 19) rfl))) (by decide) (t := (.array .byte)) (t' := .int) (by decide) (by decide)))
  have F_a_readOnly_2 : Fld Z h2 a "com/example/rallypoint/rallypoint/protocol/ConnectRequest" "readOnly" "Z" (.int a_readOnly) := F_a_readOnly.other W2 (Or.inr (slot_ne (Or.inr (hw _ (List.mem_of_getElem? (i := 29) rfl))) (Or.inr (hw _ (List.mem_of_getElem? (i := 19) rfl))) (by decide) (t := .boolean) (t' := .int) (by decide) (by decide)))
  have Zn2 : n0 ≤ h2.size := Nat.le_trans Z0 (Nat.le_of_eq W2.size.symm)
  have K2 : Keep h0 h2 [a] := K0.wr W2 (Or.inl (List.mem_of_getElem? (i := 0) rfl))
  refine OGo.st (T' := T2) (g' := (mkF m 9 #[.val (.ref a), .val (.int q1), .val (.long q2), .second, .val (.int q3), .val (.long q4), .second, .val (.ref d), .val (.int (0 : Int32))] [])) (fun _ k => st2 _ k) ?_
  refine OGo.st (T' := T2) (g' := (mkF m 11 #[.val (.ref a), .val (.int q1), .val (.long q2), .second, .val (.int q3), .val (.long q4), .second, .val (.ref d), .val (.int (0 : Int32))] [(.long q2), (.ref a)])) (fun _ k => (XS.aloadN X2.here hx rfl (hb hby own_d_prog_8_method_1_9) rfl rfl (XS.lloadN X2.here hx rfl (hb hby own_d_prog_8_method_1_10) rfl k))) ?_
  obtain ⟨T3, h3, X3, e3, W3, st3⟩ := putF X2 hx hZ hown (host := "") (Or.inl (hw _ (List.mem_of_getElem? (i := 20) rfl))) Via.refl e2 F_a_lastZxidSeen_2 E_a_2 (Or.inr ⟨(hw _ (List.mem_of_getElem? (i := 21) rfl)), rfl, hnm⟩) (hw _ (List.mem_of_getElem? (i := 5) rfl)) (ty := .long) (by decide) rfl rfl (g := (mkF m 11 #[.val (.ref a), .val (.int q1), .val (.long q2), .second, .val (.int q3), .val (.long q4), .second, .val (.ref d), .val (.int (0 : Int32))] [(.long q2), (.ref a)])) rfl rfl (hb hby own_d_prog_8_method_1_11)
  have F_a_lastZxidSeen_3 : Fld Z h3 a "com/example/rallypoint/rallypoint/protocol/ConnectRequest" "lastZxidSeen" "J" (.long q2) := F_a_lastZxidSeen_2.same W3
  have N3 := Fr.snoc X3 N2 g_a
  have E_a_3 : Exa Z h3 a "com/example/rallypoint/rallypoint/protocol/ConnectRequest" := E_a_2.wr W3
  have F_a_protocolVersion_3 : Fld Z h3 a "com/example/rallypoint/rallypoint/protocol/ConnectRequest" "protocolVersion" "I" (.int q1) := F_a_protocolVersion_2.other W3 (Or.inr (slot_ne (Or.inr (hw _ (List.mem_of_getElem? (i := 19) rfl))) (Or.inr (hw _ (List.mem_of_getElem? (i := 21) rfl))) (by decide) (t := .int) (t' := .long) (by decide) (by decide)))
  have F_a_timeOut_3 : Fld Z h3 a "com/example/rallypoint/rallypoint/protocol/ConnectRequest" "timeOut" "I" (.int a_timeOut) := F_a_timeOut_2.other W3 (Or.inr (slot_ne (Or.inr (hw _ (List.mem_of_getElem? (i := 23) rfl))) (Or.inr (hw _ (List.mem_of_getElem? (i := 21) rfl))) (by decide) (t := .int) (t' := .long) (by decide) (by decide)))
  have F_a_sessionId_3 : Fld Z h3 a "com/example/rallypoint/rallypoint/protocol/ConnectRequest" "sessionId" "J" (.long a_sessionId) := F_a_sessionId_2.other W3 (Or.inr (slot_ne (Or.inr (hw _ (List.mem_of_getElem? (i := 25) rfl))) (Or.inr (hw _ (List.mem_of_getElem? (i := 21) rfl))) (by decide) (t := .long) (t' := .long) (by decide) (by decide)))
  have F_a_passwd_3 : Fld Z h3 a "com/example/rallypoint/rallypoint/protocol/ConnectRequest" "passwd" "[B" a_passwd := F_a_passwd_2.other W3 (Or.inr (slot_ne (Or.inr (hw _ (List.mem_of_getElem? (i := 27) rfl))) (Or.inr (hw _ (List.mem_of_getElem? (i := 21) rfl))) (by decide) (t := (.array .byte)) (t' := .long) (by decide) (by decide)))
  have F_a_readOnly_3 : Fld Z h3 a "com/example/rallypoint/rallypoint/protocol/ConnectRequest" "readOnly" "Z" (.int a_readOnly) := F_a_readOnly_2.other W3 (Or.inr (slot_ne (Or.inr (hw _ (List.mem_of_getElem? (i := 29) rfl))) (Or.inr (hw _ (List.mem_of_getElem? (i := 21) rfl))) (by decide) (t := .boolean) (t' := .long) (by decide) (by decide)))
  have Zn3 : n0 ≤ h3.size := Nat.le_trans Zn2 (Nat.le_of_eq W3.size.symm)
  have K3 : Keep h0 h3 [a] := K2.wr W3 (Or.inl (List.mem_of_getElem? (i := 0) rfl))
  refine OGo.st (T' := T3) (g' := (mkF m 14 #[.val (.ref a), .val (.int q1), .val (.long q2), .second, .val (.int q3), .val (.long q4), .second, .val (.ref d), .val (.int (0 : Int32))] [])) (fun _ k => st3 _ k) ?_
  refine OGo.st (T' := T3) (g' := (mkF m 17 #[.val (.ref a), .val (.int q1), .val (.long q2), .second, .val (.int q3), .val (.long q4), .second, .val (.ref d), .val (.int (0 : Int32))] [(.int q3), (.ref a)])) (fun _ k => (XS.aloadN X3.here hx rfl (hb hby own_d_prog_8_method_1_14) rfl rfl (XS.iload X3.here hx rfl (hb hby own_d_prog_8_method_1_15) rfl k))) ?_
  obtain ⟨T4, h4, X4, e4, W4, st4⟩ := putF X3 hx hZ hown (host := "") (Or.inl (hw _ (List.mem_of_getElem? (i := 22) rfl))) Via.refl e3 F_a_timeOut_3 E_a_3 (Or.inr ⟨(hw _ (List.mem_of_getElem? (i := 23) rfl)), rfl, hnm⟩) (hw _ (List.mem_of_getElem? (i := 5) rfl)) (ty := .int) (by decide) rfl rfl (g := (mkF m 17 #[.val (.ref a), .val (.int q1), .val (.long q2), .second, .val (.int q3), .val (.long q4), .second, .val (.ref d), .val (.int (0 : Int32))] [(.int q3), (.ref a)])) rfl rfl (hb hby own_d_prog_8_method_1_17)
  have F_a_timeOut_4 : Fld Z h4 a "com/example/rallypoint/rallypoint/protocol/ConnectRequest" "timeOut" "I" (.int q3) := F_a_timeOut_3.same W4
  have N4 := Fr.snoc X4 N3 g_a
  have E_a_4 : Exa Z h4 a "com/example/rallypoint/rallypoint/protocol/ConnectRequest" := E_a_3.wr W4
  have F_a_protocolVersion_4 : Fld Z h4 a "com/example/rallypoint/rallypoint/protocol/ConnectRequest" "protocolVersion" "I" (.int q1) := F_a_protocolVersion_3.other W4 (Or.inr (slot_ne (Or.inr (hw _ (List.mem_of_getElem? (i := 19) rfl))) (Or.inr (hw _ (List.mem_of_getElem? (i := 23) rfl))) (by decide) (t := .int) (t' := .int) (by decide) (by decide)))
  have F_a_lastZxidSeen_4 : Fld Z h4 a "com/example/rallypoint/rallypoint/protocol/ConnectRequest" "lastZxidSeen" "J" (.long q2) := F_a_lastZxidSeen_3.other W4 (Or.inr (slot_ne (Or.inr (hw _ (List.mem_of_getElem? (i := 21) rfl))) (Or.inr (hw _ (List.mem_of_getElem? (i := 23) rfl))) (by decide) (t := .long) (t' := .int) (by decide) (by decide)))
  have F_a_sessionId_4 : Fld Z h4 a "com/example/rallypoint/rallypoint/protocol/ConnectRequest" "sessionId" "J" (.long a_sessionId) := F_a_sessionId_3.other W4 (Or.inr (slot_ne (Or.inr (hw _ (List.mem_of_getElem? (i := 25) rfl))) (Or.inr (hw _ (List.mem_of_getElem? (i := 23) rfl))) (by decide) (t := .long) (t' := .int) (by decide) (by decide)))
  have F_a_passwd_4 : Fld Z h4 a "com/example/rallypoint/rallypoint/protocol/ConnectRequest" "passwd" "[B" a_passwd := F_a_passwd_3.other W4 (Or.inr (slot_ne (Or.inr (hw _ (List.mem_of_getElem? (i := 27) rfl))) (Or.inr (hw _ (List.mem_of_getElem? (i := 23) rfl))) (by decide) (t := (.array .byte)) (t' := .int) (by decide) (by decide)))
  have F_a_readOnly_4 : Fld Z h4 a "com/example/rallypoint/rallypoint/protocol/ConnectRequest" "readOnly" "Z" (.int a_readOnly) := F_a_readOnly_3.other W4 (Or.inr (slot_ne (Or.inr (hw _ (List.mem_of_getElem? (i := 29) rfl))) (Or.inr (hw _ (List.mem_of_getElem? (i := 23) rfl))) (by decide) (t := .boolean) (t' := .int) (by decide) (by decide)))
  have Zn4 : n0 ≤ h4.size := Nat.le_trans Zn3 (Nat.le_of_eq W4.size.symm)
  have K4 : Keep h0 h4 [a] := K3.wr W4 (Or.inl (List.mem_of_getElem? (i := 0) rfl))
  refine OGo.st (T' := T4) (g' := (mkF m 20 #[.val (.ref a), .val (.int q1), .val (.long q2), .second, .val (.int q3), .val (.long q4), .second, .val (.ref d), .val (.int (0 : Int32))] [])) (fun _ k => st4 _ k) ?_
  refine OGo.st (T' := T4) (g' := (mkF m 23 #[.val (.ref a), .val (.int q1), .val (.long q2), .second, .val (.int q3), .val (.long q4), .second, .val (.ref d), .val (.int (0 : Int32))] [(.long q4), (.ref a)])) (fun _ k => (XS.aloadN X4.here hx rfl (hb hby own_d_prog_8_method_1_20) rfl rfl (XS.lload X4.here hx rfl (hb hby own_d_prog_8_method_1_21) rfl k))) ?_
  obtain ⟨T5, h5, X5, e5, W5, st5⟩ := putF X4 hx hZ hown (host := "") (Or.inl (hw _ (List.mem_of_getElem? (i := 24) rfl))) Via.refl e4 F_a_sessionId_4 E_a_4 (Or.inr ⟨(hw _ (List.mem_of_getElem? (i := 25) rfl)), rfl, hnm⟩) (hw _ (List.mem_of_getElem? (i := 5) rfl)) (ty := .long) (by decide) rfl rfl (g := (mkF m 23 #[.val (.ref a), .val (.int q1), .val (.long q2), .second, .val (.int q3), .val (.long q4), .second, .val (.ref d), .val (.int (0 : Int32))] [(.long q4), (.ref a)])) rfl rfl (hb hby own_d_prog_8_method_1_23)
  have F_a_sessionId_5 : Fld Z h5 a "com/example/rallypoint/rallypoint/protocol/ConnectRequest" "sessionId" "J" (.long q4) := F_a_sessionId_4.same W5
  have N5 := Fr.snoc X5 N4 g_a
  have E_a_5 : Exa Z h5 a "com/example/rallypoint/rallypoint/protocol/ConnectRequest" := E_a_4.wr W5
  have F_a_protocolVersion_5 : Fld Z h5 a "com/example/rallypoint/rallypoint/protocol/ConnectRequest" "protocolVersion" "I" (.int q1) := F_a_protocolVersion_4.other W5 (Or.inr (slot_ne (Or.inr (hw _ (List.mem_of_getElem? (i := 19) rfl))) (Or.inr (hw _ (List.mem_of_getElem? (i := 25) rfl))) (by decide) (t := .int) (t' := .long) (by decide) (by decide)))
  have F_a_lastZxidSeen_5 : Fld Z h5 a "com/example/rallypoint/rallypoint/protocol/ConnectRequest" "lastZxidSeen" "J" (.long q2) := F_a_lastZxidSeen_4.other W5 (Or.inr (slot_ne (Or.inr (hw _ (List.mem_of_getElem? (i := 21) rfl))) (Or.inr (hw _ (List.mem_of_getElem? (i := 25) rfl))) (by decide) (t := .long) (t' := .long) (by decide) (by decide)))
  have F_a_timeOut_5 : Fld Z h5 a "com/example/rallypoint/rallypoint/protocol/ConnectRequest" "timeOut" "I" (.int q3) := F_a_timeOut_4.other W5 (Or.inr (slot_ne (Or.inr (hw _ (List.mem_of_getElem? (i := 23) rfl))) (Or.inr (hw _ (List.mem_of_getElem? (i := 25) rfl))) (by decide) (t := .int) (t' := .long) (by decide) (by decide)))
  have F_a_passwd_5 : Fld Z h5 a "com/example/rallypoint/rallypoint/protocol/ConnectRequest" "passwd" "[B" a_passwd := F_a_passwd_4.other W5 (Or.inr (slot_ne (Or.inr (hw _ (List.mem_of_getElem? (i := 27) rfl))) (Or.inr (hw _ (List.mem_of_getElem? (i := 25) rfl))) (by decide) (t := (.array .byte)) (t' := .long) (by decide) (by decide)))
  have F_a_readOnly_5 : Fld Z h5 a "com/example/rallypoint/rallypoint/protocol/ConnectRequest" "readOnly" "Z" (.int a_readOnly) := F_a_readOnly_4.other W5 (Or.inr (slot_ne (Or.inr (hw _ (List.mem_of_getElem? (i := 29) rfl))) (Or.inr (hw _ (List.mem_of_getElem? (i := 25) rfl))) (by decide) (t := .boolean) (t' := .long) (by decide) (by decide)))
  have Zn5 : n0 ≤ h5.size := Nat.le_trans Zn4 (Nat.le_of_eq W5.size.symm)
  have K5 : Keep h0 h5 [a] := K4.wr W5 (Or.inl (List.mem_of_getElem? (i := 0) rfl))
  refine OGo.st (T' := T5) (g' := (mkF m 26 #[.val (.ref a), .val (.int q1), .val (.long q2), .second, .val (.int q3), .val (.long q4), .second, .val (.ref d), .val (.int (0 : Int32))] [])) (fun _ k => st5 _ k) ?_
  refine OGo.st (T' := T5) (g' := (mkF m 29 #[.val (.ref a), .val (.int q1), .val (.long q2), .second, .val (.int q3), .val (.long q4), .second, .val (.ref d), .val (.int (0 : Int32))] [(.ref d), (.ref a)])) (fun _ k => (XS.aloadN X5.here hx rfl (hb hby own_d_prog_8_method_1_26) rfl rfl (XS.aload X5.here hx rfl (hb hby own_d_prog_8_method_1_27) rfl rfl k))) ?_
  obtain ⟨T6, h6, X6, e6, W6, st6⟩ := putF X5 hx hZ hown (host := "") (Or.inl (hw _ (List.mem_of_getElem? (i := 26) rfl))) Via.refl e5 F_a_passwd_5 E_a_5 (Or.inr ⟨(hw _ (List.mem_of_getElem? (i := 27) rfl)), rfl, hnm⟩) (hw _ (List.mem_of_getElem? (i := 5) rfl)) (ty := (.array .byte)) (by decide) rfl rfl (g := (mkF m 29 #[.val (.ref a), .val (.int q1), .val (.long q2), .second, .val (.int q3), .val (.long q4), .second, .val (.ref d), .val (.int (0 : Int32))] [(.ref d), (.ref a)])) rfl rfl (hb hby own_d_prog_8_method_1_29)
  have F_a_passwd_6 : Fld Z h6 a "com/example/rallypoint/rallypoint/protocol/ConnectRequest" "passwd" "[B" (.ref d) := F_a_passwd_5.same W6
  have N6 := Fr.snoc X6 N5 g_a
  have E_a_6 : Exa Z h6 a "com/example/rallypoint/rallypoint/protocol/ConnectRequest" := E_a_5.wr W6
  have F_a_protocolVersion_6 : Fld Z h6 a "com/example/rallypoint/rallypoint/protocol/ConnectRequest" "protocolVersion" "I" (.int q1) := F_a_protocolVersion_5.other W6 (Or.inr (slot_ne (Or.inr (hw _ (List.mem_of_getElem? (i := 19) rfl))) (Or.inr (hw _ (List.mem_of_getElem? (i := 27) rfl))) (by decide) (t := .int) (t' := (.array .byte)) (by decide) (by decide)))
  have F_a_lastZxidSeen_6 : Fld Z h6 a "com/example/rallypoint/rallypoint/protocol/ConnectRequest" "lastZxidSeen" "J" (.long q2) := F_a_lastZxidSeen_5.other W6 (Or.inr (slot_ne (Or.inr (hw _ (List.mem_of_getElem? (i := 21) rfl))) (Or.inr (hw _ (List.mem_of_getElem? (i := 27) rfl))) (by decide) (t := .long) (t' := (.array .byte)) (by decide) (by decide)))
  have F_a_timeOut_6 : Fld Z h6 a "com/example/rallypoint/rallypoint/protocol/ConnectRequest" "timeOut" "I" (.int q3) := F_a_timeOut_5.other W6 (Or.inr (slot_ne (Or.inr (hw _ (List.mem_of_getElem? (i := 23) rfl))) (Or.inr (hw _ (List.mem_of_getElem? (i := 27) rfl))) (by decide) (t := .int) (t' := (.array .byte)) (by decide) (by decide)))
  have F_a_sessionId_6 : Fld Z h6 a "com/example/rallypoint/rallypoint/protocol/ConnectRequest" "sessionId" "J" (.long q4) := F_a_sessionId_5.other W6 (Or.inr (slot_ne (Or.inr (hw _ (List.mem_of_getElem? (i := 25) rfl))) (Or.inr (hw _ (List.mem_of_getElem? (i := 27) rfl))) (by decide) (t := .long) (t' := (.array .byte)) (by decide) (by decide)))
  have F_a_readOnly_6 : Fld Z h6 a "com/example/rallypoint/rallypoint/protocol/ConnectRequest" "readOnly" "Z" (.int a_readOnly) := F_a_readOnly_5.other W6 (Or.inr (slot_ne (Or.inr (hw _ (List.mem_of_getElem? (i := 29) rfl))) (Or.inr (hw _ (List.mem_of_getElem? (i := 27) rfl))) (by decide) (t := .boolean) (t' := (.array .byte)) (by decide) (by decide)))
  have Zn6 : n0 ≤ h6.size := Nat.le_trans Zn5 (Nat.le_of_eq W6.size.symm)
  have K6 : Keep h0 h6 [a] := K5.wr W6 (Or.inl (List.mem_of_getElem? (i := 0) rfl))
  refine OGo.st (T' := T6) (g' := (mkF m 32 #[.val (.ref a), .val (.int q1), .val (.long q2), .second, .val (.int q3), .val (.long q4), .second, .val (.ref d), .val (.int (0 : Int32))] [])) (fun _ k => st6 _ k) ?_
  refine OGo.st (T' := T6) (g' := (mkF m 35 #[.val (.ref a), .val (.int q1), .val (.long q2), .second, .val (.int q3), .val (.long q4), .second, .val (.ref d), .val (.int (0 : Int32))] [(.int (0 : Int32)), (.ref a)])) (fun _ k => (XS.aloadN X6.here hx rfl (hb hby own_d_prog_8_method_1_32) rfl rfl (XS.iload X6.here hx rfl (hb hby own_d_prog_8_method_1_33) rfl k))) ?_
  obtain ⟨T7, h7, X7, e7, W7, st7⟩ := putFN X6 hx hZ hown (hw _ (List.mem_of_getElem? (i := 28) rfl)) Via.refl e6 F_a_readOnly_6 E_a_6 (Or.inr ⟨(hw _ (List.mem_of_getElem? (i := 29) rfl)), rfl, hnm⟩) (hw _ (List.mem_of_getElem? (i := 5) rfl)) (ty := .boolean) (v' := (.int (0 : Int32))) (by decide) rfl rfl (g := (mkF m 35 #[.val (.ref a), .val (.int q1), .val (.long q2), .second, .val (.int q3), .val (.long q4), .second, .val (.ref d), .val (.int (0 : Int32))] [(.int (0 : Int32)), (.ref a)])) rfl rfl (hb hby own_d_prog_8_method_1_35)
  have F_a_readOnly_7 : Fld Z h7 a "com/example/rallypoint/rallypoint/protocol/ConnectRequest" "readOnly" "Z" (.int (0 : Int32)) := F_a_readOnly_6.same W7
  have N7 := Fr.snoc X7 N6 g_a
  have E_a_7 : Exa Z h7 a "com/example/rallypoint/rallypoint/protocol/ConnectRequest" := E_a_6.wr W7
  have F_a_protocolVersion_7 : Fld Z h7 a "com/example/rallypoint/rallypoint/protocol/ConnectRequest" "protocolVersion" "I" (.int q1) := F_a_protocolVersion_6.other W7 (Or.inr (slot_ne (Or.inr (hw _ (List.mem_of_getElem? (i := 19) rfl))) (Or.inr (hw _ (List.mem_of_getElem? (i := 29) rfl))) (by decide) (t := .int) (t' := .boolean) (by decide) (by decide)))
  have F_a_lastZxidSeen_7 : Fld Z h7 a "com/example/rallypoint/rallypoint/protocol/ConnectRequest" "lastZxidSeen" "J" (.long q2) := F_a_lastZxidSeen_6.other W7 (Or.inr (slot_ne (Or.inr (hw _ (List.mem_of_getElem? (i := 21) rfl))) (Or.inr (hw _ (List.mem_of_getElem? (i := 29) rfl))) (by decide) (t := .long) (t' := .boolean) (by decide) (by decide)))
  have F_a_timeOut_7 : Fld Z h7 a "com/example/rallypoint/rallypoint/protocol/ConnectRequest" "timeOut" "I" (.int q3) := F_a_timeOut_6.other W7 (Or.inr (slot_ne (Or.inr (hw _ (List.mem_of_getElem? (i := 23) rfl))) (Or.inr (hw _ (List.mem_of_getElem? (i := 29) rfl))) (by decide) (t := .int) (t' := .boolean) (by decide) (by decide)))
  have F_a_sessionId_7 : Fld Z h7 a "com/example/rallypoint/rallypoint/protocol/ConnectRequest" "sessionId" "J" (.long q4) := F_a_sessionId_6.other W7 (Or.inr (slot_ne (Or.inr (hw _ (List.mem_of_getElem? (i := 25) rfl))) (Or.inr (hw _ (List.mem_of_getElem? (i := 29) rfl))) (by decide) (t := .long) (t' := .boolean) (by decide) (by decide)))
  have F_a_passwd_7 : Fld Z h7 a "com/example/rallypoint/rallypoint/protocol/ConnectRequest" "passwd" "[B" (.ref d) := F_a_passwd_6.other W7 (Or.inr (slot_ne (Or.inr (hw _ (List.mem_of_getElem? (i := 27) rfl))) (Or.inr (hw _ (List.mem_of_getElem? (i := 29) rfl))) (by decide) (t := (.array .byte)) (t' := .boolean) (by decide) (by decide)))
  have Zn7 : n0 ≤ h7.size := Nat.le_trans Zn6 (Nat.le_of_eq W7.size.symm)
  have K7 : Keep h0 h7 [a] := K6.wr W7 (Or.inl (List.mem_of_getElem? (i := 0) rfl))
  refine OGo.st (T' := T7) (g' := (mkF m 38 #[.val (.ref a), .val (.int q1), .val (.long q2), .second, .val (.int q3), .val (.long q4), .second, .val (.ref d), .val (.int (0 : Int32))] [])) (fun _ k => st7 _ k) ?_
  exact OGo.retV X7 hx hlk Bd.returns (hb hby own_d_prog_8_method_1_38) (by decide) (by decide) e7 (⟨rfl, N7, K7, F_a_protocolVersion_7, F_a_lastZxidSeen_7, F_a_timeOut_7, F_a_sessionId_7, F_a_passwd_7, F_a_readOnly_7⟩)
theorem own_ef_rm1 (m : MethodId) (x0 : Int32) : entryFrame m #[(.int x0)] 1 = mkF m 0 #[.val (.int x0)] [] := by first | (simp [entryFrame, mkF, argsToLocals, Value.category]; done) | rfl
def R_rm1 : Room := { frames := 3, cells := 2, slots := 22, locals := 45 }
def Q_rm1 (Z : State) (q1 : Int32) (h0 : Heap) (n0 : Nat) (v : Option Value) (h : Heap) (L : List Loc) : Prop := ∃ b1 : Addr, ∃ b2 : Addr, v = some (.ref b1) ∧ Fr n0 L ∧ Keep h0 h [] ∧ h0.size ≤ b1 ∧ h0.size ≤ b2 ∧ b1 ≠ b2 ∧ Exa Z h b1 "com/example/rallypoint/rallypoint/protocol/ConnectRequest" ∧ OArr Z h b2 .byte 16 (fun j => .int ((own_L (0 : Int32) ([(0 : Int32), (0 : Int32), (0 : Int32), (0 : Int32), (0 : Int32), (0 : Int32), (0 : Int32), (0 : Int32), (0 : Int32), (0 : Int32), (0 : Int32), (0 : Int32), (0 : Int32), (0 : Int32), (0 : Int32), (0 : Int32)] : List Int32)) j)) ∧ Fld Z h b1 "com/example/rallypoint/rallypoint/protocol/ConnectRequest" "protocolVersion" "I" (.int (0 : Int32)) ∧ Fld Z h b1 "com/example/rallypoint/rallypoint/protocol/ConnectRequest" "lastZxidSeen" "J" (.long (0 : Int64)) ∧ Fld Z h b1 "com/example/rallypoint/rallypoint/protocol/ConnectRequest" "timeOut" "I" (.int q1) ∧ Fld Z h b1 "com/example/rallypoint/rallypoint/protocol/ConnectRequest" "sessionId" "J" (.long (0 : Int64)) ∧ Fld Z h b1 "com/example/rallypoint/rallypoint/protocol/ConnectRequest" "passwd" "[B" (.ref b2) ∧ Fld Z h b1 "com/example/rallypoint/rallypoint/protocol/ConnectRequest" "readOnly" "Z" (.int (0 : Int32))
set_option maxRecDepth 65536 in
set_option maxHeartbeats 40000000 in
theorem rm1 (l : Launch) (Z : State) (a0 : Array Value) (hw : ∀ d ∈ tables_1, d.before a0 Z = true) (ws : List Jvm.Cond) (q1 : Int32) (h0 : Heap) (n0 : Nat) (Z0 : n0 ≤ h0.size) :
    MetFree l (⟨"com/example/rallypoint/rallypoint/protocol/ConnectRequest", "newSession", "(I)Lcom/example/rallypoint/rallypoint/protocol/ConnectRequest;"⟩ : MethodName) (head1 (Jvm.Cond.code (⟨"com/example/rallypoint/rallypoint/protocol/ConnectRequest", "newSession", "(I)Lcom/example/rallypoint/rallypoint/protocol/ConnectRequest;"⟩ : MethodName) prog_8_method_2_code 1 (some (.object "com/example/rallypoint/rallypoint/protocol/ConnectRequest")) :: ws) R_rm1) (fun vs_ U => vs_ = #[(.int q1)] ∧ Z.Warmed39 U.vm ∧ U.heap = h0) (fun _ _ _ _ _ => True) (fun _ U o U' => ∃ v L, o = .returned v ∧ Q_rm1 Z q1 h0 n0 v U'.heap L ∧ FrameEnd U o U' L R_rm1.cells R_rm1.slots) := by
  refine MetFree.of_bodySF (plainFor_of_name own_pn0) hisR ?_
  intro p e s m args below meth c s₁ Bd hml0 hP hK
  obtain ⟨rfl, hZ, hh⟩ := hP
  have hx := Bd.exec
  have hby := Bd.bytes
  have hml : c.maxLocals = 1 := hml0
  have hown : s.vm.findClass "com/example/rallypoint/rallypoint/protocol/ConnectRequest" = some m.cls := findClass_of_methodNamed Bd.named
  have hnm := (name_of_methodNamed Bd.named Bd.method).1
  have hlk : meth.locks = false := BodyLoose.notSynchronized Bd
  have X0 : Stand p l e R_rm1 s m #[(.int q1)] below meth c s₁ [] 0 0 := Stand.of_body Bd
  have e0 : s₁.heap = h0 := by rw [← hh, Bd.state]; rfl
  have N0 := Fr.nil n0
  have K0 : Keep h0 h0 [] := Keep.refl _ _
  refine OGo.en (Q := Q_rm1 Z q1 h0 n0) (C := R_rm1.cells) (S := R_rm1.slots) (own_ef_rm1 m q1) ?_
  obtain ⟨T1, h1, X1, e1, E1, A1, D1, -, st1⟩ := newO X0 hx hZ hown (hw _ (List.mem_of_getElem? (i := 4) rfl)) (hw _ (List.mem_of_getElem? (i := 5) rfl)) (hw _ (List.mem_of_getElem? (i := 2) rfl)) e0 (g := (mkF m 0 #[.val (.int q1)] [])) rfl (hb hby own_d_prog_8_method_2_0) (by decide) (by decide)
  obtain ⟨b1, g1⟩ : ∃ z, z = h0.size := ⟨_, rfl⟩
  rw [← g1] at A1 D1 st1
  have g_b1 : n0 ≤ b1 := Nat.le_trans Z0 (Nat.le_of_eq g1.symm)
  have sz_b1 : h0.size ≤ b1 := Nat.le_trans K0.1 (Nat.le_of_eq g1.symm)
  have F_protocolVersion_b1_1 : Fld Z h1 b1 "com/example/rallypoint/rallypoint/protocol/ConnectRequest" "protocolVersion" "I" (.int (0 : Int32)) := D1 (Or.inr (hw _ (List.mem_of_getElem? (i := 19) rfl))) (ty := .int) (by decide)
  have F_lastZxidSeen_b1_1 : Fld Z h1 b1 "com/example/rallypoint/rallypoint/protocol/ConnectRequest" "lastZxidSeen" "J" (.long (0 : Int64)) := D1 (Or.inr (hw _ (List.mem_of_getElem? (i := 21) rfl))) (ty := .long) (by decide)
  have F_timeOut_b1_1 : Fld Z h1 b1 "com/example/rallypoint/rallypoint/protocol/ConnectRequest" "timeOut" "I" (.int (0 : Int32)) := D1 (Or.inr (hw _ (List.mem_of_getElem? (i := 23) rfl))) (ty := .int) (by decide)
  have F_sessionId_b1_1 : Fld Z h1 b1 "com/example/rallypoint/rallypoint/protocol/ConnectRequest" "sessionId" "J" (.long (0 : Int64)) := D1 (Or.inr (hw _ (List.mem_of_getElem? (i := 25) rfl))) (ty := .long) (by decide)
  have F_passwd_b1_1 : Fld Z h1 b1 "com/example/rallypoint/rallypoint/protocol/ConnectRequest" "passwd" "[B" .null := D1 (Or.inr (hw _ (List.mem_of_getElem? (i := 27) rfl))) (ty := (.array .byte)) (by decide)
  have F_readOnly_b1_1 : Fld Z h1 b1 "com/example/rallypoint/rallypoint/protocol/ConnectRequest" "readOnly" "Z" (.int (0 : Int32)) := D1 (Or.inr (hw _ (List.mem_of_getElem? (i := 29) rfl))) (ty := .boolean) (by decide)
  have Zn1 : n0 ≤ h1.size := Nat.le_trans Z0 E1.1
  have K1 : Keep h0 h1 [] := K0.ext E1
  have X1 : Stand p l e R_rm1 s m _ below meth c T1 _ 1 6 := X1
  refine OGo.st (T' := T1) (g' := (mkF m 3 #[.val (.int q1)] [(.ref b1)])) (fun _ k => st1 _ k) ?_
  refine OGo.st (T' := T1) (g' := (mkF m 10 #[.val (.int q1)] [(.int (16 : Int32)), (.long (0 : Int64)), (.int q1), (.long (0 : Int64)), (.int (0 : Int32)), (.ref b1), (.ref b1)])) (fun _ k => (XS.dup X1.here hx rfl (hb hby own_d_prog_8_method_2_3) rfl rfl (XS.iconst X1.here hx rfl (hb hby own_d_prog_8_method_2_4) (XS.lconst X1.here hx rfl (hb hby own_d_prog_8_method_2_5) (XS.iloadN X1.here hx rfl (hb hby own_d_prog_8_method_2_6) rfl (XS.lconst X1.here hx rfl (hb hby own_d_prog_8_method_2_7) (XS.bipush X1.here hx rfl (hb hby own_d_prog_8_method_2_8) k))))))) ?_
  obtain ⟨T2, h2, b2, g2, X2, e2, E2, V2, st2⟩ := own_newA X1 hx hZ (hw _ (List.mem_of_getElem? (i := 6) rfl)) e1 (g := (mkF m 10 #[.val (.int q1)] [(.int (16 : Int32)), (.long (0 : Int64)), (.int q1), (.long (0 : Int64)), (.int (0 : Int32)), (.ref b1), (.ref b1)])) rfl (hb hby own_d_prog_8_method_2_10) rfl (n := 16) ⟨by decide, by decide⟩ (cap := 16) (by decide) (by decide) (by decide) (by decide)
  have ne_b1_b2 : b1 ≠ b2 := Nat.ne_of_lt (Nat.lt_of_lt_of_le A1.lt (Nat.le_of_eq g2.symm))
  have g_b2 : n0 ≤ b2 := Nat.le_trans Zn1 (Nat.le_of_eq g2.symm)
  have sz_b2 : h0.size ≤ b2 := Nat.le_trans K1.1 (Nat.le_of_eq g2.symm)
  have A2 : OArr Z h2 b2 .byte 16 (fun j => .int ((own_L (0 : Int32) ([(0 : Int32), (0 : Int32), (0 : Int32), (0 : Int32), (0 : Int32), (0 : Int32), (0 : Int32), (0 : Int32), (0 : Int32), (0 : Int32), (0 : Int32), (0 : Int32), (0 : Int32), (0 : Int32), (0 : Int32), (0 : Int32)] : List Int32)) j)) := OArr.cast V2 (fun j _ => congrArg Value.int (own_L_rep (0 : Int32) 16 j))
  have A1_2 : Exa Z h2 b1 "com/example/rallypoint/rallypoint/protocol/ConnectRequest" := A1.ext E2
  have F_protocolVersion_b1_2 : Fld Z h2 b1 "com/example/rallypoint/rallypoint/protocol/ConnectRequest" "protocolVersion" "I" (.int (0 : Int32)) := F_protocolVersion_b1_1.ext E2
  have F_lastZxidSeen_b1_2 : Fld Z h2 b1 "com/example/rallypoint/rallypoint/protocol/ConnectRequest" "lastZxidSeen" "J" (.long (0 : Int64)) := F_lastZxidSeen_b1_1.ext E2
  have F_timeOut_b1_2 : Fld Z h2 b1 "com/example/rallypoint/rallypoint/protocol/ConnectRequest" "timeOut" "I" (.int (0 : Int32)) := F_timeOut_b1_1.ext E2
  have F_sessionId_b1_2 : Fld Z h2 b1 "com/example/rallypoint/rallypoint/protocol/ConnectRequest" "sessionId" "J" (.long (0 : Int64)) := F_sessionId_b1_1.ext E2
  have F_passwd_b1_2 : Fld Z h2 b1 "com/example/rallypoint/rallypoint/protocol/ConnectRequest" "passwd" "[B" .null := F_passwd_b1_1.ext E2
  have F_readOnly_b1_2 : Fld Z h2 b1 "com/example/rallypoint/rallypoint/protocol/ConnectRequest" "readOnly" "Z" (.int (0 : Int32)) := F_readOnly_b1_1.ext E2
  have Zn2 : n0 ≤ h2.size := Nat.le_trans Zn1 E2.1
  have K2 : Keep h0 h2 [] := K1.ext E2
  have X2 : Stand p l e R_rm1 s m _ below meth c T2 _ 2 22 := X2
  refine OGo.st (T' := T2) (g' := (mkF m 12 #[.val (.int q1)] [(.ref b2), (.long (0 : Int64)), (.int q1), (.long (0 : Int64)), (.int (0 : Int32)), (.ref b1), (.ref b1)])) (fun _ k => st2 _ k) ?_
  refine OGo.st (T' := T2) (g' := (mkF m 13 #[.val (.int q1)] [(.int (0 : Int32)), (.ref b2), (.long (0 : Int64)), (.int q1), (.long (0 : Int64)), (.int (0 : Int32)), (.ref b1), (.ref b1)])) (fun _ k => (XS.iconst X2.here hx rfl (hb hby own_d_prog_8_method_2_12) k)) ?_
  obtain ⟨_, _, ⟨T3, L3, k3, n3⟩, -, X3, ⟨Lc3, hQ3, l3, y3, z3⟩, st3⟩ := X2.specialBack hx (y := (⟨"com/example/rallypoint/rallypoint/protocol/ConnectRequest", "<init>", "(IJIJ[BZ)V"⟩ : MethodName)) rfl hown (mvT hZ (hw _ (List.mem_of_getElem? (i := 7) rfl))) (mvT hZ (hw _ (List.mem_of_getElem? (i := 8) rfl))) (mvT hZ (hw _ (List.mem_of_getElem? (i := 9) rfl))) (by decide) (backOf (W := 1) (rm2 l Z a0 hw [] (b1) ((0 : Int32)) ((0 : Int64)) ((0 : Int32)) ((0 : Int64)) (.null) ((0 : Int32)) ((0 : Int32)) ((0 : Int64)) (q1) ((0 : Int64)) (b2) h2 n0 Zn2 (A1_2) (F_protocolVersion_b1_2) (F_lastZxidSeen_b1_2) (F_timeOut_b1_2) (F_sessionId_b1_2) (F_passwd_b1_2) (F_readOnly_b1_2) (g_b1) (ne_b1_b2)) hZ (hw _ (List.mem_of_getElem? (i := 9) rfl)) (hw _ (List.mem_of_getElem? (i := 2) rfl)) (by decide) (by decide)) (g := (mkF m 13 #[.val (.int q1)] [(.int (0 : Int32)), (.ref b2), (.long (0 : Int64)), (.int q1), (.long (0 : Int64)), (.int (0 : Int32)), (.ref b1), (.ref b1)])) rfl (by rw [hml]; rfl) (Steps.refl _) (a := b1) (argsL := [(.int (0 : Int32)), (.long (0 : Int64)), (.int q1), (.long (0 : Int64)), (.ref b2), (.int (0 : Int32))]) (rest := [(.ref b1)]) (lenOf own_pd7 rfl) rfl (by show 2 * 0 + _ ≤ _; exact Nat.le_of_eq rfl) (hb hby own_d_prog_8_method_2_13) (fun _ _ => ⟨rfl, e2, (by decide : 2 + 0 ≤ _), (by decide : 22 + 0 ≤ _)⟩)
  dsimp only [Pt.U, Pt.locs, Pt.cells, Pt.slots] at X3 l3 y3 z3 st3 hQ3
  subst l3 y3 z3
  have X3 : Stand p l e R_rm1 s m _ below meth c T3 _ 2 22 := X3
  obtain ⟨h3, e3⟩ : ∃ z, T3.heap = z := ⟨_, rfl⟩
  rw [e3] at hQ3
  obtain ⟨rfl, Nq3, Kc3, G3x0, G3x1, G3x2, G3x3, G3x4, G3x5⟩ := hQ3
  have N3 := Fr.app N0 Nq3
  have A1_3 : Exa Z h3 b1 "com/example/rallypoint/rallypoint/protocol/ConnectRequest" := A1_2.keep Kc3
  have A2_3 : OArr Z h3 b2 .byte 16 (fun j => .int ((own_L (0 : Int32) ([(0 : Int32), (0 : Int32), (0 : Int32), (0 : Int32), (0 : Int32), (0 : Int32), (0 : Int32), (0 : Int32), (0 : Int32), (0 : Int32), (0 : Int32), (0 : Int32), (0 : Int32), (0 : Int32), (0 : Int32), (0 : Int32)] : List Int32)) j)) := A2.keep Kc3 (ninS (Ne.symm ne_b1_b2) nin0)
  have Zn3 : n0 ≤ h3.size := Nat.le_trans Zn2 Kc3.1
  have K3 : Keep h0 h3 [] := K2.trans Kc3 (allS (Or.inr sz_b1) all0)
  refine OGo.st (T' := T3) (g' := (mkF m 16 #[.val (.int q1)] [(.ref b1)])) (fun _ k => st3.trans k) ?_
  exact OGo.ret X3 hx hlk Bd.returns rfl (own_rR rfl rfl) (hb hby own_d_prog_8_method_2_16) (by decide) (by decide) e3 (⟨b1, b2, rfl, N3, K3, sz_b1, sz_b2, ne_b1_b2, A1_3, A2_3, G3x0, G3x1, G3x2, G3x3, G3x4, G3x5⟩)
theorem own_ef_rm10 (m : MethodId) (x0 : Addr) : entryFrame m #[(.ref x0)] 1 = mkF m 0 #[.val (.ref x0)] [] := by first | (simp [entryFrame, mkF, argsToLocals, Value.category]; done) | rfl
def R_rm10 : Room := { frames := 0, cells := 0, slots := 0, locals := 0 }
def Q_rm10 (Z : State) (a : Addr) (a_protocolVersion : Int32) (h0 : Heap) (n0 : Nat) (v : Option Value) (h : Heap) (L : List Loc) : Prop := v = some (.int a_protocolVersion) ∧ Fr n0 L ∧ h = h0
set_option maxRecDepth 65536 in
set_option maxHeartbeats 40000000 in
theorem rm10 (l : Launch) (Z : State) (a0 : Array Value) (hw : ∀ d ∈ tables_1, d.before a0 Z = true) (ws : List Jvm.Cond) (a : Addr) (a_protocolVersion : Int32) (h0 : Heap) (n0 : Nat) (Z0 : n0 ≤ h0.size) (F_a_protocolVersion : Fld Z h0 a "com/example/rallypoint/rallypoint/protocol/ConnectRequest" "protocolVersion" "I" (.int a_protocolVersion)) :
    MetFree l (⟨"com/example/rallypoint/rallypoint/protocol/ConnectRequest", "protocolVersion", "()I"⟩ : MethodName) (head1 (Jvm.Cond.code (⟨"com/example/rallypoint/rallypoint/protocol/ConnectRequest", "protocolVersion", "()I"⟩ : MethodName) prog_8_method_9_code 1 (some .int) :: ws) R_rm10) (fun vs_ U => vs_ = #[(.ref a)] ∧ Z.Warmed39 U.vm ∧ U.heap = h0) (fun _ _ _ _ _ => True) (fun _ U o U' => ∃ v L, o = .returned v ∧ Q_rm10 Z a a_protocolVersion h0 n0 v U'.heap L ∧ FrameEnd U o U' L R_rm10.cells R_rm10.slots) := by
  refine MetFree.of_bodySF (plainFor_of_name own_pn0) hisR ?_
  intro p e s m args below meth c s₁ Bd hml0 hP hK
  obtain ⟨rfl, hZ, hh⟩ := hP
  have hx := Bd.exec
  have hby := Bd.bytes
  have hml : c.maxLocals = 1 := hml0
  have hown : s.vm.findClass "com/example/rallypoint/rallypoint/protocol/ConnectRequest" = some m.cls := findClass_of_methodNamed Bd.named
  have hnm := (name_of_methodNamed Bd.named Bd.method).1
  have hlk : meth.locks = false := BodyLoose.notSynchronized Bd
  have X0 : Stand p l e R_rm10 s m #[(.ref a)] below meth c s₁ [] 0 0 := Stand.of_body Bd
  have e0 : s₁.heap = h0 := by rw [← hh, Bd.state]; rfl
  have N0 := Fr.nil n0
  refine OGo.en (Q := Q_rm10 Z a a_protocolVersion h0 n0) (C := R_rm10.cells) (S := R_rm10.slots) (own_ef_rm10 m a) ?_
  refine OGo.st (T' := s₁) (g' := (mkF m 1 #[.val (.ref a)] [(.ref a)])) (fun _ k => (XS.aloadN X0.here hx rfl (hb hby own_d_prog_8_method_9_0) rfl rfl k)) ?_
  obtain ⟨T1, X1, e1, st1⟩ := getF X0 hx hZ hown (host := "") (Or.inl (hw _ (List.mem_of_getElem? (i := 18) rfl))) Via.refl e0 F_a_protocolVersion (g := (mkF m 1 #[.val (.ref a)] [(.ref a)])) rfl rfl (hb hby own_d_prog_8_method_9_1)
  refine OGo.st (T' := T1) (g' := (mkF m 4 #[.val (.ref a)] [(.int a_protocolVersion)])) (fun _ k => st1 _ k) ?_
  exact OGo.ret X1 hx hlk Bd.returns rfl (own_rI (Or.inl rfl)) (hb hby own_d_prog_8_method_9_4) (by decide) (by decide) e1 (⟨rfl, N0, rfl⟩)
theorem own_ef_rm11 (m : MethodId) (x0 : Addr) : entryFrame m #[(.ref x0)] 1 = mkF m 0 #[.val (.ref x0)] [] := by first | (simp [entryFrame, mkF, argsToLocals, Value.category]; done) | rfl
def R_rm11 : Room := { frames := 0, cells := 0, slots := 0, locals := 0 }
def Q_rm11 (Z : State) (a : Addr) (a_lastZxidSeen : Int64) (h0 : Heap) (n0 : Nat) (v : Option Value) (h : Heap) (L : List Loc) : Prop := v = some (.long a_lastZxidSeen) ∧ Fr n0 L ∧ h = h0
set_option maxRecDepth 65536 in
set_option maxHeartbeats 40000000 in
theorem rm11 (l : Launch) (Z : State) (a0 : Array Value) (hw : ∀ d ∈ tables_1, d.before a0 Z = true) (ws : List Jvm.Cond) (a : Addr) (a_lastZxidSeen : Int64) (h0 : Heap) (n0 : Nat) (Z0 : n0 ≤ h0.size) (F_a_lastZxidSeen : Fld Z h0 a "com/example/rallypoint/rallypoint/protocol/ConnectRequest" "lastZxidSeen" "J" (.long a_lastZxidSeen)) :
    MetFree l (⟨"com/example/rallypoint/rallypoint/protocol/ConnectRequest", "lastZxidSeen", "()J"⟩ : MethodName) (head1 (Jvm.Cond.code (⟨"com/example/rallypoint/rallypoint/protocol/ConnectRequest", "lastZxidSeen", "()J"⟩ : MethodName) prog_8_method_10_code 1 (some .long) :: ws) R_rm11) (fun vs_ U => vs_ = #[(.ref a)] ∧ Z.Warmed39 U.vm ∧ U.heap = h0) (fun _ _ _ _ _ => True) (fun _ U o U' => ∃ v L, o = .returned v ∧ Q_rm11 Z a a_lastZxidSeen h0 n0 v U'.heap L ∧ FrameEnd U o U' L R_rm11.cells R_rm11.slots) := by
  refine MetFree.of_bodySF (plainFor_of_name own_pn0) hisR ?_
  intro p e s m args below meth c s₁ Bd hml0 hP hK
  obtain ⟨rfl, hZ, hh⟩ := hP
  have hx := Bd.exec
  have hby := Bd.bytes
  have hml : c.maxLocals = 1 := hml0
  have hown : s.vm.findClass "com/example/rallypoint/rallypoint/protocol/ConnectRequest" = some m.cls := findClass_of_methodNamed Bd.named
  have hnm := (name_of_methodNamed Bd.named Bd.method).1
  have hlk : meth.locks = false := BodyLoose.notSynchronized Bd
  have X0 : Stand p l e R_rm11 s m #[(.ref a)] below meth c s₁ [] 0 0 := Stand.of_body Bd
  have e0 : s₁.heap = h0 := by rw [← hh, Bd.state]; rfl
  have N0 := Fr.nil n0
  refine OGo.en (Q := Q_rm11 Z a a_lastZxidSeen h0 n0) (C := R_rm11.cells) (S := R_rm11.slots) (own_ef_rm11 m a) ?_
  refine OGo.st (T' := s₁) (g' := (mkF m 1 #[.val (.ref a)] [(.ref a)])) (fun _ k => (XS.aloadN X0.here hx rfl (hb hby own_d_prog_8_method_10_0) rfl rfl k)) ?_
  obtain ⟨T1, X1, e1, st1⟩ := getF X0 hx hZ hown (host := "") (Or.inl (hw _ (List.mem_of_getElem? (i := 20) rfl))) Via.refl e0 F_a_lastZxidSeen (g := (mkF m 1 #[.val (.ref a)] [(.ref a)])) rfl rfl (hb hby own_d_prog_8_method_10_1)
  refine OGo.st (T' := T1) (g' := (mkF m 4 #[.val (.ref a)] [(.long a_lastZxidSeen)])) (fun _ k => st1 _ k) ?_
  exact OGo.ret X1 hx hlk Bd.returns rfl own_rJ (hb hby own_d_prog_8_method_10_4) (by decide) (by decide) e1 (⟨rfl, N0, rfl⟩)
theorem own_ef_rm12 (m : MethodId) (x0 : Addr) : entryFrame m #[(.ref x0)] 1 = mkF m 0 #[.val (.ref x0)] [] := by first | (simp [entryFrame, mkF, argsToLocals, Value.category]; done) | rfl
def R_rm12 : Room := { frames := 0, cells := 0, slots := 0, locals := 0 }
def Q_rm12 (Z : State) (a : Addr) (a_timeOut : Int32) (h0 : Heap) (n0 : Nat) (v : Option Value) (h : Heap) (L : List Loc) : Prop := v = some (.int a_timeOut) ∧ Fr n0 L ∧ h = h0
set_option maxRecDepth 65536 in
set_option maxHeartbeats 40000000 in
theorem rm12 (l : Launch) (Z : State) (a0 : Array Value) (hw : ∀ d ∈ tables_1, d.before a0 Z = true) (ws : List Jvm.Cond) (a : Addr) (a_timeOut : Int32) (h0 : Heap) (n0 : Nat) (Z0 : n0 ≤ h0.size) (F_a_timeOut : Fld Z h0 a "com/example/rallypoint/rallypoint/protocol/ConnectRequest" "timeOut" "I" (.int a_timeOut)) :
    MetFree l (⟨"com/example/rallypoint/rallypoint/protocol/ConnectRequest", "timeOut", "()I"⟩ : MethodName) (head1 (Jvm.Cond.code (⟨"com/example/rallypoint/rallypoint/protocol/ConnectRequest", "timeOut", "()I"⟩ : MethodName) prog_8_method_11_code 1 (some .int) :: ws) R_rm12) (fun vs_ U => vs_ = #[(.ref a)] ∧ Z.Warmed39 U.vm ∧ U.heap = h0) (fun _ _ _ _ _ => True) (fun _ U o U' => ∃ v L, o = .returned v ∧ Q_rm12 Z a a_timeOut h0 n0 v U'.heap L ∧ FrameEnd U o U' L R_rm12.cells R_rm12.slots) := by
  refine MetFree.of_bodySF (plainFor_of_name own_pn0) hisR ?_
  intro p e s m args below meth c s₁ Bd hml0 hP hK
  obtain ⟨rfl, hZ, hh⟩ := hP
  have hx := Bd.exec
  have hby := Bd.bytes
  have hml : c.maxLocals = 1 := hml0
  have hown : s.vm.findClass "com/example/rallypoint/rallypoint/protocol/ConnectRequest" = some m.cls := findClass_of_methodNamed Bd.named
  have hnm := (name_of_methodNamed Bd.named Bd.method).1
  have hlk : meth.locks = false := BodyLoose.notSynchronized Bd
  have X0 : Stand p l e R_rm12 s m #[(.ref a)] below meth c s₁ [] 0 0 := Stand.of_body Bd
  have e0 : s₁.heap = h0 := by rw [← hh, Bd.state]; rfl
  have N0 := Fr.nil n0
  refine OGo.en (Q := Q_rm12 Z a a_timeOut h0 n0) (C := R_rm12.cells) (S := R_rm12.slots) (own_ef_rm12 m a) ?_
  refine OGo.st (T' := s₁) (g' := (mkF m 1 #[.val (.ref a)] [(.ref a)])) (fun _ k => (XS.aloadN X0.here hx rfl (hb hby own_d_prog_8_method_11_0) rfl rfl k)) ?_
  obtain ⟨T1, X1, e1, st1⟩ := getF X0 hx hZ hown (host := "") (Or.inl (hw _ (List.mem_of_getElem? (i := 22) rfl))) Via.refl e0 F_a_timeOut (g := (mkF m 1 #[.val (.ref a)] [(.ref a)])) rfl rfl (hb hby own_d_prog_8_method_11_1)
  refine OGo.st (T' := T1) (g' := (mkF m 4 #[.val (.ref a)] [(.int a_timeOut)])) (fun _ k => st1 _ k) ?_
  exact OGo.ret X1 hx hlk Bd.returns rfl (own_rI (Or.inl rfl)) (hb hby own_d_prog_8_method_11_4) (by decide) (by decide) e1 (⟨rfl, N0, rfl⟩)
theorem own_ef_rm13 (m : MethodId) (x0 : Addr) : entryFrame m #[(.ref x0)] 1 = mkF m 0 #[.val (.ref x0)] [] := by first | (simp [entryFrame, mkF, argsToLocals, Value.category]; done) | rfl
def R_rm13 : Room := { frames := 0, cells := 0, slots := 0, locals := 0 }
def Q_rm13 (Z : State) (a : Addr) (a_sessionId : Int64) (h0 : Heap) (n0 : Nat) (v : Option Value) (h : Heap) (L : List Loc) : Prop := v = some (.long a_sessionId) ∧ Fr n0 L ∧ h = h0
set_option maxRecDepth 65536 in
set_option maxHeartbeats 40000000 in
theorem rm13 (l : Launch) (Z : State) (a0 : Array Value) (hw : ∀ d ∈ tables_1, d.before a0 Z = true) (ws : List Jvm.Cond) (a : Addr) (a_sessionId : Int64) (h0 : Heap) (n0 : Nat) (Z0 : n0 ≤ h0.size) (F_a_sessionId : Fld Z h0 a "com/example/rallypoint/rallypoint/protocol/ConnectRequest" "sessionId" "J" (.long a_sessionId)) :
    MetFree l (⟨"com/example/rallypoint/rallypoint/protocol/ConnectRequest", "sessionId", "()J"⟩ : MethodName) (head1 (Jvm.Cond.code (⟨"com/example/rallypoint/rallypoint/protocol/ConnectRequest", "sessionId", "()J"⟩ : MethodName) prog_8_method_12_code 1 (some .long) :: ws) R_rm13) (fun vs_ U => vs_ = #[(.ref a)] ∧ Z.Warmed39 U.vm ∧ U.heap = h0) (fun _ _ _ _ _ => True) (fun _ U o U' => ∃ v L, o = .returned v ∧ Q_rm13 Z a a_sessionId h0 n0 v U'.heap L ∧ FrameEnd U o U' L R_rm13.cells R_rm13.slots) := by
  refine MetFree.of_bodySF (plainFor_of_name own_pn0) hisR ?_
  intro p e s m args below meth c s₁ Bd hml0 hP hK
  obtain ⟨rfl, hZ, hh⟩ := hP
  have hx := Bd.exec
  have hby := Bd.bytes
  have hml : c.maxLocals = 1 := hml0
  have hown : s.vm.findClass "com/example/rallypoint/rallypoint/protocol/ConnectRequest" = some m.cls := findClass_of_methodNamed Bd.named
  have hnm := (name_of_methodNamed Bd.named Bd.method).1
  have hlk : meth.locks = false := BodyLoose.notSynchronized Bd
  have X0 : Stand p l e R_rm13 s m #[(.ref a)] below meth c s₁ [] 0 0 := Stand.of_body Bd
  have e0 : s₁.heap = h0 := by rw [← hh, Bd.state]; rfl
  have N0 := Fr.nil n0
  refine OGo.en (Q := Q_rm13 Z a a_sessionId h0 n0) (C := R_rm13.cells) (S := R_rm13.slots) (own_ef_rm13 m a) ?_
  refine OGo.st (T' := s₁) (g' := (mkF m 1 #[.val (.ref a)] [(.ref a)])) (fun _ k => (XS.aloadN X0.here hx rfl (hb hby own_d_prog_8_method_12_0) rfl rfl k)) ?_
  obtain ⟨T1, X1, e1, st1⟩ := getF X0 hx hZ hown (host := "") (Or.inl (hw _ (List.mem_of_getElem? (i := 24) rfl))) Via.refl e0 F_a_sessionId (g := (mkF m 1 #[.val (.ref a)] [(.ref a)])) rfl rfl (hb hby own_d_prog_8_method_12_1)
  refine OGo.st (T' := T1) (g' := (mkF m 4 #[.val (.ref a)] [(.long a_sessionId)])) (fun _ k => st1 _ k) ?_
  exact OGo.ret X1 hx hlk Bd.returns rfl own_rJ (hb hby own_d_prog_8_method_12_4) (by decide) (by decide) e1 (⟨rfl, N0, rfl⟩)
theorem own_ef_rm14 (m : MethodId) (x0 : Addr) : entryFrame m #[(.ref x0)] 1 = mkF m 0 #[.val (.ref x0)] [] := by first | (simp [entryFrame, mkF, argsToLocals, Value.category]; done) | rfl
def R_rm14 : Room := { frames := 0, cells := 0, slots := 0, locals := 0 }
def Q_rm14 (Z : State) (a : Addr) (d : Addr) (h0 : Heap) (n0 : Nat) (v : Option Value) (h : Heap) (L : List Loc) : Prop := v = some (.ref d) ∧ Fr n0 L ∧ h = h0
set_option maxRecDepth 65536 in
set_option maxHeartbeats 40000000 in
theorem rm14 (l : Launch) (Z : State) (a0 : Array Value) (hw : ∀ d ∈ tables_1, d.before a0 Z = true) (ws : List Jvm.Cond) (a : Addr) (d : Addr) (h0 : Heap) (n0 : Nat) (Z0 : n0 ≤ h0.size) (F_a_passwd : Fld Z h0 a "com/example/rallypoint/rallypoint/protocol/ConnectRequest" "passwd" "[B" (.ref d)) :
    MetFree l (⟨"com/example/rallypoint/rallypoint/protocol/ConnectRequest", "passwd", "()[B"⟩ : MethodName) (head1 (Jvm.Cond.code (⟨"com/example/rallypoint/rallypoint/protocol/ConnectRequest", "passwd", "()[B"⟩ : MethodName) prog_8_method_13_code 1 (some (.array .byte)) :: ws) R_rm14) (fun vs_ U => vs_ = #[(.ref a)] ∧ Z.Warmed39 U.vm ∧ U.heap = h0) (fun _ _ _ _ _ => True) (fun _ U o U' => ∃ v L, o = .returned v ∧ Q_rm14 Z a d h0 n0 v U'.heap L ∧ FrameEnd U o U' L R_rm14.cells R_rm14.slots) := by
  refine MetFree.of_bodySF (plainFor_of_name own_pn0) hisR ?_
  intro p e s m args below meth c s₁ Bd hml0 hP hK
  obtain ⟨rfl, hZ, hh⟩ := hP
  have hx := Bd.exec
  have hby := Bd.bytes
  have hml : c.maxLocals = 1 := hml0
  have hown : s.vm.findClass "com/example/rallypoint/rallypoint/protocol/ConnectRequest" = some m.cls := findClass_of_methodNamed Bd.named
  have hnm := (name_of_methodNamed Bd.named Bd.method).1
  have hlk : meth.locks = false := BodyLoose.notSynchronized Bd
  have X0 : Stand p l e R_rm14 s m #[(.ref a)] below meth c s₁ [] 0 0 := Stand.of_body Bd
  have e0 : s₁.heap = h0 := by rw [← hh, Bd.state]; rfl
  have N0 := Fr.nil n0
  refine OGo.en (Q := Q_rm14 Z a d h0 n0) (C := R_rm14.cells) (S := R_rm14.slots) (own_ef_rm14 m a) ?_
  refine OGo.st (T' := s₁) (g' := (mkF m 1 #[.val (.ref a)] [(.ref a)])) (fun _ k => (XS.aloadN X0.here hx rfl (hb hby own_d_prog_8_method_13_0) rfl rfl k)) ?_
  obtain ⟨T1, X1, e1, st1⟩ := getF X0 hx hZ hown (host := "") (Or.inl (hw _ (List.mem_of_getElem? (i := 26) rfl))) Via.refl e0 F_a_passwd (g := (mkF m 1 #[.val (.ref a)] [(.ref a)])) rfl rfl (hb hby own_d_prog_8_method_13_1)
  refine OGo.st (T' := T1) (g' := (mkF m 4 #[.val (.ref a)] [(.ref d)])) (fun _ k => st1 _ k) ?_
  exact OGo.ret X1 hx hlk Bd.returns rfl (own_rR rfl rfl) (hb hby own_d_prog_8_method_13_4) (by decide) (by decide) e1 (⟨rfl, N0, rfl⟩)
theorem own_ef_rm15 (m : MethodId) (x0 : Addr) : entryFrame m #[(.ref x0)] 1 = mkF m 0 #[.val (.ref x0)] [] := by first | (simp [entryFrame, mkF, argsToLocals, Value.category]; done) | rfl
def R_rm15 : Room := { frames := 0, cells := 0, slots := 0, locals := 0 }
def Q_rm15 (Z : State) (a : Addr) (h0 : Heap) (n0 : Nat) (v : Option Value) (h : Heap) (L : List Loc) : Prop := v = some (.int (0 : Int32)) ∧ Fr n0 L ∧ h = h0
set_option maxRecDepth 65536 in
set_option maxHeartbeats 40000000 in
theorem rm15 (l : Launch) (Z : State) (a0 : Array Value) (hw : ∀ d ∈ tables_1, d.before a0 Z = true) (ws : List Jvm.Cond) (a : Addr) (h0 : Heap) (n0 : Nat) (Z0 : n0 ≤ h0.size) (F_a_readOnly : Fld Z h0 a "com/example/rallypoint/rallypoint/protocol/ConnectRequest" "readOnly" "Z" (.int (0 : Int32))) :
    MetFree l (⟨"com/example/rallypoint/rallypoint/protocol/ConnectRequest", "readOnly", "()Z"⟩ : MethodName) (head1 (Jvm.Cond.code (⟨"com/example/rallypoint/rallypoint/protocol/ConnectRequest", "readOnly", "()Z"⟩ : MethodName) prog_8_method_14_code 1 (some .boolean) :: ws) R_rm15) (fun vs_ U => vs_ = #[(.ref a)] ∧ Z.Warmed39 U.vm ∧ U.heap = h0) (fun _ _ _ _ _ => True) (fun _ U o U' => ∃ v L, o = .returned v ∧ Q_rm15 Z a h0 n0 v U'.heap L ∧ FrameEnd U o U' L R_rm15.cells R_rm15.slots) := by
  refine MetFree.of_bodySF (plainFor_of_name own_pn0) hisR ?_
  intro p e s m args below meth c s₁ Bd hml0 hP hK
  obtain ⟨rfl, hZ, hh⟩ := hP
  have hx := Bd.exec
  have hby := Bd.bytes
  have hml : c.maxLocals = 1 := hml0
  have hown : s.vm.findClass "com/example/rallypoint/rallypoint/protocol/ConnectRequest" = some m.cls := findClass_of_methodNamed Bd.named
  have hnm := (name_of_methodNamed Bd.named Bd.method).1
  have hlk : meth.locks = false := BodyLoose.notSynchronized Bd
  have X0 : Stand p l e R_rm15 s m #[(.ref a)] below meth c s₁ [] 0 0 := Stand.of_body Bd
  have e0 : s₁.heap = h0 := by rw [← hh, Bd.state]; rfl
  have N0 := Fr.nil n0
  refine OGo.en (Q := Q_rm15 Z a h0 n0) (C := R_rm15.cells) (S := R_rm15.slots) (own_ef_rm15 m a) ?_
  refine OGo.st (T' := s₁) (g' := (mkF m 1 #[.val (.ref a)] [(.ref a)])) (fun _ k => (XS.aloadN X0.here hx rfl (hb hby own_d_prog_8_method_14_0) rfl rfl k)) ?_
  obtain ⟨T1, X1, e1, st1⟩ := getF X0 hx hZ hown (host := "") (Or.inl (hw _ (List.mem_of_getElem? (i := 28) rfl))) Via.refl e0 F_a_readOnly (g := (mkF m 1 #[.val (.ref a)] [(.ref a)])) rfl rfl (hb hby own_d_prog_8_method_14_1)
  refine OGo.st (T' := T1) (g' := (mkF m 4 #[.val (.ref a)] [(.int (0 : Int32))])) (fun _ k => st1 _ k) ?_
  exact OGo.ret X1 hx hlk Bd.returns rfl (own_rI (Or.inr (Or.inl rfl))) (hb hby own_d_prog_8_method_14_4) (by decide) (by decide) e1 (⟨rfl, N0, rfl⟩)
theorem own_ef_rm0 (m : MethodId) (x0 : Int32) (x1 : Int32) : entryFrame m #[(.int x0), (.int x1)] maxLocals = mkF m 0 #[.val (.int x0), .val (.int x1), .unset, .unset, .unset] [] := by first | (simp [entryFrame, mkF, argsToLocals, Value.category, maxLocals]; done) | rfl
def Q_rm0 (Z : State) (p0 : Int32) (p1 : Int32) (h0 : Heap) (n0 : Nat) (v : Option Value) (h : Heap) (L : List Loc) : Prop := v = some (.int 1) ∧ Fr n0 L
set_option maxRecDepth 65536 in
set_option maxHeartbeats 40000000 in
theorem rm0 (l : Launch) (Z : State) (a0 : Array Value) (hw : ∀ d ∈ tables_1, d.before a0 Z = true) (ws : List Jvm.Cond) (p0 : Int32) (p1 : Int32) (h0 : Heap) (n0 : Nat) (Z0 : n0 ≤ h0.size) :
    MetFree l x (head1 (Jvm.Cond.code x code maxLocals ret :: ws) room_1) (fun vs_ U => vs_ = #[(.int p0), (.int p1)] ∧ Z.Warmed39 U.vm ∧ U.heap = h0) (fun _ _ _ _ _ => True) (fun _ U o U' => ∃ v L, o = .returned v ∧ Q_rm0 Z p0 p1 h0 n0 v U'.heap L ∧ FrameEnd U o U' L 16 192) := by
  refine MetFree.of_bodySF (plainFor_of_name own_pn1) hisR ?_
  intro p e s m args below meth c s₁ Bd hml0 hP hK
  obtain ⟨rfl, hZ, hh⟩ := hP
  have hx := Bd.exec
  have hby := Bd.bytes
  have hml : c.maxLocals = 5 := hml0
  have hown : s.vm.findClass "com/example/rallypoint/rallypoint/protocol/ConnectRequestNewSessionPinLaw" = some m.cls := findClass_of_methodNamed Bd.named
  have hnm := (name_of_methodNamed Bd.named Bd.method).1
  have hlk : meth.locks = false := BodyLoose.notSynchronized Bd
  have X0 : Stand p l e room_1 s m #[(.int p0), (.int p1)] below meth c s₁ [] 0 0 := Stand.of_body Bd
  have e0 : s₁.heap = h0 := by rw [← hh, Bd.state]; rfl
  have N0 := Fr.nil n0
  refine OGo.en (Q := Q_rm0 Z p0 p1 h0 n0) (C := 16) (S := 192) (own_ef_rm0 m p0 p1) ?_
  refine OGo.st (T' := s₁) (g' := (mkF m 1 #[.val (.int p0), .val (.int p1), .unset, .unset, .unset] [(.int p0)])) (fun _ k => (XS.iloadN X0.here hx rfl (hb hby at_0) rfl k)) ?_
  obtain ⟨_, _, ⟨T1, L1, k1, n1⟩, -, X1, ⟨Lc1, hQ1, l1, y1, z1⟩, st1⟩ := Jvm.LawKit.callS X0 hx (y := (⟨"com/example/rallypoint/rallypoint/protocol/ConnectRequest", "newSession", "(I)Lcom/example/rallypoint/rallypoint/protocol/ConnectRequest;"⟩ : MethodName)) hown (mvT hZ (hw _ (List.mem_of_getElem? (i := 0) rfl))) (mvT hZ (hw _ (List.mem_of_getElem? (i := 1) rfl))) (mvT hZ (hw _ (List.mem_of_getElem? (i := 2) rfl))) (mvT hZ (hw _ (List.mem_of_getElem? (i := 3) rfl))) (by decide) (backOf (W := 0) (rm1 l Z a0 hw [] (p0) h0 n0 Z0 ) hZ (hw _ (List.mem_of_getElem? (i := 3) rfl)) (hw _ (List.mem_of_getElem? (i := 2) rfl)) (by decide) (by decide)) (g := (mkF m 1 #[.val (.int p0), .val (.int p1), .unset, .unset, .unset] [(.int p0)])) rfl (by rw [hml]; rfl) (argsL := [(.int p0)]) (rest := []) (lenOf own_pd5 rfl) rfl (by show 2 * 0 + _ ≤ _; exact Nat.le_of_eq rfl) (hb hby at_1) (fun _ _ => ⟨rfl, e0, (by decide : 0 + 2 ≤ _), (by decide : 0 + 22 ≤ _)⟩)
  dsimp only [Pt.U, Pt.locs, Pt.cells, Pt.slots] at X1 l1 y1 z1 st1 hQ1
  subst l1 y1 z1
  have X1 : Stand p l e room_1 s m _ below meth c T1 _ 2 22 := X1
  obtain ⟨h1, e1⟩ : ∃ z, T1.heap = z := ⟨_, rfl⟩
  rw [e1] at hQ1
  obtain ⟨b1, b1_1, rfl, Nq1, Kc1, sz_b1, sz_b1_1, nf1_0_1, G1x0, G1x1, G1x2, G1x3, G1x4, G1x5, G1x6, G1x7⟩ := hQ1
  have N1 := Fr.app N0 Nq1
  have g_b1 : n0 ≤ b1 := Nat.le_trans Z0 sz_b1
  have g_b1_1 : n0 ≤ b1_1 := Nat.le_trans Z0 sz_b1_1
  have Zn1 : n0 ≤ h1.size := Nat.le_trans Z0 Kc1.1
  refine OGo.st (T' := T1) (g' := (mkF m 4 #[.val (.int p0), .val (.int p1), .unset, .unset, .unset] [(.ref b1)])) (fun _ k => st1 _ k) ?_
  refine OGo.st (T' := T1) (g' := (mkF m 6 #[.val (.int p0), .val (.int p1), .val (.ref b1), .unset, .unset] [(.int p0)])) (fun _ k => (XS.astoreN X1.here hx rfl (hb hby at_4) rfl rfl (l' := #[.val (.int p0), .val (.int p1), .val (.ref b1), .unset, .unset]) rfl (XS.iloadN X1.here hx rfl (hb hby at_5) rfl k))) ?_
  obtain ⟨_, _, ⟨T2, L2, k2, n2⟩, -, X2, ⟨Lc2, hQ2, l2, y2, z2⟩, st2⟩ := Jvm.LawKit.callS X1 hx (y := (⟨"com/example/rallypoint/rallypoint/protocol/ConnectRequest", "newSession", "(I)Lcom/example/rallypoint/rallypoint/protocol/ConnectRequest;"⟩ : MethodName)) hown (mvT hZ (hw _ (List.mem_of_getElem? (i := 0) rfl))) (mvT hZ (hw _ (List.mem_of_getElem? (i := 1) rfl))) (mvT hZ (hw _ (List.mem_of_getElem? (i := 2) rfl))) (mvT hZ (hw _ (List.mem_of_getElem? (i := 3) rfl))) (by decide) (backOf (W := 0) (rm1 l Z a0 hw [] (p0) h1 n0 Zn1 ) hZ (hw _ (List.mem_of_getElem? (i := 3) rfl)) (hw _ (List.mem_of_getElem? (i := 2) rfl)) (by decide) (by decide)) (g := (mkF m 6 #[.val (.int p0), .val (.int p1), .val (.ref b1), .unset, .unset] [(.int p0)])) rfl (by rw [hml]; rfl) (argsL := [(.int p0)]) (rest := []) (lenOf own_pd5 rfl) rfl (by show 2 * 0 + _ ≤ _; exact Nat.le_of_eq rfl) (hb hby at_6) (fun _ _ => ⟨rfl, e1, (by decide : 2 + 2 ≤ _), (by decide : 22 + 22 ≤ _)⟩)
  dsimp only [Pt.U, Pt.locs, Pt.cells, Pt.slots] at X2 l2 y2 z2 st2 hQ2
  subst l2 y2 z2
  have X2 : Stand p l e room_1 s m _ below meth c T2 _ 4 44 := X2
  obtain ⟨h2, e2⟩ : ∃ z, T2.heap = z := ⟨_, rfl⟩
  rw [e2] at hQ2
  obtain ⟨b2, b2_1, rfl, Nq2, Kc2, sz_b2, sz_b2_1, nf2_0_1, G2x0, G2x1, G2x2, G2x3, G2x4, G2x5, G2x6, G2x7⟩ := hQ2
  have N2 := Fr.app N1 Nq2
  have ne_b1_b2 : b1 ≠ b2 := Nat.ne_of_lt (Nat.lt_of_lt_of_le G1x0.lt sz_b2)
  have ne_b1_1_b2 : b1_1 ≠ b2 := Nat.ne_of_lt (Nat.lt_of_lt_of_le G1x1.lt sz_b2)
  have g_b2 : n0 ≤ b2 := Nat.le_trans Zn1 sz_b2
  have ne_b1_b2_1 : b1 ≠ b2_1 := Nat.ne_of_lt (Nat.lt_of_lt_of_le G1x0.lt sz_b2_1)
  have ne_b1_1_b2_1 : b1_1 ≠ b2_1 := Nat.ne_of_lt (Nat.lt_of_lt_of_le G1x1.lt sz_b2_1)
  have g_b2_1 : n0 ≤ b2_1 := Nat.le_trans Zn1 sz_b2_1
  have G1x0_2 : Exa Z h2 b1 "com/example/rallypoint/rallypoint/protocol/ConnectRequest" := G1x0.keep Kc2
  have G1x1_2 : OArr Z h2 b1_1 .byte 16 (fun j => .int ((own_L (0 : Int32) ([(0 : Int32), (0 : Int32), (0 : Int32), (0 : Int32), (0 : Int32), (0 : Int32), (0 : Int32), (0 : Int32), (0 : Int32), (0 : Int32), (0 : Int32), (0 : Int32), (0 : Int32), (0 : Int32), (0 : Int32), (0 : Int32)] : List Int32)) j)) := G1x1.keep Kc2 nin0
  have G1x2_2 : Fld Z h2 b1 "com/example/rallypoint/rallypoint/protocol/ConnectRequest" "protocolVersion" "I" (.int (0 : Int32)) := G1x2.keep Kc2 nin0
  have G1x3_2 : Fld Z h2 b1 "com/example/rallypoint/rallypoint/protocol/ConnectRequest" "lastZxidSeen" "J" (.long (0 : Int64)) := G1x3.keep Kc2 nin0
  have G1x4_2 : Fld Z h2 b1 "com/example/rallypoint/rallypoint/protocol/ConnectRequest" "timeOut" "I" (.int p0) := G1x4.keep Kc2 nin0
  have G1x5_2 : Fld Z h2 b1 "com/example/rallypoint/rallypoint/protocol/ConnectRequest" "sessionId" "J" (.long (0 : Int64)) := G1x5.keep Kc2 nin0
  have G1x6_2 : Fld Z h2 b1 "com/example/rallypoint/rallypoint/protocol/ConnectRequest" "passwd" "[B" (.ref b1_1) := G1x6.keep Kc2 nin0
  have G1x7_2 : Fld Z h2 b1 "com/example/rallypoint/rallypoint/protocol/ConnectRequest" "readOnly" "Z" (.int (0 : Int32)) := G1x7.keep Kc2 nin0
  have Zn2 : n0 ≤ h2.size := Nat.le_trans Zn1 Kc2.1
  refine OGo.st (T' := T2) (g' := (mkF m 9 #[.val (.int p0), .val (.int p1), .val (.ref b1), .unset, .unset] [(.ref b2)])) (fun _ k => st2 _ k) ?_
  refine OGo.st (T' := T2) (g' := (mkF m 11 #[.val (.int p0), .val (.int p1), .val (.ref b1), .val (.ref b2), .unset] [(.ref b1)])) (fun _ k => (XS.astoreN X2.here hx rfl (hb hby at_9) rfl rfl (l' := #[.val (.int p0), .val (.int p1), .val (.ref b1), .val (.ref b2), .unset]) rfl (XS.aloadN X2.here hx rfl (hb hby at_10) rfl rfl k))) ?_
  obtain ⟨cq3, kq3, q3a, q3b, q3c⟩ := isOf hZ e2 G1x0_2
  obtain ⟨_, _, ⟨T3, L3, k3, n3⟩, -, X3, ⟨Lc3, hQ3, l3, y3, z3⟩, st3⟩ := X2.virtualBack hx (y := (⟨"com/example/rallypoint/rallypoint/protocol/ConnectRequest", "passwd", "()[B"⟩ : MethodName)) (z := (⟨"com/example/rallypoint/rallypoint/protocol/ConnectRequest", "passwd", "()[B"⟩ : MethodName)) hown (mvT hZ (hw _ (List.mem_of_getElem? (i := 30) rfl))) (mvT hZ (hw _ (List.mem_of_getElem? (i := 31) rfl))) (notFace_of_selects (args := #[]) (mvT hZ (hw _ (List.mem_of_getElem? (i := 33) rfl)))) (mvT hZ (hw _ (List.mem_of_getElem? (i := 33) rfl))) (mvT hZ (hw _ (List.mem_of_getElem? (i := 32) rfl))) (by decide) (backOf (W := 0) (rm14 l Z a0 hw [] (b1) (b1_1) h2 n0 Zn2 (G1x6_2)) hZ (hw _ (List.mem_of_getElem? (i := 34) rfl)) (hw _ (List.mem_of_getElem? (i := 2) rfl)) (by decide) (by decide)) q3a q3c (g := (mkF m 11 #[.val (.int p0), .val (.int p1), .val (.ref b1), .val (.ref b2), .unset] [(.ref b1)])) rfl (by rw [hml]; rfl) (Steps.refl _) (argsL := []) (rest := []) (lenOf own_pd4 rfl) rfl (by show 2 * 0 + _ ≤ _; exact Nat.le_of_eq rfl) (hb hby at_11) (fun _ _ => ⟨rfl, e2, (by decide : 4 + 0 ≤ _), (by decide : 44 + 0 ≤ _)⟩)
  dsimp only [Pt.U, Pt.locs, Pt.cells, Pt.slots] at X3 l3 y3 z3 st3 hQ3
  subst l3 y3 z3
  have X3 : Stand p l e room_1 s m _ below meth c T3 _ 4 44 := X3
  obtain ⟨rfl, Nq3, e3⟩ := hQ3
  have N3 := Fr.app N2 Nq3
  refine OGo.st (T' := T3) (g' := (mkF m 14 #[.val (.int p0), .val (.int p1), .val (.ref b1), .val (.ref b2), .unset] [(.ref b1_1)])) (fun _ k => st3.trans k) ?_
  refine OGo.st (T' := T3) (g' := (mkF m 23 #[.val (.int p0), .val (.int p1), .val (.ref b1), .val (.ref b2), .val (.ref b1_1)] [(.ref b1_1)])) (fun _ k => (XS.astore X3.here hx rfl (hb hby at_14) rfl rfl (l' := #[.val (.int p0), .val (.int p1), .val (.ref b1), .val (.ref b2), .val (.ref b1_1)]) rfl (XS.aload X3.here hx rfl (hb hby at_16) rfl rfl (XS.ifnullNo X3.here hx rfl (hb hby at_18) rfl (XS.aload X3.here hx rfl (hb hby at_21) rfl rfl k))))) ?_
  refine OGo.st (T' := T3) (g' := (mkF m 32 #[.val (.int p0), .val (.int p1), .val (.ref b1), .val (.ref b2), .val (.ref b1_1)] [(.ref b2)])) (fun _ k => (own_len X3 hx hZ e3 G1x1_2 (g := (mkF m 23 #[.val (.int p0), .val (.int p1), .val (.ref b1), .val (.ref b2), .val (.ref b1_1)] [(.ref b1_1)])) rfl rfl (hb hby at_23) _ (XS.bipush X3.here hx rfl (hb hby at_24) (XS.icmpYes X3.here hx rfl (pc0 := 26) (pc' := 31) rfl (hb hby at_26) rfl (teq (by decide : (16 : Int32) = (16 : Int32))).1 (by decide) (by decide) (XS.aloadN X3.here hx rfl (hb hby at_31) rfl rfl k))))) ?_
  obtain ⟨cq4, kq4, q4a, q4b, q4c⟩ := isOf hZ e3 G2x0
  obtain ⟨_, _, ⟨T4, L4, k4, n4⟩, -, X4, ⟨Lc4, hQ4, l4, y4, z4⟩, st4⟩ := X3.virtualBack hx (y := (⟨"com/example/rallypoint/rallypoint/protocol/ConnectRequest", "passwd", "()[B"⟩ : MethodName)) (z := (⟨"com/example/rallypoint/rallypoint/protocol/ConnectRequest", "passwd", "()[B"⟩ : MethodName)) hown (mvT hZ (hw _ (List.mem_of_getElem? (i := 30) rfl))) (mvT hZ (hw _ (List.mem_of_getElem? (i := 31) rfl))) (notFace_of_selects (args := #[]) (mvT hZ (hw _ (List.mem_of_getElem? (i := 33) rfl)))) (mvT hZ (hw _ (List.mem_of_getElem? (i := 33) rfl))) (mvT hZ (hw _ (List.mem_of_getElem? (i := 32) rfl))) (by decide) (backOf (W := 0) (rm14 l Z a0 hw [] (b2) (b2_1) h2 n0 Zn2 (G2x6)) hZ (hw _ (List.mem_of_getElem? (i := 34) rfl)) (hw _ (List.mem_of_getElem? (i := 2) rfl)) (by decide) (by decide)) q4a q4c (g := (mkF m 32 #[.val (.int p0), .val (.int p1), .val (.ref b1), .val (.ref b2), .val (.ref b1_1)] [(.ref b2)])) rfl (by rw [hml]; rfl) (Steps.refl _) (argsL := []) (rest := []) (lenOf own_pd4 rfl) rfl (by show 2 * 0 + _ ≤ _; exact Nat.le_of_eq rfl) (hb hby at_32) (fun _ _ => ⟨rfl, e3, (by decide : 4 + 0 ≤ _), (by decide : 44 + 0 ≤ _)⟩)
  dsimp only [Pt.U, Pt.locs, Pt.cells, Pt.slots] at X4 l4 y4 z4 st4 hQ4
  subst l4 y4 z4
  have X4 : Stand p l e room_1 s m _ below meth c T4 _ 4 44 := X4
  obtain ⟨rfl, Nq4, e4⟩ := hQ4
  have N4 := Fr.app N3 Nq4
  refine OGo.st (T' := T4) (g' := (mkF m 35 #[.val (.int p0), .val (.int p1), .val (.ref b1), .val (.ref b2), .val (.ref b1_1)] [(.ref b2_1)])) (fun _ k => st4.trans k) ?_
  refine OGo.st (T' := T4) (g' := (mkF m 37 #[.val (.int p0), .val (.int p1), .val (.ref b1), .val (.ref b2), .val (.ref b1_1)] [(.ref b1_1), (.ref b2_1)])) (fun _ k => (XS.aload X4.here hx rfl (hb hby at_35) rfl rfl k)) ?_
  refine OGo.st (T' := T4) (g' := (mkF m 43 #[.val (.int p0), .val (.int p1), .val (.ref b1), .val (.ref b2), .val (.ref b1_1)] [(.ref b1)])) (fun _ k => (Jvm.RoadKit.acmp (g := (mkF m 37 #[.val (.int p0), .val (.int p1), .val (.ref b1), .val (.ref b2), .val (.ref b1_1)] [(.ref b1_1), (.ref b2_1)])) X4 hx rfl rfl rfl (pc0 := 37) (pc' := 42) (same := false) rfl (hb hby at_37) rfl (decide_eq_false fun q => (Ne.symm ne_b1_1_b2_1) (Value.ref.inj q)) (by decide) (by decide) (XS.aloadN X4.here hx rfl (hb hby at_42) rfl rfl k))) ?_
  obtain ⟨cq5, kq5, q5a, q5b, q5c⟩ := isOf hZ e4 G1x0_2
  obtain ⟨_, _, ⟨T5, L5, k5, n5⟩, -, X5, ⟨Lc5, hQ5, l5, y5, z5⟩, st5⟩ := X4.virtualBack hx (y := (⟨"com/example/rallypoint/rallypoint/protocol/ConnectRequest", "protocolVersion", "()I"⟩ : MethodName)) (z := (⟨"com/example/rallypoint/rallypoint/protocol/ConnectRequest", "protocolVersion", "()I"⟩ : MethodName)) hown (mvT hZ (hw _ (List.mem_of_getElem? (i := 35) rfl))) (mvT hZ (hw _ (List.mem_of_getElem? (i := 36) rfl))) (notFace_of_selects (args := #[]) (mvT hZ (hw _ (List.mem_of_getElem? (i := 38) rfl)))) (mvT hZ (hw _ (List.mem_of_getElem? (i := 38) rfl))) (mvT hZ (hw _ (List.mem_of_getElem? (i := 37) rfl))) (by decide) (backOf (W := 0) (rm10 l Z a0 hw [] (b1) ((0 : Int32)) h2 n0 Zn2 (G1x2_2)) hZ (hw _ (List.mem_of_getElem? (i := 39) rfl)) (hw _ (List.mem_of_getElem? (i := 2) rfl)) (by decide) (by decide)) q5a q5c (g := (mkF m 43 #[.val (.int p0), .val (.int p1), .val (.ref b1), .val (.ref b2), .val (.ref b1_1)] [(.ref b1)])) rfl (by rw [hml]; rfl) (Steps.refl _) (argsL := []) (rest := []) (lenOf own_pd0 rfl) rfl (by show 2 * 0 + _ ≤ _; exact Nat.le_of_eq rfl) (hb hby at_43) (fun _ _ => ⟨rfl, e4, (by decide : 4 + 0 ≤ _), (by decide : 44 + 0 ≤ _)⟩)
  dsimp only [Pt.U, Pt.locs, Pt.cells, Pt.slots] at X5 l5 y5 z5 st5 hQ5
  subst l5 y5 z5
  have X5 : Stand p l e room_1 s m _ below meth c T5 _ 4 44 := X5
  obtain ⟨rfl, Nq5, e5⟩ := hQ5
  have N5 := Fr.app N4 Nq5
  refine OGo.st (T' := T5) (g' := (mkF m 46 #[.val (.int p0), .val (.int p1), .val (.ref b1), .val (.ref b2), .val (.ref b1_1)] [(.int (0 : Int32))])) (fun _ k => st5.trans k) ?_
  refine OGo.st (T' := T5) (g' := (mkF m 50 #[.val (.int p0), .val (.int p1), .val (.ref b1), .val (.ref b2), .val (.ref b1_1)] [(.ref b1)])) (fun _ k => (XS.ifNo X5.here hx rfl (hb hby at_46) rfl ((if0 _ _).trans (teq (by decide : (0 : Int32) = (0 : Int32))).2) (XS.aloadN X5.here hx rfl (hb hby at_49) rfl rfl k))) ?_
  obtain ⟨cq6, kq6, q6a, q6b, q6c⟩ := isOf hZ e5 G1x0_2
  obtain ⟨_, _, ⟨T6, L6, k6, n6⟩, -, X6, ⟨Lc6, hQ6, l6, y6, z6⟩, st6⟩ := X5.virtualBack hx (y := (⟨"com/example/rallypoint/rallypoint/protocol/ConnectRequest", "lastZxidSeen", "()J"⟩ : MethodName)) (z := (⟨"com/example/rallypoint/rallypoint/protocol/ConnectRequest", "lastZxidSeen", "()J"⟩ : MethodName)) hown (mvT hZ (hw _ (List.mem_of_getElem? (i := 40) rfl))) (mvT hZ (hw _ (List.mem_of_getElem? (i := 41) rfl))) (notFace_of_selects (args := #[]) (mvT hZ (hw _ (List.mem_of_getElem? (i := 43) rfl)))) (mvT hZ (hw _ (List.mem_of_getElem? (i := 43) rfl))) (mvT hZ (hw _ (List.mem_of_getElem? (i := 42) rfl))) (by decide) (backOf (W := 0) (rm11 l Z a0 hw [] (b1) ((0 : Int64)) h2 n0 Zn2 (G1x3_2)) hZ (hw _ (List.mem_of_getElem? (i := 44) rfl)) (hw _ (List.mem_of_getElem? (i := 2) rfl)) (by decide) (by decide)) q6a q6c (g := (mkF m 50 #[.val (.int p0), .val (.int p1), .val (.ref b1), .val (.ref b2), .val (.ref b1_1)] [(.ref b1)])) rfl (by rw [hml]; rfl) (Steps.refl _) (argsL := []) (rest := []) (lenOf own_pd1 rfl) rfl (by show 2 * 0 + _ ≤ _; exact Nat.le_of_eq rfl) (hb hby at_50) (fun _ _ => ⟨rfl, e5, (by decide : 4 + 0 ≤ _), (by decide : 44 + 0 ≤ _)⟩)
  dsimp only [Pt.U, Pt.locs, Pt.cells, Pt.slots] at X6 l6 y6 z6 st6 hQ6
  subst l6 y6 z6
  have X6 : Stand p l e room_1 s m _ below meth c T6 _ 4 44 := X6
  obtain ⟨rfl, Nq6, e6⟩ := hQ6
  have N6 := Fr.app N5 Nq6
  refine OGo.st (T' := T6) (g' := (mkF m 53 #[.val (.int p0), .val (.int p1), .val (.ref b1), .val (.ref b2), .val (.ref b1_1)] [(.long (0 : Int64))])) (fun _ k => st6.trans k) ?_
  refine OGo.st (T' := T6) (g' := (mkF m 59 #[.val (.int p0), .val (.int p1), .val (.ref b1), .val (.ref b2), .val (.ref b1_1)] [(.ref b1)])) (fun _ k => (XS.lconst X6.here hx rfl (hb hby at_53) (XS.lcmp X6.here hx rfl (hb hby at_54) rfl (XS.ifNo X6.here hx rfl (hb hby at_55) rfl ((if0 _ _).trans (teq ((lw_eq (0 : Int64) (0 : Int64)).mpr (by decide : (0 : Int64) = (0 : Int64)))).2) (XS.aloadN X6.here hx rfl (hb hby at_58) rfl rfl k))))) ?_
  obtain ⟨cq7, kq7, q7a, q7b, q7c⟩ := isOf hZ e6 G1x0_2
  obtain ⟨_, _, ⟨T7, L7, k7, n7⟩, -, X7, ⟨Lc7, hQ7, l7, y7, z7⟩, st7⟩ := X6.virtualBack hx (y := (⟨"com/example/rallypoint/rallypoint/protocol/ConnectRequest", "timeOut", "()I"⟩ : MethodName)) (z := (⟨"com/example/rallypoint/rallypoint/protocol/ConnectRequest", "timeOut", "()I"⟩ : MethodName)) hown (mvT hZ (hw _ (List.mem_of_getElem? (i := 45) rfl))) (mvT hZ (hw _ (List.mem_of_getElem? (i := 46) rfl))) (notFace_of_selects (args := #[]) (mvT hZ (hw _ (List.mem_of_getElem? (i := 48) rfl)))) (mvT hZ (hw _ (List.mem_of_getElem? (i := 48) rfl))) (mvT hZ (hw _ (List.mem_of_getElem? (i := 47) rfl))) (by decide) (backOf (W := 0) (rm12 l Z a0 hw [] (b1) (p0) h2 n0 Zn2 (G1x4_2)) hZ (hw _ (List.mem_of_getElem? (i := 49) rfl)) (hw _ (List.mem_of_getElem? (i := 2) rfl)) (by decide) (by decide)) q7a q7c (g := (mkF m 59 #[.val (.int p0), .val (.int p1), .val (.ref b1), .val (.ref b2), .val (.ref b1_1)] [(.ref b1)])) rfl (by rw [hml]; rfl) (Steps.refl _) (argsL := []) (rest := []) (lenOf own_pd0 rfl) rfl (by show 2 * 0 + _ ≤ _; exact Nat.le_of_eq rfl) (hb hby at_59) (fun _ _ => ⟨rfl, e6, (by decide : 4 + 0 ≤ _), (by decide : 44 + 0 ≤ _)⟩)
  dsimp only [Pt.U, Pt.locs, Pt.cells, Pt.slots] at X7 l7 y7 z7 st7 hQ7
  subst l7 y7 z7
  have X7 : Stand p l e room_1 s m _ below meth c T7 _ 4 44 := X7
  obtain ⟨rfl, Nq7, e7⟩ := hQ7
  have N7 := Fr.app N6 Nq7
  refine OGo.st (T' := T7) (g' := (mkF m 62 #[.val (.int p0), .val (.int p1), .val (.ref b1), .val (.ref b2), .val (.ref b1_1)] [(.int p0)])) (fun _ k => st7.trans k) ?_
  refine OGo.st (T' := T7) (g' := (mkF m 67 #[.val (.int p0), .val (.int p1), .val (.ref b1), .val (.ref b2), .val (.ref b1_1)] [(.ref b1)])) (fun _ k => (XS.iloadN X7.here hx rfl (hb hby at_62) rfl (XS.icmpNo X7.here hx rfl (hb hby at_63) rfl (teq (rfl : p0 = p0)).2 (XS.aloadN X7.here hx rfl (hb hby at_66) rfl rfl k)))) ?_
  obtain ⟨cq8, kq8, q8a, q8b, q8c⟩ := isOf hZ e7 G1x0_2
  obtain ⟨_, _, ⟨T8, L8, k8, n8⟩, -, X8, ⟨Lc8, hQ8, l8, y8, z8⟩, st8⟩ := X7.virtualBack hx (y := (⟨"com/example/rallypoint/rallypoint/protocol/ConnectRequest", "sessionId", "()J"⟩ : MethodName)) (z := (⟨"com/example/rallypoint/rallypoint/protocol/ConnectRequest", "sessionId", "()J"⟩ : MethodName)) hown (mvT hZ (hw _ (List.mem_of_getElem? (i := 50) rfl))) (mvT hZ (hw _ (List.mem_of_getElem? (i := 51) rfl))) (notFace_of_selects (args := #[]) (mvT hZ (hw _ (List.mem_of_getElem? (i := 53) rfl)))) (mvT hZ (hw _ (List.mem_of_getElem? (i := 53) rfl))) (mvT hZ (hw _ (List.mem_of_getElem? (i := 52) rfl))) (by decide) (backOf (W := 0) (rm13 l Z a0 hw [] (b1) ((0 : Int64)) h2 n0 Zn2 (G1x5_2)) hZ (hw _ (List.mem_of_getElem? (i := 54) rfl)) (hw _ (List.mem_of_getElem? (i := 2) rfl)) (by decide) (by decide)) q8a q8c (g := (mkF m 67 #[.val (.int p0), .val (.int p1), .val (.ref b1), .val (.ref b2), .val (.ref b1_1)] [(.ref b1)])) rfl (by rw [hml]; rfl) (Steps.refl _) (argsL := []) (rest := []) (lenOf own_pd1 rfl) rfl (by show 2 * 0 + _ ≤ _; exact Nat.le_of_eq rfl) (hb hby at_67) (fun _ _ => ⟨rfl, e7, (by decide : 4 + 0 ≤ _), (by decide : 44 + 0 ≤ _)⟩)
  dsimp only [Pt.U, Pt.locs, Pt.cells, Pt.slots] at X8 l8 y8 z8 st8 hQ8
  subst l8 y8 z8
  have X8 : Stand p l e room_1 s m _ below meth c T8 _ 4 44 := X8
  obtain ⟨rfl, Nq8, e8⟩ := hQ8
  have N8 := Fr.app N7 Nq8
  refine OGo.st (T' := T8) (g' := (mkF m 70 #[.val (.int p0), .val (.int p1), .val (.ref b1), .val (.ref b2), .val (.ref b1_1)] [(.long (0 : Int64))])) (fun _ k => st8.trans k) ?_
  refine OGo.st (T' := T8) (g' := (mkF m 80 #[.val (.int p0), .val (.int p1), .val (.ref b1), .val (.ref b2), .val (.ref b1_1)] [(.int (15 : Int32)), (.int p1), (.ref b1_1)])) (fun _ k => (XS.lconst X8.here hx rfl (hb hby at_70) (XS.lcmp X8.here hx rfl (hb hby at_71) rfl (XS.ifNo X8.here hx rfl (hb hby at_72) rfl ((if0 _ _).trans (teq ((lw_eq (0 : Int64) (0 : Int64)).mpr (by decide : (0 : Int64) = (0 : Int64)))).2) (XS.aload X8.here hx rfl (hb hby at_75) rfl rfl (XS.iloadN X8.here hx rfl (hb hby at_77) rfl (XS.bipush X8.here hx rfl (hb hby at_78) k))))))) ?_
  refine OGo.st (T' := T8) (g' := (mkF m 81 #[.val (.int p0), .val (.int p1), .val (.ref b1), .val (.ref b2), .val (.ref b1_1)] [(.int (p1 &&& (15 : Int32))), (.ref b1_1)])) (fun _ k => (XS.iand X8.here hx rfl (hb hby at_80) rfl k)) ?_
  obtain ⟨i, hi, hix⟩ := own_mask15 p1
  refine OGo.st (T' := T8) (g' := (mkF m 82 #[.val (.int p0), .val (.int p1), .val (.ref b1), .val (.ref b2), .val (.ref b1_1)] [(.int ((own_L (0 : Int32) ([(0 : Int32), (0 : Int32), (0 : Int32), (0 : Int32), (0 : Int32), (0 : Int32), (0 : Int32), (0 : Int32), (0 : Int32), (0 : Int32), (0 : Int32), (0 : Int32), (0 : Int32), (0 : Int32), (0 : Int32), (0 : Int32)] : List Int32)) i))])) (fun _ k => (own_ldB X8 hx hZ e8 G1x1_2 (j := (p1 &&& (15 : Int32))) (i := i) hix hi (g := (mkF m 81 #[.val (.int p0), .val (.int p1), .val (.ref b1), .val (.ref b2), .val (.ref b1_1)] [(.int (p1 &&& (15 : Int32))), (.ref b1_1)])) rfl rfl (hb hby at_81) _ k)) ?_
  refine OGo.st (T' := T8) (g' := (mkF m 86 #[.val (.int p0), .val (.int p1), .val (.ref b1), .val (.ref b2), .val (.ref b1_1)] [(.ref b1)])) (fun _ k => (XS.ifNo X8.here hx rfl (hb hby at_82) rfl ((if0 _ _).trans (teq ((own_L_rep (0 : Int32) 16 i).symm : ((own_L (0 : Int32) ([(0 : Int32), (0 : Int32), (0 : Int32), (0 : Int32), (0 : Int32), (0 : Int32), (0 : Int32), (0 : Int32), (0 : Int32), (0 : Int32), (0 : Int32), (0 : Int32), (0 : Int32), (0 : Int32), (0 : Int32), (0 : Int32)] : List Int32)) i) = (0 : Int32))).2) (XS.aloadN X8.here hx rfl (hb hby at_85) rfl rfl k))) ?_
  obtain ⟨cq9, kq9, q9a, q9b, q9c⟩ := isOf hZ e8 G1x0_2
  obtain ⟨_, _, ⟨T9, L9, k9, n9⟩, -, X9, ⟨Lc9, hQ9, l9, y9, z9⟩, st9⟩ := X8.virtualBack hx (y := (⟨"com/example/rallypoint/rallypoint/protocol/ConnectRequest", "readOnly", "()Z"⟩ : MethodName)) (z := (⟨"com/example/rallypoint/rallypoint/protocol/ConnectRequest", "readOnly", "()Z"⟩ : MethodName)) hown (mvT hZ (hw _ (List.mem_of_getElem? (i := 55) rfl))) (mvT hZ (hw _ (List.mem_of_getElem? (i := 56) rfl))) (notFace_of_selects (args := #[]) (mvT hZ (hw _ (List.mem_of_getElem? (i := 58) rfl)))) (mvT hZ (hw _ (List.mem_of_getElem? (i := 58) rfl))) (mvT hZ (hw _ (List.mem_of_getElem? (i := 57) rfl))) (by decide) (backOf (W := 0) (rm15 l Z a0 hw [] (b1) h2 n0 Zn2 (G1x7_2)) hZ (hw _ (List.mem_of_getElem? (i := 59) rfl)) (hw _ (List.mem_of_getElem? (i := 2) rfl)) (by decide) (by decide)) q9a q9c (g := (mkF m 86 #[.val (.int p0), .val (.int p1), .val (.ref b1), .val (.ref b2), .val (.ref b1_1)] [(.ref b1)])) rfl (by rw [hml]; rfl) (Steps.refl _) (argsL := []) (rest := []) (lenOf own_pd3 rfl) rfl (by show 2 * 0 + _ ≤ _; exact Nat.le_of_eq rfl) (hb hby at_86) (fun _ _ => ⟨rfl, e8, (by decide : 4 + 0 ≤ _), (by decide : 44 + 0 ≤ _)⟩)
  dsimp only [Pt.U, Pt.locs, Pt.cells, Pt.slots] at X9 l9 y9 z9 st9 hQ9
  subst l9 y9 z9
  have X9 : Stand p l e room_1 s m _ below meth c T9 _ 4 44 := X9
  obtain ⟨rfl, Nq9, e9⟩ := hQ9
  have N9 := Fr.app N8 Nq9
  refine OGo.st (T' := T9) (g' := (mkF m 89 #[.val (.int p0), .val (.int p1), .val (.ref b1), .val (.ref b2), .val (.ref b1_1)] [(.int (0 : Int32))])) (fun _ k => st9.trans k) ?_
  refine OGo.st (T' := T9) (g' := (mkF m 97 #[.val (.int p0), .val (.int p1), .val (.ref b1), .val (.ref b2), .val (.ref b1_1)] [(.int (1 : Int32))])) (fun _ k => (XS.ifNo X9.here hx rfl (hb hby at_89) rfl ((if0 _ _).trans (teq (by decide : (0 : Int32) = (0 : Int32))).2) (XS.iconst X9.here hx rfl (hb hby at_92) (XS.goto X9.here hx rfl (pc0 := 93) (pc' := 97) rfl (hb hby at_93) (by decide) (by decide) k)))) ?_
  exact OGo.ret X9 hx hlk Bd.returns rfl (own_rI (Or.inr (Or.inl rfl))) (hb hby at_97) (by decide) (by decide) e9 (⟨rfl, N9⟩)
set_option maxRecDepth 65536 in
set_option maxHeartbeats 40000000 in
theorem comes_1 {Post : Tables → Env → Array Value → State → Outcome → State → Prop} (hpost : ∀ tb e args s v u, (limb_1_1.after args s (.returned v) u = true ∧ limb_1_2.after args s (.returned v) u = true ∧ True) → FrameEnd s (.returned v) u (Jvm.fieldLocs frame_1_writes args s ++ Jvm.arrayLocs frame_1_arrays args s ++ Jvm.staticLocs frame_1_statics s) 16 192 → Post tb e args s (.returned v) u) :
    ArmFor flags0 classFile x code maxLocals ret World_1 tables_1 room_1 Calls_1 rest_1 Pre_1 Post := by
  intro l hfl _ _ p e ha hc hk s m args below hf hA hF happ hP
  obtain ⟨hcalls, hrest, hpre⟩ := hP
  obtain ⟨-, -, -, hnamed, -, -, -, hat⟩ := (Spec.applies_iff hf).mp happ
  obtain ⟨hg, hn⟩ := and_e (Cond.before_iff.mp (show (Jvm.Cond.and given_1 narrow_1).before args s = true from hpre))
  obtain ⟨q0, r0⟩ := and_e hg
  obtain ⟨q1, r1⟩ := and_e r0
  obtain ⟨w0, w1, rfl⟩ : ∃ w0 w1 : Value, args = #[w0, w1] := by
    have hs : args.size = 2 := by simpa [Cond.value, given_1] using q0
    obtain ⟨L⟩ := args
    match L, hs with
    | [w0, w1], _ => exact ⟨w0, w1, rfl⟩
  have hw := fun d (hd : d ∈ tables_1) => atoms_spec (ws := Jvm.Cond.code x code maxLocals ret :: tables_1) hat d (List.mem_cons_of_mem _ hd)
  obtain ⟨i0, ei0⟩ := is_v q1
  obtain rfl : w0 = (.int i0) := Option.some.inj ei0
  obtain ⟨i1, ei1⟩ := is_v r1
  obtain rfl : w1 = (.int i1) := Option.some.inj ei1
  obtain ⟨n, o, h1, h2, h3, _, L, rfl, ⟨rfl, N⟩, hq⟩ := rm0 l s _ hw tables_1 i0 i1 s.heap s.heap.size (Nat.le_refl _) p e ha hc hk s m _ below hf ((Spec.applies_iff_loose hf).mp happ).1 ⟨rfl, State.Warmed39.refl s, rfl⟩ trivial
  refine ⟨n, _, h1, h2, h3, hpost _ _ _ _ _ _ ⟨Cond.after_iff.mpr rfl, Cond.after_iff.mpr (eq_i res_at (Term.int_eval (1)) rfl), trivial⟩ ⟨hq.1, hq.2.1, (hq.2.2.sift fun y hy => Or.inr (N y hy)).mono (by decide) (by decide)⟩⟩
theorem main_1_1 : Claimed_1_1 := comes_1 fun _ _ _ _ _ _ h hF => ⟨h.1, hF⟩
theorem main_1_2 : Claimed_1_2 := comes_1 fun _ _ _ _ _ _ h hF => ⟨h.2.1, hF⟩
end Jvm.Pilot.@@N@@
namespace Jvm.Pilot.@@N@@
open Jvm Jvm.ClassFile Sem Op Lib Jvm.Free Jvm.Stand Jvm.Pilot.@@N@@.Jvm.D
/-! MADE BY PROGRAM (witnessworld.py) out of the Statement's table words and the real class files: 10 classes; the members and pool entries that the words name. The judged class is class 1, her method 1. -/
namespace start1
open Jvm.ClassFile
def u (s : String) : CpInfo := .utf8 (stringToUtf16 s)
/-- a pool by its gaps: so many unusable entries, then the entry; so many at the end -/
def gap : Nat → List CpInfo → List CpInfo
  | 0, r => r
  | n + 1, r => .unusable :: gap n r
def poolList (es : List (Nat × CpInfo)) (last : Nat) : List CpInfo := es.foldr (fun e r => gap e.1 (e.2 :: r)) (gap last [])
def pool (es : List (Nat × CpInfo)) (last : Nat) : Array CpInfo := ⟨poolList es last⟩
def fileOf (pool : Array CpInfo) (this : Nat) (attrs : Array Attribute := #[]) (ms : Array MethodInfo := #[]) (fl : Nat := 33) (sup : Nat := 0) (ifs : Array Nat := #[]) (fds : Array FieldInfo := #[]) : ClassFile where
  minorVersion := 0
  majorVersion := 65
  constantPool := pool
  accessFlags := fl
  thisClass := this
  superClass := sup
  interfaces := ifs
  fields := fds
  methods := ms
  attributes := attrs
def plain (name : String) (sup : Option ClassId) : Class where
  name := name
  kind := .ordinary
  loader := none
  accessFlags := 33
  super := sup
  interfaces := #[]
  cf := none
  fields := #[]
  methods := #[]
  instanceTypes := #[]
  staticTypes := #[]
  resolved := #[]
  callSites := []
  init := .initialized
  statics := none
  mirror := none

def pool0 : Array CpInfo := pool [(5, u "<init>"), (0, u "()V"), (1, .class_ 10), (1, u "java/lang/Object")] 113

def k0c0 : Code := { maxStack := 0, maxLocals := 1, code := object_method_1_code, exceptionTable := #[], attributes := #[] }
def k0m0 : Method := { name := "<init>", desc := "()V", sig := { parameters := [], returnType := none }, accessFlags := 1, code := some k0c0 }
/-- java/lang/Object -/
def k0 : Class := { plain "java/lang/Object" none with
  accessFlags := 33
  interfaces := #[]
  cf := some (fileOf pool0 8 #[] #[{ accessFlags := 1, nameIndex := 5, descriptorIndex := 6, attributes := #[] }] 33 0 #[] #[])
  fields := #[]
  methods := #[k0m0]
  instanceTypes := #[]
  staticTypes := #[]
  resolved := Array.replicate 124 none
  statics := none }

def pool1 : Array CpInfo := pool [(2, .class_ 4), (1, u "java/lang/Object"), (0, u "<init>"), (0, u "()V"), (0, .methodref 8 9), (0, .class_ 10), (0, .nameAndType 11 12), (0, u "com/example/rallypoint/rallypoint/protocol/ConnectRequest"), (0, u "newSession"), (0, u "(I)Lcom/example/rallypoint/rallypoint/protocol/ConnectRequest;"), (0, .methodref 8 14), (0, .nameAndType 15 16), (0, u "passwd"), (0, u "()[B"), (0, .methodref 8 18), (0, .nameAndType 19 20), (0, u "protocolVersion"), (0, u "()I"), (0, .methodref 8 22), (0, .nameAndType 23 24), (0, u "lastZxidSeen"), (0, u "()J"), (0, .methodref 8 26), (0, .nameAndType 27 20), (0, u "timeOut"), (0, .methodref 8 29), (0, .nameAndType 30 24), (0, u "sessionId"), (0, .methodref 8 32), (0, .nameAndType 33 34), (0, u "readOnly"), (0, u "()Z"), (0, .class_ 36), (0, u "com/example/rallypoint/rallypoint/protocol/ConnectRequestNewSessionPinLaw"), (2, u "law"), (0, u "(II)Z")] 5

def k1m0 : Method := { name := "<init>", desc := "()V", sig := { parameters := [], returnType := none }, accessFlags := 1, code := none }
def k1c1 : Code := { maxStack := 4, maxLocals := 5, code := code, exceptionTable := #[], attributes := #[] }
def k1m1 : Method := { name := "law", desc := "(II)Z", sig := { parameters := [.int, .int], returnType := some .boolean }, accessFlags := 9, code := some k1c1 }
/-- com/example/rallypoint/rallypoint/protocol/ConnectRequestNewSessionPinLaw -/
def k1 : Class := { plain "com/example/rallypoint/rallypoint/protocol/ConnectRequestNewSessionPinLaw" (some 0) with
  accessFlags := 49
  interfaces := #[]
  cf := some (fileOf pool1 35 #[] #[{ accessFlags := 1, nameIndex := 5, descriptorIndex := 6, attributes := #[] }, { accessFlags := 9, nameIndex := 39, descriptorIndex := 40, attributes := #[] }] 49 2 #[] #[])
  fields := #[]
  methods := #[k1m0, k1m1]
  instanceTypes := #[]
  staticTypes := #[]
  resolved := Array.replicate 46 none
  statics := none }

def pool2 : Array CpInfo := pool [(1, .methodref 2 3), (0, .class_ 4), (0, .nameAndType 5 6), (0, u "java/lang/Object"), (0, u "<init>"), (0, u "()V"), (0, .class_ 8), (0, u "java/lang/Record")] 13

def k2c0 : Code := { maxStack := 1, maxLocals := 1, code := jdk_30_method_1_code, exceptionTable := #[], attributes := #[] }
def k2m0 : Method := { name := "<init>", desc := "()V", sig := { parameters := [], returnType := none }, accessFlags := 4, code := some k2c0 }
/-- java/lang/Record -/
def k2 : Class := { plain "java/lang/Record" (some 0) with
  accessFlags := 1057
  interfaces := #[]
  cf := some (fileOf pool2 7 #[] #[{ accessFlags := 4, nameIndex := 5, descriptorIndex := 6, attributes := #[] }] 1057 2 #[] #[])
  fields := #[]
  methods := #[k2m0]
  instanceTypes := #[]
  staticTypes := #[]
  resolved := Array.replicate 22 none
  statics := none }

def pool3 : Array CpInfo := pool [(1, .methodref 2 3), (0, .class_ 4), (0, .nameAndType 5 6), (0, u "java/lang/Record"), (0, u "<init>"), (0, u "()V"), (0, .fieldref 8 9), (0, .class_ 10), (0, .nameAndType 11 12), (0, u "com/example/rallypoint/rallypoint/protocol/ConnectRequest"), (0, u "protocolVersion"), (0, u "I"), (0, .fieldref 8 14), (0, .nameAndType 15 16), (0, u "lastZxidSeen"), (0, u "J"), (0, .fieldref 8 18), (0, .nameAndType 19 12), (0, u "timeOut"), (0, .fieldref 8 21), (0, .nameAndType 22 16), (0, u "sessionId"), (0, .fieldref 8 24), (0, .nameAndType 25 26), (0, u "passwd"), (0, u "[B"), (0, .fieldref 8 28), (0, .nameAndType 29 30), (0, u "readOnly"), (0, u "Z"), (0, .methodref 8 32), (0, .nameAndType 5 33), (0, u "(IJIJ[BZ)V"), (5, u "()I"), (3, u "()J"), (3, u "()[B"), (3, u "()Z"), (33, u "PROTOCOL_VERSION"), (2, u "PASSWORD_BYTES"), (4, u "newSession"), (0, u "(I)Lcom/example/rallypoint/rallypoint/protocol/ConnectRequest;")] 38

def k3c0 : Code := { maxStack := 3, maxLocals := 9, code := prog_8_method_1_code, exceptionTable := #[], attributes := #[] }
def k3m0 : Method := { name := "<init>", desc := "(IJIJ[BZ)V", sig := { parameters := [.int, .long, .int, .long, (.array .byte), .boolean], returnType := none }, accessFlags := 1, code := some k3c0 }
def k3c1 : Code := { maxStack := 10, maxLocals := 1, code := prog_8_method_2_code, exceptionTable := #[], attributes := #[] }
def k3m1 : Method := { name := "newSession", desc := "(I)Lcom/example/rallypoint/rallypoint/protocol/ConnectRequest;", sig := { parameters := [.int], returnType := some (.object "com/example/rallypoint/rallypoint/protocol/ConnectRequest") }, accessFlags := 9, code := some k3c1 }
def k3c2 : Code := { maxStack := 1, maxLocals := 1, code := prog_8_method_9_code, exceptionTable := #[], attributes := #[] }
def k3m2 : Method := { name := "protocolVersion", desc := "()I", sig := { parameters := [], returnType := some .int }, accessFlags := 1, code := some k3c2 }
def k3c3 : Code := { maxStack := 2, maxLocals := 1, code := prog_8_method_10_code, exceptionTable := #[], attributes := #[] }
def k3m3 : Method := { name := "lastZxidSeen", desc := "()J", sig := { parameters := [], returnType := some .long }, accessFlags := 1, code := some k3c3 }
def k3c4 : Code := { maxStack := 1, maxLocals := 1, code := prog_8_method_11_code, exceptionTable := #[], attributes := #[] }
def k3m4 : Method := { name := "timeOut", desc := "()I", sig := { parameters := [], returnType := some .int }, accessFlags := 1, code := some k3c4 }
def k3c5 : Code := { maxStack := 2, maxLocals := 1, code := prog_8_method_12_code, exceptionTable := #[], attributes := #[] }
def k3m5 : Method := { name := "sessionId", desc := "()J", sig := { parameters := [], returnType := some .long }, accessFlags := 1, code := some k3c5 }
def k3c6 : Code := { maxStack := 1, maxLocals := 1, code := prog_8_method_13_code, exceptionTable := #[], attributes := #[] }
def k3m6 : Method := { name := "passwd", desc := "()[B", sig := { parameters := [], returnType := some (.array .byte) }, accessFlags := 1, code := some k3c6 }
def k3c7 : Code := { maxStack := 1, maxLocals := 1, code := prog_8_method_14_code, exceptionTable := #[], attributes := #[] }
def k3m7 : Method := { name := "readOnly", desc := "()Z", sig := { parameters := [], returnType := some .boolean }, accessFlags := 1, code := some k3c7 }
/-- com/example/rallypoint/rallypoint/protocol/ConnectRequest -/
def k3 : Class := { plain "com/example/rallypoint/rallypoint/protocol/ConnectRequest" (some 2) with
  accessFlags := 49
  interfaces := #[]
  cf := some (fileOf pool3 8 #[] #[{ accessFlags := 1, nameIndex := 5, descriptorIndex := 33, attributes := #[] }, { accessFlags := 9, nameIndex := 93, descriptorIndex := 94, attributes := #[] }, { accessFlags := 1, nameIndex := 11, descriptorIndex := 39, attributes := #[] }, { accessFlags := 1, nameIndex := 15, descriptorIndex := 43, attributes := #[] }, { accessFlags := 1, nameIndex := 19, descriptorIndex := 39, attributes := #[] }, { accessFlags := 1, nameIndex := 22, descriptorIndex := 43, attributes := #[] }, { accessFlags := 1, nameIndex := 25, descriptorIndex := 47, attributes := #[] }, { accessFlags := 1, nameIndex := 29, descriptorIndex := 51, attributes := #[] }] 49 2 #[] #[{ accessFlags := 18, nameIndex := 11, descriptorIndex := 12, attributes := #[] }, { accessFlags := 18, nameIndex := 15, descriptorIndex := 16, attributes := #[] }, { accessFlags := 18, nameIndex := 19, descriptorIndex := 12, attributes := #[] }, { accessFlags := 18, nameIndex := 22, descriptorIndex := 16, attributes := #[] }, { accessFlags := 18, nameIndex := 25, descriptorIndex := 26, attributes := #[] }, { accessFlags := 18, nameIndex := 29, descriptorIndex := 30, attributes := #[] }, { accessFlags := 25, nameIndex := 85, descriptorIndex := 12, attributes := #[] }, { accessFlags := 25, nameIndex := 88, descriptorIndex := 12, attributes := #[] }])
  fields := #[{ name := "protocolVersion", type := .int, accessFlags := 18, slot := 0, constantValue := 0 }, { name := "lastZxidSeen", type := .long, accessFlags := 18, slot := 1, constantValue := 0 }, { name := "timeOut", type := .int, accessFlags := 18, slot := 2, constantValue := 0 }, { name := "sessionId", type := .long, accessFlags := 18, slot := 3, constantValue := 0 }, { name := "passwd", type := (.array .byte), accessFlags := 18, slot := 4, constantValue := 0 }, { name := "readOnly", type := .boolean, accessFlags := 18, slot := 5, constantValue := 0 }, { name := "PROTOCOL_VERSION", type := .int, accessFlags := 25, slot := 0, constantValue := 0 }, { name := "PASSWORD_BYTES", type := .int, accessFlags := 25, slot := 1, constantValue := 0 }]
  methods := #[k3m0, k3m1, k3m2, k3m3, k3m4, k3m5, k3m6, k3m7]
  instanceTypes := #[.int, .long, .int, .long, (.array .byte), .boolean]
  staticTypes := #[.int, .int]
  resolved := Array.replicate 133 none
  statics := none }

def pool4 : Array CpInfo := pool [(1, u "java/lang/Cloneable"), (0, .class_ 1), (0, u "java/lang/Object"), (0, .class_ 3)] 3

/-- java/lang/Cloneable -/
def k4 : Class := { plain "java/lang/Cloneable" (some 0) with
  accessFlags := 1537
  interfaces := #[]
  cf := some (fileOf pool4 2 #[] #[] 1537 4 #[] #[])
  fields := #[]
  methods := #[]
  instanceTypes := #[]
  staticTypes := #[]
  resolved := Array.replicate 8 none
  statics := none }

def pool5 : Array CpInfo := pool [(1, u "java/io/Serializable"), (0, .class_ 1), (0, u "java/lang/Object"), (0, .class_ 3)] 3

/-- java/io/Serializable -/
def k5 : Class := { plain "java/io/Serializable" (some 0) with
  accessFlags := 1537
  interfaces := #[]
  cf := some (fileOf pool5 2 #[] #[] 1537 4 #[] #[])
  fields := #[]
  methods := #[]
  instanceTypes := #[]
  staticTypes := #[]
  resolved := Array.replicate 8 none
  statics := none }

/-- the primitive byte -/
def k6 : Class := { plain "byte" none with kind := .primitive 'B', accessFlags := 0x411 }
/-- [B -/
def k7 : Class := { plain "[B" (some 0) with kind := .array 6 .byte, interfaces := #[4, 5], accessFlags := 1041 }

/-- the primitive int -/
def k8 : Class := { plain "int" none with kind := .primitive 'I', accessFlags := 0x411 }
/-- [I -/
def k9 : Class := { plain "[I" (some 0) with kind := .array 8 .int, interfaces := #[4, 5], accessFlags := 1041 }

def heap : Heap := #[]
def classes : Array Class := #[k0, k1, k2, k3, k4, k5, k6, k7, k8, k9]
def interned : List (Array UInt16 × Addr) := []
def slotsUsed : Nat := 0
def theMethod : MethodId := ⟨1, 1⟩
def args0 : Array Value := #[.int 5, .int 6]
def aboutOver (below : List Frame) : State where
  vm := { classes := classes, interned := interned.toArray }
  heap := heap
  slotsUsed := slotsUsed
  threads := #[{ frames := .invoking theMethod args0 :: below }]
def below0 : List Frame := [.native { method := ⟨0, 0⟩, args := #[] }]
def about1 : State := aboutOver below0
def p0 : Program := .bare "" "" ""
def e0 : Env := launch0.env 0 0 0
theorem w_frames : about1.frames = Frame.invoking theMethod args0 :: below0 := rfl
set_option maxRecDepth 65536 in
theorem w_args : argsFit about1.vm theMethod args0 = true := by decide +kernel
set_option maxRecDepth 65536 in
theorem w_heap : heapFits about1 = true := by decide +kernel
set_option maxRecDepth 65536 in
theorem w_runnable : about1.curStatus? = some .runnable := by decide +kernel
set_option maxRecDepth 65536 in
theorem w_alone : about1.alone = true := by decide +kernel
set_option maxRecDepth 65536 in
theorem w_named : about1.methodNamed? x = some theMethod := by decide +kernel
set_option maxRecDepth 65536 in
theorem w_hears : about1.hears theMethod below0 = true := by decide +kernel
set_option maxRecDepth 65536 in
theorem w_ripe : about1.ripe theMethod args0 below0 = true := by decide +kernel
theorem w_running : about1.status = .running := rfl
set_option maxRecDepth 65536 in
theorem w_room : about1.hasRoom e0.platform room_1 = true :=
  launch0.hasRoom_least _ room_1 (by decide +kernel) (by decide +kernel) (by decide +kernel) (by decide +kernel) (by decide +kernel) (by decide +kernel)
theorem allAtoms_all (ts : List Jvm.Cond) (a : Array Jvm.Value) (st : Jvm.State) : (allAtoms ts).before a st = ts.all (fun c => c.before a st) := by
  induction ts with
  | nil => rfl
  | cons c t ih =>
    show (Jvm.Cond.and c (allAtoms t)).before a st = _
    rw [Jvm.Cond.before_and, ih, List.all_cons]
def words1 : List Jvm.Cond := Jvm.Cond.code x code maxLocals ret :: tables_1
/-- a 'code' word, met by the world's own term for the bytes: nothing is compared byte by byte -/
theorem code_word {y : MethodName} {bytes : ByteArray} {mx : Nat} {rt : Option FieldType} {a : Array Value} {s : State} {m : MethodId} {meth : Method} {c : Code} (h1 : s.methodNamed? y = some m) (h2 : s.vm.method? m = some meth) (h3 : meth.code = some c) (h4 : c.code = bytes)
    (h5 : (c.maxLocals == mx && c.exceptionTable.isEmpty && decide (c.maxStack ≤ mostOperands) && decide (meth.sig.returnType = rt) && !meth.locks && decide (parseMethodDescriptor y.desc = some meth.sig)) = true) : (Jvm.Cond.code y bytes mx rt).before a s = true := by
  simp only [Bool.and_eq_true, beq_iff_eq, Bool.not_eq_true', decide_eq_true_eq] at h5
  obtain ⟨⟨⟨⟨⟨g1, g2⟩, g3⟩, g4⟩, g5⟩, g6⟩ := h5
  simp [Cond.before, Cond.holds, Cond.value, h1, h2, h3, h4, g1, g2, g3, g4, g5, g6]
def isCode : Jvm.Cond → Bool
  | .code _ _ _ _ => true
  | _ => false
theorem all_split {L : List Jvm.Cond} {P : Jvm.Cond → Bool} (h1 : L.all (fun c => isCode c || P c) = true) (h2 : ∀ c ∈ L.filter isCode, P c = true) : L.all P = true := by
  refine List.all_eq_true.mpr fun c hc => ?_
  have h := List.all_eq_true.mp h1 c hc
  rcases Bool.eq_false_or_eq_true (isCode c) with hi | hi
  · exact h2 c (List.mem_filter.mpr ⟨hc, hi⟩)
  · simpa [hi] using h
set_option maxRecDepth 65536 in
theorem w_c0 : (Jvm.Cond.code x code maxLocals ret).before args0 about1 = true := code_word (m := ⟨1, 1⟩) (meth := k1m1) (c := k1c1) (by decide +kernel) rfl rfl rfl (by decide +kernel)
set_option maxRecDepth 65536 in
theorem w_c1 : (Jvm.Cond.code ({ cls := "com/example/rallypoint/rallypoint/protocol/ConnectRequest", name := "newSession", desc := "(I)Lcom/example/rallypoint/rallypoint/protocol/ConnectRequest;" } : Jvm.MethodName) prog_8_method_2_code (1 : Nat) (Option.some (Jvm.ClassFile.FieldType.object "com/example/rallypoint/rallypoint/protocol/ConnectRequest"))).before args0 about1 = true := code_word (m := ⟨3, 1⟩) (meth := k3m1) (c := k3c1) (by decide +kernel) rfl rfl rfl (by decide +kernel)
set_option maxRecDepth 65536 in
theorem w_c2 : (Jvm.Cond.code ({ cls := "com/example/rallypoint/rallypoint/protocol/ConnectRequest", name := "<init>", desc := "(IJIJ[BZ)V" } : Jvm.MethodName) prog_8_method_1_code (9 : Nat) (Option.none : Option Jvm.ClassFile.FieldType)).before args0 about1 = true := code_word (m := ⟨3, 0⟩) (meth := k3m0) (c := k3c0) (by decide +kernel) rfl rfl rfl (by decide +kernel)
set_option maxRecDepth 65536 in
theorem w_c3 : (Jvm.Cond.code ({ cls := "java/lang/Record", name := "<init>", desc := "()V" } : Jvm.MethodName) jdk_30_method_1_code (1 : Nat) (Option.none : Option Jvm.ClassFile.FieldType)).before args0 about1 = true := code_word (m := ⟨2, 0⟩) (meth := k2m0) (c := k2c0) (by decide +kernel) rfl rfl rfl (by decide +kernel)
set_option maxRecDepth 65536 in
theorem w_c4 : (Jvm.Cond.code ({ cls := "java/lang/Object", name := "<init>", desc := "()V" } : Jvm.MethodName) object_method_1_code (1 : Nat) (Option.none : Option Jvm.ClassFile.FieldType)).before args0 about1 = true := code_word (m := ⟨0, 0⟩) (meth := k0m0) (c := k0c0) (by decide +kernel) rfl rfl rfl (by decide +kernel)
set_option maxRecDepth 65536 in
theorem w_c5 : (Jvm.Cond.code ({ cls := "com/example/rallypoint/rallypoint/protocol/ConnectRequest", name := "passwd", desc := "()[B" } : Jvm.MethodName) prog_8_method_13_code (1 : Nat) (Option.some (Jvm.ClassFile.FieldType.array Jvm.ClassFile.FieldType.byte))).before args0 about1 = true := code_word (m := ⟨3, 6⟩) (meth := k3m6) (c := k3c6) (by decide +kernel) rfl rfl rfl (by decide +kernel)
set_option maxRecDepth 65536 in
theorem w_c6 : (Jvm.Cond.code ({ cls := "com/example/rallypoint/rallypoint/protocol/ConnectRequest", name := "protocolVersion", desc := "()I" } : Jvm.MethodName) prog_8_method_9_code (1 : Nat) (Option.some Jvm.ClassFile.FieldType.int)).before args0 about1 = true := code_word (m := ⟨3, 2⟩) (meth := k3m2) (c := k3c2) (by decide +kernel) rfl rfl rfl (by decide +kernel)
set_option maxRecDepth 65536 in
theorem w_c7 : (Jvm.Cond.code ({ cls := "com/example/rallypoint/rallypoint/protocol/ConnectRequest", name := "lastZxidSeen", desc := "()J" } : Jvm.MethodName) prog_8_method_10_code (1 : Nat) (Option.some Jvm.ClassFile.FieldType.long)).before args0 about1 = true := code_word (m := ⟨3, 3⟩) (meth := k3m3) (c := k3c3) (by decide +kernel) rfl rfl rfl (by decide +kernel)
set_option maxRecDepth 65536 in
theorem w_c8 : (Jvm.Cond.code ({ cls := "com/example/rallypoint/rallypoint/protocol/ConnectRequest", name := "timeOut", desc := "()I" } : Jvm.MethodName) prog_8_method_11_code (1 : Nat) (Option.some Jvm.ClassFile.FieldType.int)).before args0 about1 = true := code_word (m := ⟨3, 4⟩) (meth := k3m4) (c := k3c4) (by decide +kernel) rfl rfl rfl (by decide +kernel)
set_option maxRecDepth 65536 in
theorem w_c9 : (Jvm.Cond.code ({ cls := "com/example/rallypoint/rallypoint/protocol/ConnectRequest", name := "sessionId", desc := "()J" } : Jvm.MethodName) prog_8_method_12_code (1 : Nat) (Option.some Jvm.ClassFile.FieldType.long)).before args0 about1 = true := code_word (m := ⟨3, 5⟩) (meth := k3m5) (c := k3c5) (by decide +kernel) rfl rfl rfl (by decide +kernel)
set_option maxRecDepth 65536 in
theorem w_c10 : (Jvm.Cond.code ({ cls := "com/example/rallypoint/rallypoint/protocol/ConnectRequest", name := "readOnly", desc := "()Z" } : Jvm.MethodName) prog_8_method_14_code (1 : Nat) (Option.some Jvm.ClassFile.FieldType.boolean)).before args0 about1 = true := code_word (m := ⟨3, 7⟩) (meth := k3m7) (c := k3c7) (by decide +kernel) rfl rfl rfl (by decide +kernel)
def codes1 : List Jvm.Cond := [Jvm.Cond.code x code maxLocals ret, Jvm.Cond.code ({ cls := "com/example/rallypoint/rallypoint/protocol/ConnectRequest", name := "newSession", desc := "(I)Lcom/example/rallypoint/rallypoint/protocol/ConnectRequest;" } : Jvm.MethodName) prog_8_method_2_code (1 : Nat) (Option.some (Jvm.ClassFile.FieldType.object "com/example/rallypoint/rallypoint/protocol/ConnectRequest")), Jvm.Cond.code ({ cls := "com/example/rallypoint/rallypoint/protocol/ConnectRequest", name := "<init>", desc := "(IJIJ[BZ)V" } : Jvm.MethodName) prog_8_method_1_code (9 : Nat) (Option.none : Option Jvm.ClassFile.FieldType), Jvm.Cond.code ({ cls := "java/lang/Record", name := "<init>", desc := "()V" } : Jvm.MethodName) jdk_30_method_1_code (1 : Nat) (Option.none : Option Jvm.ClassFile.FieldType), Jvm.Cond.code ({ cls := "java/lang/Object", name := "<init>", desc := "()V" } : Jvm.MethodName) object_method_1_code (1 : Nat) (Option.none : Option Jvm.ClassFile.FieldType), Jvm.Cond.code ({ cls := "com/example/rallypoint/rallypoint/protocol/ConnectRequest", name := "passwd", desc := "()[B" } : Jvm.MethodName) prog_8_method_13_code (1 : Nat) (Option.some (Jvm.ClassFile.FieldType.array Jvm.ClassFile.FieldType.byte)), Jvm.Cond.code ({ cls := "com/example/rallypoint/rallypoint/protocol/ConnectRequest", name := "protocolVersion", desc := "()I" } : Jvm.MethodName) prog_8_method_9_code (1 : Nat) (Option.some Jvm.ClassFile.FieldType.int), Jvm.Cond.code ({ cls := "com/example/rallypoint/rallypoint/protocol/ConnectRequest", name := "lastZxidSeen", desc := "()J" } : Jvm.MethodName) prog_8_method_10_code (1 : Nat) (Option.some Jvm.ClassFile.FieldType.long), Jvm.Cond.code ({ cls := "com/example/rallypoint/rallypoint/protocol/ConnectRequest", name := "timeOut", desc := "()I" } : Jvm.MethodName) prog_8_method_11_code (1 : Nat) (Option.some Jvm.ClassFile.FieldType.int), Jvm.Cond.code ({ cls := "com/example/rallypoint/rallypoint/protocol/ConnectRequest", name := "sessionId", desc := "()J" } : Jvm.MethodName) prog_8_method_12_code (1 : Nat) (Option.some Jvm.ClassFile.FieldType.long), Jvm.Cond.code ({ cls := "com/example/rallypoint/rallypoint/protocol/ConnectRequest", name := "readOnly", desc := "()Z" } : Jvm.MethodName) prog_8_method_14_code (1 : Nat) (Option.some Jvm.ClassFile.FieldType.boolean)]
set_option maxRecDepth 65536 in
theorem codes_eq : words1.filter isCode = codes1 := rfl
theorem w_codes : ∀ c ∈ words1.filter isCode, c.before args0 about1 = true := by
  rw [codes_eq]
  intro c hc
  simp only [codes1, List.mem_cons, List.not_mem_nil, or_false] at hc
  rcases hc with rfl | rfl | rfl | rfl | rfl | rfl | rfl | rfl | rfl | rfl | rfl
  · exact w_c0
  · exact w_c1
  · exact w_c2
  · exact w_c3
  · exact w_c4
  · exact w_c5
  · exact w_c6
  · exact w_c7
  · exact w_c8
  · exact w_c9
  · exact w_c10
set_option maxRecDepth 65536 in
theorem w_t1 : (words1.take 24).all (fun c => isCode c || c.before args0 about1) = true := by decide +kernel
set_option maxRecDepth 65536 in
theorem w_t2 : ((words1.drop 24).take 24).all (fun c => isCode c || c.before args0 about1) = true := by decide +kernel
set_option maxRecDepth 65536 in
theorem w_t3 : ((words1.drop 24).drop 24).all (fun c => isCode c || c.before args0 about1) = true := by decide +kernel
theorem w_tables : (allAtoms (Jvm.Cond.code x code maxLocals ret :: tables_1)).before args0 about1 = true := by
  rw [allAtoms_all]
  show words1.all (fun c => c.before args0 about1) = true
  refine all_split ?_ w_codes
  rw [← List.take_append_drop 24 words1, List.all_append, w_t1, ← List.take_append_drop 24 (words1.drop 24), List.all_append, w_t2, w_t3]
  rfl
set_option maxRecDepth 65536 in
theorem w_case : (Jvm.Cond.and given_1 narrow_1).before args0 about1 = true := by decide +kernel
theorem w_applies : (headSpec (Jvm.Cond.code x code maxLocals ret :: tables_1) room_1).applies x e0.platform about1 = true :=
  (Spec.applies_iff w_frames).mpr ⟨w_running, w_runnable, w_alone, w_named, w_hears, w_ripe, w_room, w_tables⟩
theorem atStart : AtStart classFile x code maxLocals ret World_1 tables_1 room_1 Calls_1 rest_1 Pre_1 launch0 p0 e0 about1 theMethod args0 below0 :=
  ⟨lists_1, trivial, launch0.admits_env _ _ _, launch0.least_env, fairChoices_fair.cas, fairChoices_fair.clock, w_frames, w_args, w_heap, w_applies, trivial, trivial, w_case⟩
end start1
theorem witness_1 : WitnessClaimed_1 := ⟨start1.p0, start1.e0, start1.about1, start1.theMethod, start1.args0, start1.below0, start1.atStart⟩
end Jvm.Pilot.@@N@@

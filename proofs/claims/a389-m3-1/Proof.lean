import JvmDerived
import JvmDerived.Pilot.@@N@@Statement
import JvmDerived.Pilot.@@N@@Code
set_option linter.unusedVariables false
set_option linter.unusedSimpArgs false
namespace Jvm.Pilot.@@N@@
open Jvm Jvm.ClassFile Sem Op Lib Jvm.Free Jvm.Stand Jvm.LawKit Jvm.RoadKit Bundle Jvm.Pilot.@@N@@.Jvm.D
/-! ### own: what is left of a body's walk, as one word; each step goes back over it -/
def OGo (p : Program) (e : Env) (below : List Frame) (s : State) (Q : Option Value → Heap → List Loc → Prop) (C S : Nat) (T : State) (g : JFrame) : Prop :=
  ∃ s₂ o, Steps p.tables e below (T.setTop g) s₂ ∧ s₂.status = .running ∧ Ended s₂ below o ∧ ∃ v L, o = .returned v ∧ Q v s₂.heap L ∧ FrameEnd s o s₂ L C S
section Own
variable {p : Program} {l : Launch} {e : Env} {R : Room} {s s₁ : State} {m : MethodId} {args : Array Value} {below : List Frame} {meth : Method} {c : Code} {T T' : State} {locs : List Loc} {cells slots : Nat} {g g' : JFrame} {Q : Option Value → Heap → List Loc → Prop} {C S : Nat} {Z : State} {a0 : Array Value} {h h' : Heap}
theorem OGo.st (k : ∀ t, Steps p.tables e below (T'.setTop g') t → Steps p.tables e below (T.setTop g) t) (q : OGo p e below s Q C S T' g') : OGo p e below s Q C S T g := by
  obtain ⟨s₂, o, h1, h2⟩ := q
  exact ⟨s₂, o, k _ h1, h2⟩
theorem OGo.en {ml : Nat} (q : entryFrame m args ml = g) (k : OGo p e below s Q C S s₁ g) : ∃ s₂ o, Steps p.tables e below (s₁.setTop (entryFrame m args ml)) s₂ ∧ s₂.status = .running ∧ Ended s₂ below o ∧ ∃ v L, o = .returned v ∧ Q v s₂.heap L ∧ FrameEnd s o s₂ L C S := by
  rw [q]; exact k
theorem OGo.ret (X : Stand p l e R s m args below meth c T locs cells slots) (hx : p.tables.exec = Jvm.exec) (hlk : meth.locks = false) {pc : Nat} {Ls : Array Slot} {w : Value} {t : FieldType} {i : Instr} {rest : List Value} (hret : meth.sig.returnType = some t) (hn : narrow t w = w)
    (hi : (i = .ireturn ∧ (t = .int ∨ t = .boolean ∨ t = .byte ∨ t = .char ∨ t = .short) ∧ ∃ z, w = .int z) ∨ (i = .lreturn ∧ t = .long ∧ ∃ z, w = .long z) ∨ (i = .dreturn ∧ t = .double ∧ ∃ z, w = .double z) ∨ (i = .freturn ∧ t = .float ∧ ∃ z, w = .float z) ∨ (i = .areturn ∧ t.isReference = true ∧ w.isRef = true))
    (hd : decode c.code pc = .ok (i, 1)) (hC : cells ≤ C) (hS : slots ≤ S) (hh : T.heap = h) (hQ : Q (some w) h locs) : OGo p e below s Q C S T (mkF m pc Ls (w :: rest)) := by
  obtain ⟨fs, hr, hrun, hended, hW, hsame⟩ := X.leave (v := some w) (fun q => by rw [hret] at q; cases q) hlk
  subst hh
  exact ⟨_, _, retOut X hx hret hn hi hd hr, hrun, hended, _, _, rfl, hQ, ⟨_, rfl⟩, hW, hsame.mono hC hS⟩
theorem OGo.retV (X : Stand p l e R s m args below meth c T locs cells slots) (hx : p.tables.exec = Jvm.exec) (hlk : meth.locks = false) {pc : Nat} {Ls : Array Slot} (hret : meth.sig.returnType = none)
    (hd : decode c.code pc = .ok (.return_, 1)) (hC : cells ≤ C) (hS : slots ≤ S) (hh : T.heap = h) (hQ : Q none h locs) : OGo p e below s Q C S T (mkF m pc Ls []) := by
  obtain ⟨fs, hr, hrun, hended, hW, hsame⟩ := X.leave (v := none) (fun _ => rfl) hlk
  subst hh
  exact ⟨_, _, X.returnOut hx hret hd hr, hrun, hended, _, _, rfl, hQ, ⟨_, rfl⟩, hW, hsame.mono hC hS⟩
theorem own_rI {t : FieldType} {z : Int32} (ht : t = .int ∨ t = .boolean ∨ t = .byte ∨ t = .char ∨ t = .short) : ((Instr.ireturn = .ireturn ∧ (t = .int ∨ t = .boolean ∨ t = .byte ∨ t = .char ∨ t = .short) ∧ ∃ z', Value.int z = .int z') ∨ (Instr.ireturn = .lreturn ∧ t = .long ∧ ∃ z', Value.int z = .long z') ∨ (Instr.ireturn = .dreturn ∧ t = .double ∧ ∃ z', Value.int z = .double z') ∨ (Instr.ireturn = .freturn ∧ t = .float ∧ ∃ z', Value.int z = .float z') ∨ (Instr.ireturn = .areturn ∧ t.isReference = true ∧ (Value.int z).isRef = true)) := Or.inl ⟨rfl, ht, z, rfl⟩
theorem own_rJ {z : Int64} : ((Instr.lreturn = .ireturn ∧ (FieldType.long = .int ∨ FieldType.long = .boolean ∨ FieldType.long = .byte ∨ FieldType.long = .char ∨ FieldType.long = .short) ∧ ∃ z', Value.long z = .int z') ∨ (Instr.lreturn = .lreturn ∧ FieldType.long = .long ∧ ∃ z', Value.long z = .long z') ∨ (Instr.lreturn = .dreturn ∧ FieldType.long = .double ∧ ∃ z', Value.long z = .double z') ∨ (Instr.lreturn = .freturn ∧ FieldType.long = .float ∧ ∃ z', Value.long z = .float z') ∨ (Instr.lreturn = .areturn ∧ FieldType.long.isReference = true ∧ (Value.long z).isRef = true)) := Or.inr (Or.inl ⟨rfl, rfl, z, rfl⟩)
theorem own_rR {t : FieldType} {w : Value} (ht : t.isReference = true) (hw : w.isRef = true) : ((Instr.areturn = .ireturn ∧ (t = .int ∨ t = .boolean ∨ t = .byte ∨ t = .char ∨ t = .short) ∧ ∃ z', w = .int z') ∨ (Instr.areturn = .lreturn ∧ t = .long ∧ ∃ z', w = .long z') ∨ (Instr.areturn = .dreturn ∧ t = .double ∧ ∃ z', w = .double z') ∨ (Instr.areturn = .freturn ∧ t = .float ∧ ∃ z', w = .float z') ∨ (Instr.areturn = .areturn ∧ t.isReference = true ∧ w.isRef = true)) := Or.inr (Or.inr (Or.inr (Or.inr ⟨rfl, ht, hw⟩)))
/-! own: an array by its length and a function of the places -/
def own_ix (j : Int32) (i : Nat) : Prop := ¬ j < 0 ∧ j.toNatClampNeg = i
theorem own_ix_of {i : Nat} (hi : i < 2 ^ 31) : own_ix (Int32.ofNat i) i := by
  have q : (Int32.ofNat i).toInt = i := Int32.toInt_ofNat_of_lt hi
  refine ⟨fun w => ?_, ?_⟩
  · rw [Int32.lt_iff_toInt_lt, q, show (0 : Int32).toInt = 0 from rfl] at w; omega
  · rw [Int32.toNatClampNeg, q]; rfl
theorem own_len32 {n : Nat} : n.toInt32 = Int32.ofNat n := rfl
def own_upd {α : Type} (f : Nat → α) (i : Nat) (v : α) (j : Nat) : α := if j = i then v else f j
def own_L {α : Type} (d : α) (l : List α) (j : Nat) : α := l.getD j d
theorem own_L_set {α : Type} (d : α) (l : List α) (i : Nat) (v : α) (hi : i < l.length) (j : Nat) : own_upd (own_L d l) i v j = own_L d (l.set i v) j := by
  unfold own_upd own_L
  by_cases q : j = i
  · subst q; simp [List.getD_eq_getElem?_getD, hi]
  · simp [List.getD_eq_getElem?_getD, q, List.getElem?_set, Ne.symm q]
theorem own_L_rep {α : Type} (d : α) (n : Nat) (j : Nat) : d = own_L d (List.replicate n d) j := by
  unfold own_L
  rw [List.getD_eq_getElem?_getD, List.getElem?_replicate]
  split <;> rfl
theorem own_updI (f : Nat → Int32) (i : Nat) (x : Int32) (j : Nat) : own_upd (fun j => Value.int (f j)) i (.int x) j = Value.int (own_upd f i x j) := by unfold own_upd; split <;> rfl
theorem own_updJ (f : Nat → Int64) (i : Nat) (x : Int64) (j : Nat) : own_upd (fun j => Value.long (f j)) i (.long x) j = Value.long (own_upd f i x j) := by unfold own_upd; split <;> rfl
def OArr (Z : State) (h : Heap) (a : Addr) (ty : FieldType) (n : Nat) (f : Nat → Value) : Prop := ∃ cl : Cell, Arr Z h a cl ty ∧ cl.slots.size = n ∧ n < 2 ^ 31 ∧ ∀ j, j < n → cl.slots[j]? = some (f j)
variable {a b : Addr} {ty : FieldType} {n : Nat} {f f' : Nat → Value} {sl : Nat} {v : Value} {ws : List Addr}
theorem OArr.lt (F : OArr Z h a ty n f) : a < h.size := by obtain ⟨cl, A, -⟩ := F; exact A.lt
theorem OArr.ext (F : OArr Z h a ty n f) (E : Ext h h') : OArr Z h' a ty n f := by obtain ⟨cl, A, r⟩ := F; exact ⟨cl, A.ext E, r⟩
theorem OArr.other (F : OArr Z h a ty n f) (W : Wr h h' b sl v) (q : a ≠ b) : OArr Z h' a ty n f := by obtain ⟨cl, A, r⟩ := F; exact ⟨cl, A.other W q, r⟩
theorem OArr.keep (F : OArr Z h a ty n f) (K : Keep h h' ws) (q : a ∉ ws) : OArr Z h' a ty n f := by obtain ⟨cl, A, r⟩ := F; exact ⟨cl, ⟨K.2.1 a cl A.1 q, A.2⟩, r⟩
theorem OArr.cast (F : OArr Z h a ty n f) (q : ∀ j, j < n → f j = f' j) : OArr Z h a ty n f' := by obtain ⟨cl, A, r1, r2, r3⟩ := F; exact ⟨cl, A, r1, r2, fun j hj => by rw [r3 j hj, q j hj]⟩
theorem own_in {cl : Cell} {j : Int32} {i : Nat} (hs : cl.slots.size = n) (hj : own_ix j i) (hi : i < n) : ¬ (j < 0 ∨ cl.slots.size ≤ j.toNatClampNeg) := by
  rw [hs, hj.2]; exact fun q => q.elim hj.1 (fun q => absurd hi (Nat.not_lt.mpr q))
theorem OArr.wr (F : OArr Z h a ty n f) {j : Int32} {i : Nat} (hj : own_ix j i) (W : Wr h h' a j.toNatClampNeg v) : OArr Z h' a ty n (own_upd f i v) := by
  obtain ⟨cl, A, r1, r2, r3⟩ := F
  refine ⟨_, A.same W, by rw [sz_set, r1], r2, fun k hk => ?_⟩
  show (cl.slots.setIfInBounds _ v)[k]? = _
  rw [hj.2]
  unfold own_upd
  by_cases q : k = i
  · subst q; rw [if_pos rfl, Array.getElem?_setIfInBounds_self_of_lt (by omega)]
  · rw [if_neg q, Array.getElem?_setIfInBounds_ne (Ne.symm q)]; exact r3 k hk
theorem own_len (X : Stand p l e R s m args below meth c T locs cells slots) (hx : p.tables.exec = Jvm.exec) (hZ : Z.Warmed39 s.vm) (eT : T.heap = h) (F : OArr Z h a ty n f) (hg : g.method = m) {rest : List Value} (hs : g.stack = .ref a :: rest) (hd : decode c.code g.pc = .ok (.arraylength, 1)) :
    ∀ t, Steps p.tables e below (T.setTop { g with pc := g.pc + 1, stack := .int (Int32.ofNat n) :: rest }) t → Steps p.tables e below (T.setTop g) t := by
  obtain ⟨cl, A, r1, r2, r3⟩ := F
  subst r1
  exact X.arraylength hx (by rw [eT]; exact A.1) (State.isArrayOf_alike hZ.alike A.2.1) hg hs hd
theorem own_ldI (X : Stand p l e R s m args below meth c T locs cells slots) (hx : p.tables.exec = Jvm.exec) (hZ : Z.Warmed39 s.vm) (eT : T.heap = h) (F : OArr Z h a .int n f) {j : Int32} {i : Nat} (hj : own_ix j i) (hi : i < n) (hg : g.method = m) {rest : List Value} (hs : g.stack = .int j :: .ref a :: rest) (hd : decode c.code g.pc = .ok (.iaload, 1)) :
    ∀ t, Steps p.tables e below (T.setTop { g with pc := g.pc + 1, stack := f i :: rest }) t → Steps p.tables e below (T.setTop g) t := by
  obtain ⟨cl, A, r1, r2, r3⟩ := F
  exact X.iaload hx (by rw [eT]; exact A.1) (State.isArrayOf_alike hZ.alike A.2.1) A.2.2 (own_in r1 hj hi) (by rw [hj.2]; exact r3 i hi) hg hs hd
theorem own_ldJ (X : Stand p l e R s m args below meth c T locs cells slots) (hx : p.tables.exec = Jvm.exec) (hZ : Z.Warmed39 s.vm) (eT : T.heap = h) (F : OArr Z h a .long n f) {j : Int32} {i : Nat} (hj : own_ix j i) (hi : i < n) (hg : g.method = m) {rest : List Value} (hs : g.stack = .int j :: .ref a :: rest) (hd : decode c.code g.pc = .ok (.laload, 1)) :
    ∀ t, Steps p.tables e below (T.setTop { g with pc := g.pc + 1, stack := f i :: rest }) t → Steps p.tables e below (T.setTop g) t := by
  obtain ⟨cl, A, r1, r2, r3⟩ := F
  exact X.laload hx (by rw [eT]; exact A.1) (State.isArrayOf_alike hZ.alike A.2.1) A.2.2 (own_in r1 hj hi) (by rw [hj.2]; exact r3 i hi) hg hs hd
theorem own_ldB (X : Stand p l e R s m args below meth c T locs cells slots) (hx : p.tables.exec = Jvm.exec) (hZ : Z.Warmed39 s.vm) (eT : T.heap = h) (F : OArr Z h a .byte n f) {j : Int32} {i : Nat} (hj : own_ix j i) (hi : i < n) (hg : g.method = m) {rest : List Value} (hs : g.stack = .int j :: .ref a :: rest) (hd : decode c.code g.pc = .ok (.baload, 1)) :
    ∀ t, Steps p.tables e below (T.setTop { g with pc := g.pc + 1, stack := f i :: rest }) t → Steps p.tables e below (T.setTop g) t := by
  obtain ⟨cl, A, r1, r2, r3⟩ := F
  exact X.baloadBytes hx (by rw [eT]; exact A.1) (State.isArrayOf_alike hZ.alike A.2.1) A.2.2 (own_in r1 hj hi) (by rw [hj.2]; exact r3 i hi) hg hs hd
theorem own_stI (X : Stand p l e R s m args below meth c T locs cells slots) (hx : p.tables.exec = Jvm.exec) (hZ : Z.Warmed39 s.vm) (eT : T.heap = h) (F : OArr Z h a .int n f) {j x : Int32} {i : Nat} (hj : own_ix j i) (hi : i < n) (hg : g.method = m) {rest : List Value} (hs : g.stack = .int x :: .int j :: .ref a :: rest) (hd : decode c.code g.pc = .ok (.iastore, 1)) :
    ∃ T' h', Stand p l e R s m args below meth c T' (locs ++ [⟨a, j.toNatClampNeg⟩]) cells slots ∧ T'.heap = h' ∧ Wr h h' a j.toNatClampNeg (.int x) ∧ OArr Z h' a .int n (own_upd f i (.int x)) ∧ ∀ t, Steps p.tables e below (T'.setTop { g with pc := g.pc + 1, stack := rest }) t → Steps p.tables e below (T.setTop g) t := by
  obtain ⟨cl, A, r1, r2, r3⟩ := id F
  obtain ⟨T', h', X', e', W, st⟩ := stI X hx hZ eT A (own_in r1 hj hi) hg hs hd
  exact ⟨T', h', X', e', W, F.wr hj W, st⟩
theorem own_stJ (X : Stand p l e R s m args below meth c T locs cells slots) (hx : p.tables.exec = Jvm.exec) (hZ : Z.Warmed39 s.vm) (eT : T.heap = h) (F : OArr Z h a .long n f) {j : Int32} {x : Int64} {i : Nat} (hj : own_ix j i) (hi : i < n) (hg : g.method = m) {rest : List Value} (hs : g.stack = .long x :: .int j :: .ref a :: rest) (hd : decode c.code g.pc = .ok (.lastore, 1)) :
    ∃ T' h', Stand p l e R s m args below meth c T' (locs ++ [⟨a, j.toNatClampNeg⟩]) cells slots ∧ T'.heap = h' ∧ Wr h h' a j.toNatClampNeg (.long x) ∧ OArr Z h' a .long n (own_upd f i (.long x)) ∧ ∀ t, Steps p.tables e below (T'.setTop { g with pc := g.pc + 1, stack := rest }) t → Steps p.tables e below (T.setTop g) t := by
  obtain ⟨cl, A, r1, r2, r3⟩ := id F
  obtain ⟨T', h', X', e', W, st⟩ := stJ X hx hZ eT A (own_in r1 hj hi) hg hs hd
  exact ⟨T', h', X', e', W, F.wr hj W, st⟩
theorem own_newA (X : Stand p l e R s m args below meth c T locs cells slots) (hx : p.tables.exec = Jvm.exec) (hZ : Z.Warmed39 s.vm) {aty : ArrayType} (w : (Cond.arrayClass (newarray.typeOf aty)).before a0 Z = true) (eT : T.heap = h) (hg : g.method = m) (hd : decode c.code g.pc = .ok (.newarray aty, 2)) {z : Int32} {rest : List Value} (hs : g.stack = .int z :: rest)
    (hj : own_ix z n) {cap : Nat} (hcap : n ≤ cap) (hb : cap * 8 ≤ 536870912) (hc : cells + 1 ≤ R.cells) (hl : slots + cap ≤ R.slots) :
    ∃ T' h' b, b = h.size ∧ Stand p l e R s m args below meth c T' locs (cells + 1) (slots + cap) ∧ T'.heap = h' ∧ Ext h h' ∧ OArr Z h' b (newarray.typeOf aty) n (fun _ => defaultValue (newarray.typeOf aty)) ∧
      ∀ t, Steps p.tables e below (T'.setTop { g with pc := g.pc + 2, stack := .ref b :: rest }) t → Steps p.tables e below (T.setTop g) t := by
  obtain ⟨T', h', cA, X', e', E, A, st⟩ := newP X hx hZ w eT hg hd hs hj.1 (cap := cap) (by rw [hj.2]; exact hcap) hb hc hl
  have q := back32 hj.1
  rw [hj.2] at q
  refine ⟨T', h', _, rfl, X', e', E, ⟨_, A, (sz_new _ _ _).trans hj.2, q.2, fun k hk => ?_⟩, st⟩
  show (Array.replicate z.toNatClampNeg (defaultValue (newarray.typeOf aty)))[k]? = _
  rw [hj.2, Array.getElem?_replicate, if_pos hk]
theorem own_keepL {x : Addr} {L : List Addr} (K : Keep h h' L) (q : x ∉ L) {cl : Cell} (hc : h[x]? = some cl) : h'[x]? = some cl := K.2.1 x cl hc q
theorem own_pop2L {tb : Tables} [Ours tb] {target : State} (h : At T m c below) (hx : tb.exec = Jvm.exec) (hg : g.method = m) {x : Int64} {rest : List Value} (hd : decode c.code g.pc = .ok (.pop2, 1)) (hs : g.stack = .long x :: rest)
    (hr : Steps tb e below (T.setTop { g with pc := g.pc + 1, stack := rest }) target) : Steps tb e below (T.setTop g) target := by
  subst hg
  jvm_step h [h.top, hx, hd, hs, Value.category]
  exact hr
end Own
theorem own_d_prog_55_method_6_0 : decode prog_55_method_6_code 0 = .ok (.lload_n 0, 1) := by decide +kernel
theorem own_d_prog_55_method_6_1 : decode prog_55_method_6_code 1 = .ok (.ldc2_w 65, 3) := by decide +kernel
theorem own_d_prog_55_method_6_4 : decode prog_55_method_6_code 4 = .ok (.lcmp, 1) := by decide +kernel
theorem own_d_prog_55_method_6_5 : decode prog_55_method_6_code 5 = .ok (.ifCond .gt 7, 3) := by decide +kernel
theorem own_d_prog_55_method_6_12 : decode prog_55_method_6_code 12 = .ok (.lconst 0, 1) := by decide +kernel
theorem own_d_prog_55_method_6_13 : decode prog_55_method_6_code 13 = .ok (.lreturn, 1) := by decide +kernel
theorem own_d_prog_55_method_6_8 : decode prog_55_method_6_code 8 = .ok (.lload_n 0, 1) := by decide +kernel
theorem own_d_prog_55_method_6_9 : decode prog_55_method_6_code 9 = .ok (.goto 4, 3) := by decide +kernel
theorem own_pn0 : plainName "com/example/crisp_relay/crisprelay/wire/Draft14Codes" = true := by first | (simp [plainName, overriddenIn]; done) | decide +kernel
theorem own_pd0 : parseMethodDescriptor "(J)J" = some ⟨[.long], some .long⟩ := by decide +kernel
theorem own_pn1 : plainName "com/example/crisp_relay/crisprelay/wire/Draft14CodesResetCode14PinLaw" = true := by first | (simp [plainName, overriddenIn]; done) | decide +kernel
theorem own_and64 (x m : Int64) (hm : m.toBitVec.msb = false) : ¬ (x &&& m) < 0 := by
  rw [Int64.lt_iff_toInt_lt]
  show ¬ ((x &&& m).toBitVec).toInt < 0
  rw [Int64.toBitVec_and]
  have : (x.toBitVec &&& m.toBitVec).msb = false := by simp [BitVec.msb_and, hm]
  have := BitVec.toInt_eq_toNat_of_msb this
  omega
def own_rc (c : Int64) : Int64 := if 3 < c then 0 else c
theorem own_rc_lit {c k : Int64} (h : c = k) (hk : ¬ 3 < k) : own_rc c = c := by subst h; exact if_neg hk
theorem own_rc_rc (c : Int64) : own_rc (own_rc c) = own_rc c := by unfold own_rc; split <;> simp_all
theorem own_rc_0 {c : Int64} (hn : ¬ c < 0) (h0 : ¬ c = 0) (h1 : ¬ c = 1) (h2 : ¬ c = 2) (h3 : ¬ c = 3) : own_rc c = 0 := by
  refine if_pos ?_
  rw [Int64.lt_iff_toInt_lt] at *
  rw [← Int64.toInt_inj] at h0 h1 h2 h3
  have e0 : (0 : Int64).toInt = 0 := rfl
  have e1 : (1 : Int64).toInt = 1 := rfl
  have e2 : (2 : Int64).toInt = 2 := rfl
  have e3 : (3 : Int64).toInt = 3 := rfl
  rw [e0] at h0 hn; rw [e1] at h1; rw [e2] at h2; rw [e3] at h3 ⊢
  omega
theorem own_ef_rm1 (m : MethodId) (x0 : Int64) : entryFrame m #[(.long x0)] 2 = mkF m 0 #[.val (.long x0), .second] [] := by first | (simp [entryFrame, mkF, argsToLocals, Value.category]; done) | rfl
def R_rm1 : Room := { frames := 0, cells := 0, slots := 0, locals := 0 }
def Q_rm1 (Z : State) (q0 : Int64) (h0 : Heap) (n0 : Nat) (v : Option Value) (h : Heap) (L : List Loc) : Prop := v = some (.long (own_rc q0)) ∧ Fr n0 L ∧ h = h0
set_option maxRecDepth 65536 in
set_option maxHeartbeats 40000000 in
theorem rm1 (l : Launch) (Z : State) (a0 : Array Value) (hw : ∀ d ∈ tables_1, d.before a0 Z = true) (ws : List Jvm.Cond) (q0 : Int64) (h0 : Heap) (n0 : Nat) (Z0 : n0 ≤ h0.size) :
    MetFree l (⟨"com/example/crisp_relay/crisprelay/wire/Draft14Codes", "resetCode14", "(J)J"⟩ : MethodName) (head1 (Jvm.Cond.code (⟨"com/example/crisp_relay/crisprelay/wire/Draft14Codes", "resetCode14", "(J)J"⟩ : MethodName) prog_55_method_6_code 2 (some .long) :: ws) R_rm1) (fun a U => a = #[(.long q0)] ∧ Z.Warmed39 U.vm ∧ U.heap = h0) (fun _ _ _ _ _ => True) (fun _ U o U' => ∃ v L, o = .returned v ∧ Q_rm1 Z q0 h0 n0 v U'.heap L ∧ FrameEnd U o U' L R_rm1.cells R_rm1.slots) := by
  refine MetFree.of_bodySF (plainFor_of_name own_pn0) hisR ?_
  intro p e s m args below meth c s₁ Bd hml0 hP hK
  obtain ⟨rfl, hZ, hh⟩ := hP
  have hx := Bd.exec
  have hby := Bd.bytes
  have hml : c.maxLocals = 2 := hml0
  have hown : s.vm.findClass "com/example/crisp_relay/crisprelay/wire/Draft14Codes" = some m.cls := findClass_of_methodNamed Bd.named
  have hnm := (name_of_methodNamed Bd.named Bd.method).1
  have hlk : meth.locks = false := BodyLoose.notSynchronized Bd
  have X0 : Stand p l e R_rm1 s m #[(.long q0)] below meth c s₁ [] 0 0 := Stand.of_body Bd
  have e0 : s₁.heap = h0 := by rw [← hh, Bd.state]; rfl
  have N0 := Fr.nil n0
  refine OGo.en (Q := Q_rm1 Z q0 h0 n0) (C := R_rm1.cells) (S := R_rm1.slots) (own_ef_rm1 m q0) ?_
  refine OGo.st (T' := s₁) (g' := (mkF m 5 #[.val (.long q0), .second] [(.int (lcmpW q0 (3 : Int64)))])) (fun _ k => (XS.lloadN X0.here hx rfl (hb hby own_d_prog_55_method_6_0) rfl (X0.ldc2Long hx hown (mvT hZ (hw _ (List.mem_of_getElem? (i := 5) rfl))) (g := (mkF m 1 #[.val (.long q0), .second] [(.long q0)])) rfl (hb hby own_d_prog_55_method_6_1) _ (XS.lcmp X0.here hx rfl (hb hby own_d_prog_55_method_6_4) rfl k)))) ?_
  by_cases hc1 : (3 : Int64) < q0
  · refine OGo.st (T' := s₁) (g' := (mkF m 13 #[.val (.long q0), .second] [(.long (0 : Int64))])) (fun _ k => (XS.ifYes X0.here hx rfl (pc0 := 5) (pc' := 12) rfl (hb hby own_d_prog_55_method_6_5) rfl ((if0 _ _).trans (tlt ((lw_gt q0 (3 : Int64)).mpr hc1)).2.2.1) (by decide) (by decide) (XS.lconst X0.here hx rfl (hb hby own_d_prog_55_method_6_12) k))) ?_
    exact OGo.ret X0 hx hlk Bd.returns rfl own_rJ (hb hby own_d_prog_55_method_6_13) (by decide) (by decide) e0 (⟨congrArg (fun z => some (Value.long z)) (if_pos hc1).symm, N0, rfl⟩)
  · refine OGo.st (T' := s₁) (g' := (mkF m 13 #[.val (.long q0), .second] [(.long q0)])) (fun _ k => (XS.ifNo X0.here hx rfl (hb hby own_d_prog_55_method_6_5) rfl ((if0 _ _).trans (flt (fun q => (hc1) ((lw_gt q0 (3 : Int64)).mp q))).2.2.1) (XS.lloadN X0.here hx rfl (hb hby own_d_prog_55_method_6_8) rfl (XS.goto X0.here hx rfl (pc0 := 9) (pc' := 13) rfl (hb hby own_d_prog_55_method_6_9) (by decide) (by decide) k)))) ?_
    exact OGo.ret X0 hx hlk Bd.returns rfl own_rJ (hb hby own_d_prog_55_method_6_13) (by decide) (by decide) e0 (⟨congrArg (fun z => some (Value.long z)) (if_neg hc1).symm, N0, rfl⟩)
theorem own_ef_rm0 (m : MethodId) (x0 : Int64) : entryFrame m #[(.long x0)] maxLocals = mkF m 0 #[.val (.long x0), .second, .unset, .unset, .unset, .unset, .unset, .unset, .unset, .unset] [] := by first | (simp [entryFrame, mkF, argsToLocals, Value.category, maxLocals]; done) | rfl
def Q_rm0 (Z : State) (p0 : Int64) (h0 : Heap) (n0 : Nat) (v : Option Value) (h : Heap) (L : List Loc) : Prop := v = some (.int 1) ∧ Fr n0 L
set_option maxRecDepth 65536 in
set_option maxHeartbeats 40000000 in
theorem rm0 (l : Launch) (Z : State) (a0 : Array Value) (hw : ∀ d ∈ tables_1, d.before a0 Z = true) (ws : List Jvm.Cond) (p0 : Int64) (h0 : Heap) (n0 : Nat) (Z0 : n0 ≤ h0.size) :
    MetFree l x (head1 (Jvm.Cond.code x code maxLocals ret :: ws) room_1) (fun a U => a = #[(.long p0)] ∧ Z.Warmed39 U.vm ∧ U.heap = h0) (fun _ _ _ _ _ => True) (fun _ U o U' => ∃ v L, o = .returned v ∧ Q_rm0 Z p0 h0 n0 v U'.heap L ∧ FrameEnd U o U' L 0 0) := by
  refine MetFree.of_bodySF (plainFor_of_name own_pn1) hisR ?_
  intro p e s m args below meth c s₁ Bd hml0 hP hK
  obtain ⟨rfl, hZ, hh⟩ := hP
  have hx := Bd.exec
  have hby := Bd.bytes
  have hml : c.maxLocals = 10 := hml0
  have hown : s.vm.findClass "com/example/crisp_relay/crisprelay/wire/Draft14CodesResetCode14PinLaw" = some m.cls := findClass_of_methodNamed Bd.named
  have hnm := (name_of_methodNamed Bd.named Bd.method).1
  have hlk : meth.locks = false := BodyLoose.notSynchronized Bd
  have X0 : Stand p l e room_1 s m #[(.long p0)] below meth c s₁ [] 0 0 := Stand.of_body Bd
  have e0 : s₁.heap = h0 := by rw [← hh, Bd.state]; rfl
  have N0 := Fr.nil n0
  refine OGo.en (Q := Q_rm0 Z p0 h0 n0) (C := 0) (S := 0) (own_ef_rm0 m p0) ?_
  refine OGo.st (T' := s₁) (g' := (mkF m 7 #[.val (.long p0), .second, .val (.long (p0 &&& (4611686018427387903 : Int64))), .second, .unset, .unset, .unset, .unset, .unset, .unset] [(.long (p0 &&& (4611686018427387903 : Int64)))])) (fun _ k => (XS.lloadN X0.here hx rfl (hb hby at_0) rfl (X0.ldc2Long hx hown (mvT hZ (hw _ (List.mem_of_getElem? (i := 0) rfl))) (g := (mkF m 1 #[.val (.long p0), .second, .unset, .unset, .unset, .unset, .unset, .unset, .unset, .unset] [(.long p0)])) rfl (hb hby at_1) _ (XS.land X0.here hx rfl (hb hby at_4) rfl (XS.lstoreN X0.here hx rfl (hb hby at_5) rfl (l' := #[.val (.long p0), .second, .val (.long (p0 &&& (4611686018427387903 : Int64))), .second, .unset, .unset, .unset, .unset, .unset, .unset]) rfl (XS.lloadN X0.here hx rfl (hb hby at_6) rfl k)))))) ?_
  obtain ⟨_, _, ⟨T1, L1, k1, n1⟩, -, X1, ⟨Lc1, hQ1, l1, y1, z1⟩, st1⟩ := Jvm.LawKit.callS X0 hx (y := (⟨"com/example/crisp_relay/crisprelay/wire/Draft14Codes", "resetCode14", "(J)J"⟩ : MethodName)) hown (mvT hZ (hw _ (List.mem_of_getElem? (i := 1) rfl))) (mvT hZ (hw _ (List.mem_of_getElem? (i := 2) rfl))) (mvT hZ (hw _ (List.mem_of_getElem? (i := 3) rfl))) (mvT hZ (hw _ (List.mem_of_getElem? (i := 4) rfl))) (by decide) (backOf (W := 0) (rm1 l Z a0 hw [] ((p0 &&& (4611686018427387903 : Int64))) h0 n0 Z0 ) hZ (hw _ (List.mem_of_getElem? (i := 4) rfl)) (hw _ (List.mem_of_getElem? (i := 3) rfl)) (by decide) (by decide)) (g := (mkF m 7 #[.val (.long p0), .second, .val (.long (p0 &&& (4611686018427387903 : Int64))), .second, .unset, .unset, .unset, .unset, .unset, .unset] [(.long (p0 &&& (4611686018427387903 : Int64)))])) rfl (by rw [hml]; rfl) (argsL := [(.long (p0 &&& (4611686018427387903 : Int64)))]) (rest := []) (lenOf own_pd0 rfl) rfl (by show 2 * 0 + _ ≤ _; exact Nat.le_of_eq rfl) (hb hby at_7) (fun _ _ => ⟨rfl, e0, (by decide : 0 + 0 ≤ _), (by decide : 0 + 0 ≤ _)⟩)
  dsimp only [Pt.U, Pt.locs, Pt.cells, Pt.slots] at X1 l1 y1 z1 st1 hQ1
  subst l1 y1 z1
  have X1 : Stand p l e room_1 s m _ below meth c T1 _ 0 0 := X1
  obtain ⟨rfl, N1, e1⟩ := hQ1
  have N1 := Fr.app N0 N1
  refine OGo.st (T' := T1) (g' := (mkF m 10 #[.val (.long p0), .second, .val (.long (p0 &&& (4611686018427387903 : Int64))), .second, .unset, .unset, .unset, .unset, .unset, .unset] [(.long (own_rc (p0 &&& (4611686018427387903 : Int64))))])) (fun _ k => st1 _ k) ?_
  refine OGo.st (T' := T1) (g' := (mkF m 15 #[.val (.long p0), .second, .val (.long (p0 &&& (4611686018427387903 : Int64))), .second, .val (.long (own_rc (p0 &&& (4611686018427387903 : Int64)))), .second, .unset, .unset, .unset, .unset] [(.int (lcmpW (p0 &&& (4611686018427387903 : Int64)) (0 : Int64)))])) (fun _ k => (XS.lstore X1.here hx rfl (hb hby at_10) rfl (l' := #[.val (.long p0), .second, .val (.long (p0 &&& (4611686018427387903 : Int64))), .second, .val (.long (own_rc (p0 &&& (4611686018427387903 : Int64)))), .second, .unset, .unset, .unset, .unset]) rfl (XS.lloadN X1.here hx rfl (hb hby at_12) rfl (XS.lconst X1.here hx rfl (hb hby at_13) (XS.lcmp X1.here hx rfl (hb hby at_14) rfl k))))) ?_
  by_cases hc2 : (p0 &&& (4611686018427387903 : Int64)) = (0 : Int64)
  · refine OGo.st (T' := T1) (g' := (mkF m 52 #[.val (.long p0), .second, .val (.long (p0 &&& (4611686018427387903 : Int64))), .second, .val (.long (own_rc (p0 &&& (4611686018427387903 : Int64)))), .second, .val (.int (1 : Int32)), .unset, .unset, .unset] [])) (fun _ k => (XS.ifYes X1.here hx rfl (pc0 := 15) (pc' := 40) rfl (hb hby at_15) rfl ((if0 _ _).trans (teq ((lw_eq (p0 &&& (4611686018427387903 : Int64)) (0 : Int64)).mpr hc2)).1) (by decide) (by decide) (XS.iconst X1.here hx rfl (hb hby at_40) (XS.goto X1.here hx rfl (pc0 := 41) (pc' := 45) rfl (hb hby at_41) (by decide) (by decide) (XS.istore X1.here hx rfl (hb hby at_45) rfl (l' := #[.val (.long p0), .second, .val (.long (p0 &&& (4611686018427387903 : Int64))), .second, .val (.long (own_rc (p0 &&& (4611686018427387903 : Int64)))), .second, .val (.int (1 : Int32)), .unset, .unset, .unset]) rfl (XS.iload X1.here hx rfl (hb hby at_47) rfl (XS.ifNo X1.here hx rfl (hb hby at_49) rfl ((if0 _ _).trans (feq (by decide : ¬ ((1 : Int32) = (0 : Int32)))).1) k))))))) ?_
    refine OGo.st (T' := T1) (g' := (mkF m 79 #[.val (.long p0), .second, .val (.long (p0 &&& (4611686018427387903 : Int64))), .second, .val (.long (own_rc (p0 &&& (4611686018427387903 : Int64)))), .second, .val (.int (1 : Int32)), .unset, .unset, .unset] [(.int (1 : Int32))])) (fun _ k => (XS.lload X1.here hx rfl (hb hby at_52) rfl (XS.lloadN X1.here hx rfl (hb hby at_54) rfl (XS.lcmp X1.here hx rfl (hb hby at_55) rfl (XS.ifNo X1.here hx rfl (hb hby at_56) rfl ((if0 _ _).trans (teq ((lw_eq (own_rc (p0 &&& (4611686018427387903 : Int64))) (p0 &&& (4611686018427387903 : Int64))).mpr (own_rc_lit hc2 (by decide) : own_rc (p0 &&& (4611686018427387903 : Int64)) = (p0 &&& (4611686018427387903 : Int64))))).2) (XS.iconst X1.here hx rfl (hb hby at_59) (XS.goto X1.here hx rfl (pc0 := 60) (pc' := 79) rfl (hb hby at_60) (by decide) (by decide) k))))))) ?_
    refine OGo.st (T' := T1) (g' := (mkF m 83 #[.val (.long p0), .second, .val (.long (p0 &&& (4611686018427387903 : Int64))), .second, .val (.long (own_rc (p0 &&& (4611686018427387903 : Int64)))), .second, .val (.int (1 : Int32)), .val (.int (1 : Int32)), .unset, .unset] [(.long (own_rc (p0 &&& (4611686018427387903 : Int64))))])) (fun _ k => (XS.istore X1.here hx rfl (hb hby at_79) rfl (l' := #[.val (.long p0), .second, .val (.long (p0 &&& (4611686018427387903 : Int64))), .second, .val (.long (own_rc (p0 &&& (4611686018427387903 : Int64)))), .second, .val (.int (1 : Int32)), .val (.int (1 : Int32)), .unset, .unset]) rfl (XS.lload X1.here hx rfl (hb hby at_81) rfl k))) ?_
    obtain ⟨_, _, ⟨T3, L3, k3, n3⟩, -, X3, ⟨Lc3, hQ3, l3, y3, z3⟩, st3⟩ := Jvm.LawKit.callS X1 hx (y := (⟨"com/example/crisp_relay/crisprelay/wire/Draft14Codes", "resetCode14", "(J)J"⟩ : MethodName)) hown (mvT hZ (hw _ (List.mem_of_getElem? (i := 1) rfl))) (mvT hZ (hw _ (List.mem_of_getElem? (i := 2) rfl))) (mvT hZ (hw _ (List.mem_of_getElem? (i := 3) rfl))) (mvT hZ (hw _ (List.mem_of_getElem? (i := 4) rfl))) (by decide) (backOf (W := 0) (rm1 l Z a0 hw [] ((own_rc (p0 &&& (4611686018427387903 : Int64)))) h0 n0 Z0 ) hZ (hw _ (List.mem_of_getElem? (i := 4) rfl)) (hw _ (List.mem_of_getElem? (i := 3) rfl)) (by decide) (by decide)) (g := (mkF m 83 #[.val (.long p0), .second, .val (.long (p0 &&& (4611686018427387903 : Int64))), .second, .val (.long (own_rc (p0 &&& (4611686018427387903 : Int64)))), .second, .val (.int (1 : Int32)), .val (.int (1 : Int32)), .unset, .unset] [(.long (own_rc (p0 &&& (4611686018427387903 : Int64))))])) rfl (by rw [hml]; rfl) (argsL := [(.long (own_rc (p0 &&& (4611686018427387903 : Int64))))]) (rest := []) (lenOf own_pd0 rfl) rfl (by show 2 * 0 + _ ≤ _; exact Nat.le_of_eq rfl) (hb hby at_83) (fun _ _ => ⟨rfl, e1, (by decide : 0 + 0 ≤ _), (by decide : 0 + 0 ≤ _)⟩)
    dsimp only [Pt.U, Pt.locs, Pt.cells, Pt.slots] at X3 l3 y3 z3 st3 hQ3
    subst l3 y3 z3
    have X3 : Stand p l e room_1 s m _ below meth c T3 _ 0 0 := X3
    obtain ⟨rfl, N3, e3⟩ := hQ3
    have N3 := Fr.app N1 N3
    refine OGo.st (T' := T3) (g' := (mkF m 86 #[.val (.long p0), .second, .val (.long (p0 &&& (4611686018427387903 : Int64))), .second, .val (.long (own_rc (p0 &&& (4611686018427387903 : Int64)))), .second, .val (.int (1 : Int32)), .val (.int (1 : Int32)), .unset, .unset] [(.long (own_rc (own_rc (p0 &&& (4611686018427387903 : Int64)))))])) (fun _ k => st3 _ k) ?_
    refine OGo.st (T' := T3) (g' := (mkF m 98 #[.val (.long p0), .second, .val (.long (p0 &&& (4611686018427387903 : Int64))), .second, .val (.long (own_rc (p0 &&& (4611686018427387903 : Int64)))), .second, .val (.int (1 : Int32)), .val (.int (1 : Int32)), .val (.long (own_rc (own_rc (p0 &&& (4611686018427387903 : Int64))))), .second] [(.int (lcmpW (own_rc (own_rc (p0 &&& (4611686018427387903 : Int64)))) (own_rc (p0 &&& (4611686018427387903 : Int64)))))])) (fun _ k => (XS.lstore X3.here hx rfl (hb hby at_86) rfl (l' := #[.val (.long p0), .second, .val (.long (p0 &&& (4611686018427387903 : Int64))), .second, .val (.long (own_rc (p0 &&& (4611686018427387903 : Int64)))), .second, .val (.int (1 : Int32)), .val (.int (1 : Int32)), .val (.long (own_rc (own_rc (p0 &&& (4611686018427387903 : Int64))))), .second]) rfl (XS.iload X3.here hx rfl (hb hby at_88) rfl (XS.ifNo X3.here hx rfl (hb hby at_90) rfl ((if0 _ _).trans (feq (by decide : ¬ ((1 : Int32) = (0 : Int32)))).1) (XS.lload X3.here hx rfl (hb hby at_93) rfl (XS.lload X3.here hx rfl (hb hby at_95) rfl (XS.lcmp X3.here hx rfl (hb hby at_97) rfl k))))))) ?_
    refine OGo.st (T' := T3) (g' := (mkF m 106 #[.val (.long p0), .second, .val (.long (p0 &&& (4611686018427387903 : Int64))), .second, .val (.long (own_rc (p0 &&& (4611686018427387903 : Int64)))), .second, .val (.int (1 : Int32)), .val (.int (1 : Int32)), .val (.long (own_rc (own_rc (p0 &&& (4611686018427387903 : Int64))))), .second] [(.int (1 : Int32))])) (fun _ k => (XS.ifNo X3.here hx rfl (hb hby at_98) rfl ((if0 _ _).trans (teq ((lw_eq (own_rc (own_rc (p0 &&& (4611686018427387903 : Int64)))) (own_rc (p0 &&& (4611686018427387903 : Int64)))).mpr (own_rc_rc _ : (own_rc (own_rc (p0 &&& (4611686018427387903 : Int64)))) = (own_rc (p0 &&& (4611686018427387903 : Int64)))))).2) (XS.iconst X3.here hx rfl (hb hby at_101) (XS.goto X3.here hx rfl (pc0 := 102) (pc' := 106) rfl (hb hby at_102) (by decide) (by decide) k)))) ?_
    exact OGo.ret X3 hx hlk Bd.returns rfl (own_rI (Or.inr (Or.inl rfl))) (hb hby at_106) (by decide) (by decide) e3 (⟨rfl, N3⟩)
  · refine OGo.st (T' := T1) (g' := (mkF m 21 #[.val (.long p0), .second, .val (.long (p0 &&& (4611686018427387903 : Int64))), .second, .val (.long (own_rc (p0 &&& (4611686018427387903 : Int64)))), .second, .unset, .unset, .unset, .unset] [(.int (lcmpW (p0 &&& (4611686018427387903 : Int64)) (1 : Int64)))])) (fun _ k => (XS.ifNo X1.here hx rfl (hb hby at_15) rfl ((if0 _ _).trans (feq (fun q => (hc2) ((lw_eq (p0 &&& (4611686018427387903 : Int64)) (0 : Int64)).mp q))).1) (XS.lloadN X1.here hx rfl (hb hby at_18) rfl (XS.lconst X1.here hx rfl (hb hby at_19) (XS.lcmp X1.here hx rfl (hb hby at_20) rfl k))))) ?_
    by_cases hc4 : (p0 &&& (4611686018427387903 : Int64)) = (1 : Int64)
    · refine OGo.st (T' := T1) (g' := (mkF m 52 #[.val (.long p0), .second, .val (.long (p0 &&& (4611686018427387903 : Int64))), .second, .val (.long (own_rc (p0 &&& (4611686018427387903 : Int64)))), .second, .val (.int (1 : Int32)), .unset, .unset, .unset] [])) (fun _ k => (XS.ifYes X1.here hx rfl (pc0 := 21) (pc' := 40) rfl (hb hby at_21) rfl ((if0 _ _).trans (teq ((lw_eq (p0 &&& (4611686018427387903 : Int64)) (1 : Int64)).mpr hc4)).1) (by decide) (by decide) (XS.iconst X1.here hx rfl (hb hby at_40) (XS.goto X1.here hx rfl (pc0 := 41) (pc' := 45) rfl (hb hby at_41) (by decide) (by decide) (XS.istore X1.here hx rfl (hb hby at_45) rfl (l' := #[.val (.long p0), .second, .val (.long (p0 &&& (4611686018427387903 : Int64))), .second, .val (.long (own_rc (p0 &&& (4611686018427387903 : Int64)))), .second, .val (.int (1 : Int32)), .unset, .unset, .unset]) rfl (XS.iload X1.here hx rfl (hb hby at_47) rfl (XS.ifNo X1.here hx rfl (hb hby at_49) rfl ((if0 _ _).trans (feq (by decide : ¬ ((1 : Int32) = (0 : Int32)))).1) k))))))) ?_
      refine OGo.st (T' := T1) (g' := (mkF m 79 #[.val (.long p0), .second, .val (.long (p0 &&& (4611686018427387903 : Int64))), .second, .val (.long (own_rc (p0 &&& (4611686018427387903 : Int64)))), .second, .val (.int (1 : Int32)), .unset, .unset, .unset] [(.int (1 : Int32))])) (fun _ k => (XS.lload X1.here hx rfl (hb hby at_52) rfl (XS.lloadN X1.here hx rfl (hb hby at_54) rfl (XS.lcmp X1.here hx rfl (hb hby at_55) rfl (XS.ifNo X1.here hx rfl (hb hby at_56) rfl ((if0 _ _).trans (teq ((lw_eq (own_rc (p0 &&& (4611686018427387903 : Int64))) (p0 &&& (4611686018427387903 : Int64))).mpr (own_rc_lit hc4 (by decide) : own_rc (p0 &&& (4611686018427387903 : Int64)) = (p0 &&& (4611686018427387903 : Int64))))).2) (XS.iconst X1.here hx rfl (hb hby at_59) (XS.goto X1.here hx rfl (pc0 := 60) (pc' := 79) rfl (hb hby at_60) (by decide) (by decide) k))))))) ?_
      refine OGo.st (T' := T1) (g' := (mkF m 83 #[.val (.long p0), .second, .val (.long (p0 &&& (4611686018427387903 : Int64))), .second, .val (.long (own_rc (p0 &&& (4611686018427387903 : Int64)))), .second, .val (.int (1 : Int32)), .val (.int (1 : Int32)), .unset, .unset] [(.long (own_rc (p0 &&& (4611686018427387903 : Int64))))])) (fun _ k => (XS.istore X1.here hx rfl (hb hby at_79) rfl (l' := #[.val (.long p0), .second, .val (.long (p0 &&& (4611686018427387903 : Int64))), .second, .val (.long (own_rc (p0 &&& (4611686018427387903 : Int64)))), .second, .val (.int (1 : Int32)), .val (.int (1 : Int32)), .unset, .unset]) rfl (XS.lload X1.here hx rfl (hb hby at_81) rfl k))) ?_
      obtain ⟨_, _, ⟨T5, L5, k5, n5⟩, -, X5, ⟨Lc5, hQ5, l5, y5, z5⟩, st5⟩ := Jvm.LawKit.callS X1 hx (y := (⟨"com/example/crisp_relay/crisprelay/wire/Draft14Codes", "resetCode14", "(J)J"⟩ : MethodName)) hown (mvT hZ (hw _ (List.mem_of_getElem? (i := 1) rfl))) (mvT hZ (hw _ (List.mem_of_getElem? (i := 2) rfl))) (mvT hZ (hw _ (List.mem_of_getElem? (i := 3) rfl))) (mvT hZ (hw _ (List.mem_of_getElem? (i := 4) rfl))) (by decide) (backOf (W := 0) (rm1 l Z a0 hw [] ((own_rc (p0 &&& (4611686018427387903 : Int64)))) h0 n0 Z0 ) hZ (hw _ (List.mem_of_getElem? (i := 4) rfl)) (hw _ (List.mem_of_getElem? (i := 3) rfl)) (by decide) (by decide)) (g := (mkF m 83 #[.val (.long p0), .second, .val (.long (p0 &&& (4611686018427387903 : Int64))), .second, .val (.long (own_rc (p0 &&& (4611686018427387903 : Int64)))), .second, .val (.int (1 : Int32)), .val (.int (1 : Int32)), .unset, .unset] [(.long (own_rc (p0 &&& (4611686018427387903 : Int64))))])) rfl (by rw [hml]; rfl) (argsL := [(.long (own_rc (p0 &&& (4611686018427387903 : Int64))))]) (rest := []) (lenOf own_pd0 rfl) rfl (by show 2 * 0 + _ ≤ _; exact Nat.le_of_eq rfl) (hb hby at_83) (fun _ _ => ⟨rfl, e1, (by decide : 0 + 0 ≤ _), (by decide : 0 + 0 ≤ _)⟩)
      dsimp only [Pt.U, Pt.locs, Pt.cells, Pt.slots] at X5 l5 y5 z5 st5 hQ5
      subst l5 y5 z5
      have X5 : Stand p l e room_1 s m _ below meth c T5 _ 0 0 := X5
      obtain ⟨rfl, N5, e5⟩ := hQ5
      have N5 := Fr.app N1 N5
      refine OGo.st (T' := T5) (g' := (mkF m 86 #[.val (.long p0), .second, .val (.long (p0 &&& (4611686018427387903 : Int64))), .second, .val (.long (own_rc (p0 &&& (4611686018427387903 : Int64)))), .second, .val (.int (1 : Int32)), .val (.int (1 : Int32)), .unset, .unset] [(.long (own_rc (own_rc (p0 &&& (4611686018427387903 : Int64)))))])) (fun _ k => st5 _ k) ?_
      refine OGo.st (T' := T5) (g' := (mkF m 98 #[.val (.long p0), .second, .val (.long (p0 &&& (4611686018427387903 : Int64))), .second, .val (.long (own_rc (p0 &&& (4611686018427387903 : Int64)))), .second, .val (.int (1 : Int32)), .val (.int (1 : Int32)), .val (.long (own_rc (own_rc (p0 &&& (4611686018427387903 : Int64))))), .second] [(.int (lcmpW (own_rc (own_rc (p0 &&& (4611686018427387903 : Int64)))) (own_rc (p0 &&& (4611686018427387903 : Int64)))))])) (fun _ k => (XS.lstore X5.here hx rfl (hb hby at_86) rfl (l' := #[.val (.long p0), .second, .val (.long (p0 &&& (4611686018427387903 : Int64))), .second, .val (.long (own_rc (p0 &&& (4611686018427387903 : Int64)))), .second, .val (.int (1 : Int32)), .val (.int (1 : Int32)), .val (.long (own_rc (own_rc (p0 &&& (4611686018427387903 : Int64))))), .second]) rfl (XS.iload X5.here hx rfl (hb hby at_88) rfl (XS.ifNo X5.here hx rfl (hb hby at_90) rfl ((if0 _ _).trans (feq (by decide : ¬ ((1 : Int32) = (0 : Int32)))).1) (XS.lload X5.here hx rfl (hb hby at_93) rfl (XS.lload X5.here hx rfl (hb hby at_95) rfl (XS.lcmp X5.here hx rfl (hb hby at_97) rfl k))))))) ?_
      refine OGo.st (T' := T5) (g' := (mkF m 106 #[.val (.long p0), .second, .val (.long (p0 &&& (4611686018427387903 : Int64))), .second, .val (.long (own_rc (p0 &&& (4611686018427387903 : Int64)))), .second, .val (.int (1 : Int32)), .val (.int (1 : Int32)), .val (.long (own_rc (own_rc (p0 &&& (4611686018427387903 : Int64))))), .second] [(.int (1 : Int32))])) (fun _ k => (XS.ifNo X5.here hx rfl (hb hby at_98) rfl ((if0 _ _).trans (teq ((lw_eq (own_rc (own_rc (p0 &&& (4611686018427387903 : Int64)))) (own_rc (p0 &&& (4611686018427387903 : Int64)))).mpr (own_rc_rc _ : (own_rc (own_rc (p0 &&& (4611686018427387903 : Int64)))) = (own_rc (p0 &&& (4611686018427387903 : Int64)))))).2) (XS.iconst X5.here hx rfl (hb hby at_101) (XS.goto X5.here hx rfl (pc0 := 102) (pc' := 106) rfl (hb hby at_102) (by decide) (by decide) k)))) ?_
      exact OGo.ret X5 hx hlk Bd.returns rfl (own_rI (Or.inr (Or.inl rfl))) (hb hby at_106) (by decide) (by decide) e5 (⟨rfl, N5⟩)
    · refine OGo.st (T' := T1) (g' := (mkF m 29 #[.val (.long p0), .second, .val (.long (p0 &&& (4611686018427387903 : Int64))), .second, .val (.long (own_rc (p0 &&& (4611686018427387903 : Int64)))), .second, .unset, .unset, .unset, .unset] [(.int (lcmpW (p0 &&& (4611686018427387903 : Int64)) (2 : Int64)))])) (fun _ k => (XS.ifNo X1.here hx rfl (hb hby at_21) rfl ((if0 _ _).trans (feq (fun q => (hc4) ((lw_eq (p0 &&& (4611686018427387903 : Int64)) (1 : Int64)).mp q))).1) (XS.lloadN X1.here hx rfl (hb hby at_24) rfl (X1.ldc2Long hx hown (mvT hZ (hw _ (List.mem_of_getElem? (i := 6) rfl))) (g := (mkF m 25 #[.val (.long p0), .second, .val (.long (p0 &&& (4611686018427387903 : Int64))), .second, .val (.long (own_rc (p0 &&& (4611686018427387903 : Int64)))), .second, .unset, .unset, .unset, .unset] [(.long (p0 &&& (4611686018427387903 : Int64)))])) rfl (hb hby at_25) _ (XS.lcmp X1.here hx rfl (hb hby at_28) rfl k))))) ?_
      by_cases hc6 : (p0 &&& (4611686018427387903 : Int64)) = (2 : Int64)
      · refine OGo.st (T' := T1) (g' := (mkF m 52 #[.val (.long p0), .second, .val (.long (p0 &&& (4611686018427387903 : Int64))), .second, .val (.long (own_rc (p0 &&& (4611686018427387903 : Int64)))), .second, .val (.int (1 : Int32)), .unset, .unset, .unset] [])) (fun _ k => (XS.ifYes X1.here hx rfl (pc0 := 29) (pc' := 40) rfl (hb hby at_29) rfl ((if0 _ _).trans (teq ((lw_eq (p0 &&& (4611686018427387903 : Int64)) (2 : Int64)).mpr hc6)).1) (by decide) (by decide) (XS.iconst X1.here hx rfl (hb hby at_40) (XS.goto X1.here hx rfl (pc0 := 41) (pc' := 45) rfl (hb hby at_41) (by decide) (by decide) (XS.istore X1.here hx rfl (hb hby at_45) rfl (l' := #[.val (.long p0), .second, .val (.long (p0 &&& (4611686018427387903 : Int64))), .second, .val (.long (own_rc (p0 &&& (4611686018427387903 : Int64)))), .second, .val (.int (1 : Int32)), .unset, .unset, .unset]) rfl (XS.iload X1.here hx rfl (hb hby at_47) rfl (XS.ifNo X1.here hx rfl (hb hby at_49) rfl ((if0 _ _).trans (feq (by decide : ¬ ((1 : Int32) = (0 : Int32)))).1) k))))))) ?_
        refine OGo.st (T' := T1) (g' := (mkF m 79 #[.val (.long p0), .second, .val (.long (p0 &&& (4611686018427387903 : Int64))), .second, .val (.long (own_rc (p0 &&& (4611686018427387903 : Int64)))), .second, .val (.int (1 : Int32)), .unset, .unset, .unset] [(.int (1 : Int32))])) (fun _ k => (XS.lload X1.here hx rfl (hb hby at_52) rfl (XS.lloadN X1.here hx rfl (hb hby at_54) rfl (XS.lcmp X1.here hx rfl (hb hby at_55) rfl (XS.ifNo X1.here hx rfl (hb hby at_56) rfl ((if0 _ _).trans (teq ((lw_eq (own_rc (p0 &&& (4611686018427387903 : Int64))) (p0 &&& (4611686018427387903 : Int64))).mpr (own_rc_lit hc6 (by decide) : own_rc (p0 &&& (4611686018427387903 : Int64)) = (p0 &&& (4611686018427387903 : Int64))))).2) (XS.iconst X1.here hx rfl (hb hby at_59) (XS.goto X1.here hx rfl (pc0 := 60) (pc' := 79) rfl (hb hby at_60) (by decide) (by decide) k))))))) ?_
        refine OGo.st (T' := T1) (g' := (mkF m 83 #[.val (.long p0), .second, .val (.long (p0 &&& (4611686018427387903 : Int64))), .second, .val (.long (own_rc (p0 &&& (4611686018427387903 : Int64)))), .second, .val (.int (1 : Int32)), .val (.int (1 : Int32)), .unset, .unset] [(.long (own_rc (p0 &&& (4611686018427387903 : Int64))))])) (fun _ k => (XS.istore X1.here hx rfl (hb hby at_79) rfl (l' := #[.val (.long p0), .second, .val (.long (p0 &&& (4611686018427387903 : Int64))), .second, .val (.long (own_rc (p0 &&& (4611686018427387903 : Int64)))), .second, .val (.int (1 : Int32)), .val (.int (1 : Int32)), .unset, .unset]) rfl (XS.lload X1.here hx rfl (hb hby at_81) rfl k))) ?_
        obtain ⟨_, _, ⟨T7, L7, k7, n7⟩, -, X7, ⟨Lc7, hQ7, l7, y7, z7⟩, st7⟩ := Jvm.LawKit.callS X1 hx (y := (⟨"com/example/crisp_relay/crisprelay/wire/Draft14Codes", "resetCode14", "(J)J"⟩ : MethodName)) hown (mvT hZ (hw _ (List.mem_of_getElem? (i := 1) rfl))) (mvT hZ (hw _ (List.mem_of_getElem? (i := 2) rfl))) (mvT hZ (hw _ (List.mem_of_getElem? (i := 3) rfl))) (mvT hZ (hw _ (List.mem_of_getElem? (i := 4) rfl))) (by decide) (backOf (W := 0) (rm1 l Z a0 hw [] ((own_rc (p0 &&& (4611686018427387903 : Int64)))) h0 n0 Z0 ) hZ (hw _ (List.mem_of_getElem? (i := 4) rfl)) (hw _ (List.mem_of_getElem? (i := 3) rfl)) (by decide) (by decide)) (g := (mkF m 83 #[.val (.long p0), .second, .val (.long (p0 &&& (4611686018427387903 : Int64))), .second, .val (.long (own_rc (p0 &&& (4611686018427387903 : Int64)))), .second, .val (.int (1 : Int32)), .val (.int (1 : Int32)), .unset, .unset] [(.long (own_rc (p0 &&& (4611686018427387903 : Int64))))])) rfl (by rw [hml]; rfl) (argsL := [(.long (own_rc (p0 &&& (4611686018427387903 : Int64))))]) (rest := []) (lenOf own_pd0 rfl) rfl (by show 2 * 0 + _ ≤ _; exact Nat.le_of_eq rfl) (hb hby at_83) (fun _ _ => ⟨rfl, e1, (by decide : 0 + 0 ≤ _), (by decide : 0 + 0 ≤ _)⟩)
        dsimp only [Pt.U, Pt.locs, Pt.cells, Pt.slots] at X7 l7 y7 z7 st7 hQ7
        subst l7 y7 z7
        have X7 : Stand p l e room_1 s m _ below meth c T7 _ 0 0 := X7
        obtain ⟨rfl, N7, e7⟩ := hQ7
        have N7 := Fr.app N1 N7
        refine OGo.st (T' := T7) (g' := (mkF m 86 #[.val (.long p0), .second, .val (.long (p0 &&& (4611686018427387903 : Int64))), .second, .val (.long (own_rc (p0 &&& (4611686018427387903 : Int64)))), .second, .val (.int (1 : Int32)), .val (.int (1 : Int32)), .unset, .unset] [(.long (own_rc (own_rc (p0 &&& (4611686018427387903 : Int64)))))])) (fun _ k => st7 _ k) ?_
        refine OGo.st (T' := T7) (g' := (mkF m 98 #[.val (.long p0), .second, .val (.long (p0 &&& (4611686018427387903 : Int64))), .second, .val (.long (own_rc (p0 &&& (4611686018427387903 : Int64)))), .second, .val (.int (1 : Int32)), .val (.int (1 : Int32)), .val (.long (own_rc (own_rc (p0 &&& (4611686018427387903 : Int64))))), .second] [(.int (lcmpW (own_rc (own_rc (p0 &&& (4611686018427387903 : Int64)))) (own_rc (p0 &&& (4611686018427387903 : Int64)))))])) (fun _ k => (XS.lstore X7.here hx rfl (hb hby at_86) rfl (l' := #[.val (.long p0), .second, .val (.long (p0 &&& (4611686018427387903 : Int64))), .second, .val (.long (own_rc (p0 &&& (4611686018427387903 : Int64)))), .second, .val (.int (1 : Int32)), .val (.int (1 : Int32)), .val (.long (own_rc (own_rc (p0 &&& (4611686018427387903 : Int64))))), .second]) rfl (XS.iload X7.here hx rfl (hb hby at_88) rfl (XS.ifNo X7.here hx rfl (hb hby at_90) rfl ((if0 _ _).trans (feq (by decide : ¬ ((1 : Int32) = (0 : Int32)))).1) (XS.lload X7.here hx rfl (hb hby at_93) rfl (XS.lload X7.here hx rfl (hb hby at_95) rfl (XS.lcmp X7.here hx rfl (hb hby at_97) rfl k))))))) ?_
        refine OGo.st (T' := T7) (g' := (mkF m 106 #[.val (.long p0), .second, .val (.long (p0 &&& (4611686018427387903 : Int64))), .second, .val (.long (own_rc (p0 &&& (4611686018427387903 : Int64)))), .second, .val (.int (1 : Int32)), .val (.int (1 : Int32)), .val (.long (own_rc (own_rc (p0 &&& (4611686018427387903 : Int64))))), .second] [(.int (1 : Int32))])) (fun _ k => (XS.ifNo X7.here hx rfl (hb hby at_98) rfl ((if0 _ _).trans (teq ((lw_eq (own_rc (own_rc (p0 &&& (4611686018427387903 : Int64)))) (own_rc (p0 &&& (4611686018427387903 : Int64)))).mpr (own_rc_rc _ : (own_rc (own_rc (p0 &&& (4611686018427387903 : Int64)))) = (own_rc (p0 &&& (4611686018427387903 : Int64)))))).2) (XS.iconst X7.here hx rfl (hb hby at_101) (XS.goto X7.here hx rfl (pc0 := 102) (pc' := 106) rfl (hb hby at_102) (by decide) (by decide) k)))) ?_
        exact OGo.ret X7 hx hlk Bd.returns rfl (own_rI (Or.inr (Or.inl rfl))) (hb hby at_106) (by decide) (by decide) e7 (⟨rfl, N7⟩)
      · refine OGo.st (T' := T1) (g' := (mkF m 37 #[.val (.long p0), .second, .val (.long (p0 &&& (4611686018427387903 : Int64))), .second, .val (.long (own_rc (p0 &&& (4611686018427387903 : Int64)))), .second, .unset, .unset, .unset, .unset] [(.int (lcmpW (p0 &&& (4611686018427387903 : Int64)) (3 : Int64)))])) (fun _ k => (XS.ifNo X1.here hx rfl (hb hby at_29) rfl ((if0 _ _).trans (feq (fun q => (hc6) ((lw_eq (p0 &&& (4611686018427387903 : Int64)) (2 : Int64)).mp q))).1) (XS.lloadN X1.here hx rfl (hb hby at_32) rfl (X1.ldc2Long hx hown (mvT hZ (hw _ (List.mem_of_getElem? (i := 7) rfl))) (g := (mkF m 33 #[.val (.long p0), .second, .val (.long (p0 &&& (4611686018427387903 : Int64))), .second, .val (.long (own_rc (p0 &&& (4611686018427387903 : Int64)))), .second, .unset, .unset, .unset, .unset] [(.long (p0 &&& (4611686018427387903 : Int64)))])) rfl (hb hby at_33) _ (XS.lcmp X1.here hx rfl (hb hby at_36) rfl k))))) ?_
        by_cases hc8 : (p0 &&& (4611686018427387903 : Int64)) = (3 : Int64)
        · refine OGo.st (T' := T1) (g' := (mkF m 52 #[.val (.long p0), .second, .val (.long (p0 &&& (4611686018427387903 : Int64))), .second, .val (.long (own_rc (p0 &&& (4611686018427387903 : Int64)))), .second, .val (.int (1 : Int32)), .unset, .unset, .unset] [])) (fun _ k => (XS.ifNo X1.here hx rfl (hb hby at_37) rfl ((if0 _ _).trans (teq ((lw_eq (p0 &&& (4611686018427387903 : Int64)) (3 : Int64)).mpr hc8)).2) (XS.iconst X1.here hx rfl (hb hby at_40) (XS.goto X1.here hx rfl (pc0 := 41) (pc' := 45) rfl (hb hby at_41) (by decide) (by decide) (XS.istore X1.here hx rfl (hb hby at_45) rfl (l' := #[.val (.long p0), .second, .val (.long (p0 &&& (4611686018427387903 : Int64))), .second, .val (.long (own_rc (p0 &&& (4611686018427387903 : Int64)))), .second, .val (.int (1 : Int32)), .unset, .unset, .unset]) rfl (XS.iload X1.here hx rfl (hb hby at_47) rfl (XS.ifNo X1.here hx rfl (hb hby at_49) rfl ((if0 _ _).trans (feq (by decide : ¬ ((1 : Int32) = (0 : Int32)))).1) k))))))) ?_
          refine OGo.st (T' := T1) (g' := (mkF m 79 #[.val (.long p0), .second, .val (.long (p0 &&& (4611686018427387903 : Int64))), .second, .val (.long (own_rc (p0 &&& (4611686018427387903 : Int64)))), .second, .val (.int (1 : Int32)), .unset, .unset, .unset] [(.int (1 : Int32))])) (fun _ k => (XS.lload X1.here hx rfl (hb hby at_52) rfl (XS.lloadN X1.here hx rfl (hb hby at_54) rfl (XS.lcmp X1.here hx rfl (hb hby at_55) rfl (XS.ifNo X1.here hx rfl (hb hby at_56) rfl ((if0 _ _).trans (teq ((lw_eq (own_rc (p0 &&& (4611686018427387903 : Int64))) (p0 &&& (4611686018427387903 : Int64))).mpr (own_rc_lit hc8 (by decide) : own_rc (p0 &&& (4611686018427387903 : Int64)) = (p0 &&& (4611686018427387903 : Int64))))).2) (XS.iconst X1.here hx rfl (hb hby at_59) (XS.goto X1.here hx rfl (pc0 := 60) (pc' := 79) rfl (hb hby at_60) (by decide) (by decide) k))))))) ?_
          refine OGo.st (T' := T1) (g' := (mkF m 83 #[.val (.long p0), .second, .val (.long (p0 &&& (4611686018427387903 : Int64))), .second, .val (.long (own_rc (p0 &&& (4611686018427387903 : Int64)))), .second, .val (.int (1 : Int32)), .val (.int (1 : Int32)), .unset, .unset] [(.long (own_rc (p0 &&& (4611686018427387903 : Int64))))])) (fun _ k => (XS.istore X1.here hx rfl (hb hby at_79) rfl (l' := #[.val (.long p0), .second, .val (.long (p0 &&& (4611686018427387903 : Int64))), .second, .val (.long (own_rc (p0 &&& (4611686018427387903 : Int64)))), .second, .val (.int (1 : Int32)), .val (.int (1 : Int32)), .unset, .unset]) rfl (XS.lload X1.here hx rfl (hb hby at_81) rfl k))) ?_
          obtain ⟨_, _, ⟨T9, L9, k9, n9⟩, -, X9, ⟨Lc9, hQ9, l9, y9, z9⟩, st9⟩ := Jvm.LawKit.callS X1 hx (y := (⟨"com/example/crisp_relay/crisprelay/wire/Draft14Codes", "resetCode14", "(J)J"⟩ : MethodName)) hown (mvT hZ (hw _ (List.mem_of_getElem? (i := 1) rfl))) (mvT hZ (hw _ (List.mem_of_getElem? (i := 2) rfl))) (mvT hZ (hw _ (List.mem_of_getElem? (i := 3) rfl))) (mvT hZ (hw _ (List.mem_of_getElem? (i := 4) rfl))) (by decide) (backOf (W := 0) (rm1 l Z a0 hw [] ((own_rc (p0 &&& (4611686018427387903 : Int64)))) h0 n0 Z0 ) hZ (hw _ (List.mem_of_getElem? (i := 4) rfl)) (hw _ (List.mem_of_getElem? (i := 3) rfl)) (by decide) (by decide)) (g := (mkF m 83 #[.val (.long p0), .second, .val (.long (p0 &&& (4611686018427387903 : Int64))), .second, .val (.long (own_rc (p0 &&& (4611686018427387903 : Int64)))), .second, .val (.int (1 : Int32)), .val (.int (1 : Int32)), .unset, .unset] [(.long (own_rc (p0 &&& (4611686018427387903 : Int64))))])) rfl (by rw [hml]; rfl) (argsL := [(.long (own_rc (p0 &&& (4611686018427387903 : Int64))))]) (rest := []) (lenOf own_pd0 rfl) rfl (by show 2 * 0 + _ ≤ _; exact Nat.le_of_eq rfl) (hb hby at_83) (fun _ _ => ⟨rfl, e1, (by decide : 0 + 0 ≤ _), (by decide : 0 + 0 ≤ _)⟩)
          dsimp only [Pt.U, Pt.locs, Pt.cells, Pt.slots] at X9 l9 y9 z9 st9 hQ9
          subst l9 y9 z9
          have X9 : Stand p l e room_1 s m _ below meth c T9 _ 0 0 := X9
          obtain ⟨rfl, N9, e9⟩ := hQ9
          have N9 := Fr.app N1 N9
          refine OGo.st (T' := T9) (g' := (mkF m 86 #[.val (.long p0), .second, .val (.long (p0 &&& (4611686018427387903 : Int64))), .second, .val (.long (own_rc (p0 &&& (4611686018427387903 : Int64)))), .second, .val (.int (1 : Int32)), .val (.int (1 : Int32)), .unset, .unset] [(.long (own_rc (own_rc (p0 &&& (4611686018427387903 : Int64)))))])) (fun _ k => st9 _ k) ?_
          refine OGo.st (T' := T9) (g' := (mkF m 98 #[.val (.long p0), .second, .val (.long (p0 &&& (4611686018427387903 : Int64))), .second, .val (.long (own_rc (p0 &&& (4611686018427387903 : Int64)))), .second, .val (.int (1 : Int32)), .val (.int (1 : Int32)), .val (.long (own_rc (own_rc (p0 &&& (4611686018427387903 : Int64))))), .second] [(.int (lcmpW (own_rc (own_rc (p0 &&& (4611686018427387903 : Int64)))) (own_rc (p0 &&& (4611686018427387903 : Int64)))))])) (fun _ k => (XS.lstore X9.here hx rfl (hb hby at_86) rfl (l' := #[.val (.long p0), .second, .val (.long (p0 &&& (4611686018427387903 : Int64))), .second, .val (.long (own_rc (p0 &&& (4611686018427387903 : Int64)))), .second, .val (.int (1 : Int32)), .val (.int (1 : Int32)), .val (.long (own_rc (own_rc (p0 &&& (4611686018427387903 : Int64))))), .second]) rfl (XS.iload X9.here hx rfl (hb hby at_88) rfl (XS.ifNo X9.here hx rfl (hb hby at_90) rfl ((if0 _ _).trans (feq (by decide : ¬ ((1 : Int32) = (0 : Int32)))).1) (XS.lload X9.here hx rfl (hb hby at_93) rfl (XS.lload X9.here hx rfl (hb hby at_95) rfl (XS.lcmp X9.here hx rfl (hb hby at_97) rfl k))))))) ?_
          refine OGo.st (T' := T9) (g' := (mkF m 106 #[.val (.long p0), .second, .val (.long (p0 &&& (4611686018427387903 : Int64))), .second, .val (.long (own_rc (p0 &&& (4611686018427387903 : Int64)))), .second, .val (.int (1 : Int32)), .val (.int (1 : Int32)), .val (.long (own_rc (own_rc (p0 &&& (4611686018427387903 : Int64))))), .second] [(.int (1 : Int32))])) (fun _ k => (XS.ifNo X9.here hx rfl (hb hby at_98) rfl ((if0 _ _).trans (teq ((lw_eq (own_rc (own_rc (p0 &&& (4611686018427387903 : Int64)))) (own_rc (p0 &&& (4611686018427387903 : Int64)))).mpr (own_rc_rc _ : (own_rc (own_rc (p0 &&& (4611686018427387903 : Int64)))) = (own_rc (p0 &&& (4611686018427387903 : Int64)))))).2) (XS.iconst X9.here hx rfl (hb hby at_101) (XS.goto X9.here hx rfl (pc0 := 102) (pc' := 106) rfl (hb hby at_102) (by decide) (by decide) k)))) ?_
          exact OGo.ret X9 hx hlk Bd.returns rfl (own_rI (Or.inr (Or.inl rfl))) (hb hby at_106) (by decide) (by decide) e9 (⟨rfl, N9⟩)
        · refine OGo.st (T' := T1) (g' := (mkF m 69 #[.val (.long p0), .second, .val (.long (p0 &&& (4611686018427387903 : Int64))), .second, .val (.long (own_rc (p0 &&& (4611686018427387903 : Int64)))), .second, .val (.int (0 : Int32)), .unset, .unset, .unset] [(.long (own_rc (p0 &&& (4611686018427387903 : Int64))))])) (fun _ k => (XS.ifYes X1.here hx rfl (pc0 := 37) (pc' := 44) rfl (hb hby at_37) rfl ((if0 _ _).trans (feq (fun q => (hc8) ((lw_eq (p0 &&& (4611686018427387903 : Int64)) (3 : Int64)).mp q))).2) (by decide) (by decide) (XS.iconst X1.here hx rfl (hb hby at_44) (XS.istore X1.here hx rfl (hb hby at_45) rfl (l' := #[.val (.long p0), .second, .val (.long (p0 &&& (4611686018427387903 : Int64))), .second, .val (.long (own_rc (p0 &&& (4611686018427387903 : Int64)))), .second, .val (.int (0 : Int32)), .unset, .unset, .unset]) rfl (XS.iload X1.here hx rfl (hb hby at_47) rfl (XS.ifYes X1.here hx rfl (pc0 := 49) (pc' := 67) rfl (hb hby at_49) rfl ((if0 _ _).trans (teq (by decide : (0 : Int32) = (0 : Int32))).1) (by decide) (by decide) (XS.lload X1.here hx rfl (hb hby at_67) rfl k))))))) ?_
          refine OGo.st (T' := T1) (g' := (mkF m 81 #[.val (.long p0), .second, .val (.long (p0 &&& (4611686018427387903 : Int64))), .second, .val (.long (own_rc (p0 &&& (4611686018427387903 : Int64)))), .second, .val (.int (0 : Int32)), .val (.int (1 : Int32)), .unset, .unset] [])) (fun _ k => (XS.lconst X1.here hx rfl (hb hby at_69) (XS.lcmp X1.here hx rfl (hb hby at_70) rfl (XS.ifNo X1.here hx rfl (hb hby at_71) rfl ((if0 _ _).trans (teq ((lw_eq (own_rc (p0 &&& (4611686018427387903 : Int64))) (0 : Int64)).mpr (own_rc_0 (own_and64 _ _ (by decide)) hc2 hc4 hc6 hc8 : own_rc (p0 &&& (4611686018427387903 : Int64)) = 0))).2) (XS.iconst X1.here hx rfl (hb hby at_74) (XS.goto X1.here hx rfl (pc0 := 75) (pc' := 79) rfl (hb hby at_75) (by decide) (by decide) (XS.istore X1.here hx rfl (hb hby at_79) rfl (l' := #[.val (.long p0), .second, .val (.long (p0 &&& (4611686018427387903 : Int64))), .second, .val (.long (own_rc (p0 &&& (4611686018427387903 : Int64)))), .second, .val (.int (0 : Int32)), .val (.int (1 : Int32)), .unset, .unset]) rfl k))))))) ?_
          refine OGo.st (T' := T1) (g' := (mkF m 83 #[.val (.long p0), .second, .val (.long (p0 &&& (4611686018427387903 : Int64))), .second, .val (.long (own_rc (p0 &&& (4611686018427387903 : Int64)))), .second, .val (.int (0 : Int32)), .val (.int (1 : Int32)), .unset, .unset] [(.long (own_rc (p0 &&& (4611686018427387903 : Int64))))])) (fun _ k => (XS.lload X1.here hx rfl (hb hby at_81) rfl k)) ?_
          obtain ⟨_, _, ⟨T10, L10, k10, n10⟩, -, X10, ⟨Lc10, hQ10, l10, y10, z10⟩, st10⟩ := Jvm.LawKit.callS X1 hx (y := (⟨"com/example/crisp_relay/crisprelay/wire/Draft14Codes", "resetCode14", "(J)J"⟩ : MethodName)) hown (mvT hZ (hw _ (List.mem_of_getElem? (i := 1) rfl))) (mvT hZ (hw _ (List.mem_of_getElem? (i := 2) rfl))) (mvT hZ (hw _ (List.mem_of_getElem? (i := 3) rfl))) (mvT hZ (hw _ (List.mem_of_getElem? (i := 4) rfl))) (by decide) (backOf (W := 0) (rm1 l Z a0 hw [] ((own_rc (p0 &&& (4611686018427387903 : Int64)))) h0 n0 Z0 ) hZ (hw _ (List.mem_of_getElem? (i := 4) rfl)) (hw _ (List.mem_of_getElem? (i := 3) rfl)) (by decide) (by decide)) (g := (mkF m 83 #[.val (.long p0), .second, .val (.long (p0 &&& (4611686018427387903 : Int64))), .second, .val (.long (own_rc (p0 &&& (4611686018427387903 : Int64)))), .second, .val (.int (0 : Int32)), .val (.int (1 : Int32)), .unset, .unset] [(.long (own_rc (p0 &&& (4611686018427387903 : Int64))))])) rfl (by rw [hml]; rfl) (argsL := [(.long (own_rc (p0 &&& (4611686018427387903 : Int64))))]) (rest := []) (lenOf own_pd0 rfl) rfl (by show 2 * 0 + _ ≤ _; exact Nat.le_of_eq rfl) (hb hby at_83) (fun _ _ => ⟨rfl, e1, (by decide : 0 + 0 ≤ _), (by decide : 0 + 0 ≤ _)⟩)
          dsimp only [Pt.U, Pt.locs, Pt.cells, Pt.slots] at X10 l10 y10 z10 st10 hQ10
          subst l10 y10 z10
          have X10 : Stand p l e room_1 s m _ below meth c T10 _ 0 0 := X10
          obtain ⟨rfl, N10, e10⟩ := hQ10
          have N10 := Fr.app N1 N10
          refine OGo.st (T' := T10) (g' := (mkF m 86 #[.val (.long p0), .second, .val (.long (p0 &&& (4611686018427387903 : Int64))), .second, .val (.long (own_rc (p0 &&& (4611686018427387903 : Int64)))), .second, .val (.int (0 : Int32)), .val (.int (1 : Int32)), .unset, .unset] [(.long (own_rc (own_rc (p0 &&& (4611686018427387903 : Int64)))))])) (fun _ k => st10 _ k) ?_
          refine OGo.st (T' := T10) (g' := (mkF m 98 #[.val (.long p0), .second, .val (.long (p0 &&& (4611686018427387903 : Int64))), .second, .val (.long (own_rc (p0 &&& (4611686018427387903 : Int64)))), .second, .val (.int (0 : Int32)), .val (.int (1 : Int32)), .val (.long (own_rc (own_rc (p0 &&& (4611686018427387903 : Int64))))), .second] [(.int (lcmpW (own_rc (own_rc (p0 &&& (4611686018427387903 : Int64)))) (own_rc (p0 &&& (4611686018427387903 : Int64)))))])) (fun _ k => (XS.lstore X10.here hx rfl (hb hby at_86) rfl (l' := #[.val (.long p0), .second, .val (.long (p0 &&& (4611686018427387903 : Int64))), .second, .val (.long (own_rc (p0 &&& (4611686018427387903 : Int64)))), .second, .val (.int (0 : Int32)), .val (.int (1 : Int32)), .val (.long (own_rc (own_rc (p0 &&& (4611686018427387903 : Int64))))), .second]) rfl (XS.iload X10.here hx rfl (hb hby at_88) rfl (XS.ifNo X10.here hx rfl (hb hby at_90) rfl ((if0 _ _).trans (feq (by decide : ¬ ((1 : Int32) = (0 : Int32)))).1) (XS.lload X10.here hx rfl (hb hby at_93) rfl (XS.lload X10.here hx rfl (hb hby at_95) rfl (XS.lcmp X10.here hx rfl (hb hby at_97) rfl k))))))) ?_
          refine OGo.st (T' := T10) (g' := (mkF m 106 #[.val (.long p0), .second, .val (.long (p0 &&& (4611686018427387903 : Int64))), .second, .val (.long (own_rc (p0 &&& (4611686018427387903 : Int64)))), .second, .val (.int (0 : Int32)), .val (.int (1 : Int32)), .val (.long (own_rc (own_rc (p0 &&& (4611686018427387903 : Int64))))), .second] [(.int (1 : Int32))])) (fun _ k => (XS.ifNo X10.here hx rfl (hb hby at_98) rfl ((if0 _ _).trans (teq ((lw_eq (own_rc (own_rc (p0 &&& (4611686018427387903 : Int64)))) (own_rc (p0 &&& (4611686018427387903 : Int64)))).mpr (own_rc_rc _ : (own_rc (own_rc (p0 &&& (4611686018427387903 : Int64)))) = (own_rc (p0 &&& (4611686018427387903 : Int64)))))).2) (XS.iconst X10.here hx rfl (hb hby at_101) (XS.goto X10.here hx rfl (pc0 := 102) (pc' := 106) rfl (hb hby at_102) (by decide) (by decide) k)))) ?_
          exact OGo.ret X10 hx hlk Bd.returns rfl (own_rI (Or.inr (Or.inl rfl))) (hb hby at_106) (by decide) (by decide) e10 (⟨rfl, N10⟩)
set_option maxRecDepth 65536 in
set_option maxHeartbeats 40000000 in
theorem comes_1 {Post : Tables → Env → Array Value → State → Outcome → State → Prop} (hpost : ∀ tb e args s v u, (limb_1_1.after args s (.returned v) u = true ∧ limb_1_2.after args s (.returned v) u = true ∧ True) → FrameEnd s (.returned v) u (Jvm.fieldLocs frame_1_writes args s ++ Jvm.arrayLocs frame_1_arrays args s ++ Jvm.staticLocs frame_1_statics s) 0 0 → Post tb e args s (.returned v) u) :
    ArmFor flags0 classFile x code maxLocals ret World_1 tables_1 room_1 Calls_1 rest_1 Pre_1 Post := by
  intro l hfl _ _ p e ha hc hk s m args below hf hA hF happ hP
  obtain ⟨hcalls, hrest, hpre⟩ := hP
  obtain ⟨-, -, -, hnamed, -, -, -, hat⟩ := (Spec.applies_iff hf).mp happ
  obtain ⟨hg, hn⟩ := and_e (Cond.before_iff.mp (show (Jvm.Cond.and given_1 narrow_1).before args s = true from hpre))
  obtain ⟨q0, r0⟩ := and_e hg
  obtain ⟨w0, rfl⟩ : ∃ w0 : Value, args = #[w0] := by
    have hs : args.size = 1 := by simpa [Cond.value, given_1] using q0
    obtain ⟨L⟩ := args
    match L, hs with
    | [w0], _ => exact ⟨w0, rfl⟩
  have hw := fun d (hd : d ∈ tables_1) => atoms_spec (ws := Jvm.Cond.code x code maxLocals ret :: tables_1) hat d (List.mem_cons_of_mem _ hd)
  obtain ⟨i0, ei0⟩ := isL_v r0
  obtain rfl : w0 = (.long i0) := Option.some.inj ei0
  obtain ⟨n, o, h1, h2, h3, _, L, rfl, ⟨rfl, N⟩, hq⟩ := rm0 l s _ hw tables_1 i0 s.heap s.heap.size (Nat.le_refl _) p e ha hc hk s m _ below hf ((Spec.applies_iff_loose hf).mp happ).1 ⟨rfl, State.Warmed39.refl s, rfl⟩ trivial
  refine ⟨n, _, h1, h2, h3, hpost _ _ _ _ _ _ ⟨Cond.after_iff.mpr rfl, Cond.after_iff.mpr (eq_i res_at (Term.int_eval (1)) rfl), trivial⟩ ⟨hq.1, hq.2.1, (hq.2.2.sift fun y hy => Or.inr (N y hy)).mono (by decide) (by decide)⟩⟩
theorem main_1_1 : Claimed_1_1 := comes_1 fun _ _ _ _ _ _ h hF => ⟨h.1, hF⟩
theorem main_1_2 : Claimed_1_2 := comes_1 fun _ _ _ _ _ _ h hF => ⟨h.2.1, hF⟩
end Jvm.Pilot.@@N@@
namespace Jvm.Pilot.@@N@@
open Jvm Jvm.ClassFile Sem Op Lib Jvm.Free Jvm.Stand Jvm.Pilot.@@N@@.Jvm.D
/-! MADE BY PROGRAM (witnessworld.py) out of the Statement's table words and the real class files: 7 classes; the members and pool entries that the words name. The judged class is class 1, her method 1. -/
namespace start1
open Jvm.ClassFile
def u (s : String) : CpInfo := .utf8 (stringToUtf16 s)
/-- a pool by its gaps: so many unusable entries, then the entry; so many at the end -/
def gap : Nat → List CpInfo → List CpInfo
  | 0, r => r
  | n + 1, r => .unusable :: gap n r
def poolList (es : List (Nat × CpInfo)) (last : Nat) : List CpInfo := es.foldr (fun e r => gap e.1 (e.2 :: r)) (gap last [])
def pool (es : List (Nat × CpInfo)) (last : Nat) : Array CpInfo := ⟨poolList es last⟩
def fileOf (pool : Array CpInfo) (this : Nat) (attrs : Array Attribute := #[]) (ms : Array MethodInfo := #[]) (fl : Nat := 33) (sup : Nat := 0) (ifs : Array Nat := #[]) (fds : Array FieldInfo := #[]) : ClassFile where
  minorVersion := 0
  majorVersion := 65
  constantPool := pool
  accessFlags := fl
  thisClass := this
  superClass := sup
  interfaces := ifs
  fields := fds
  methods := ms
  attributes := attrs
def plain (name : String) (sup : Option ClassId) : Class where
  name := name
  kind := .ordinary
  loader := none
  accessFlags := 33
  super := sup
  interfaces := #[]
  cf := none
  fields := #[]
  methods := #[]
  instanceTypes := #[]
  staticTypes := #[]
  resolved := #[]
  callSites := []
  init := .initialized
  statics := none
  mirror := none

def pool0 : Array CpInfo := pool [(5, u "<init>"), (0, u "()V"), (1, .class_ 10), (1, u "java/lang/Object")] 113

def k0m0 : Method := { name := "<init>", desc := "()V", sig := { parameters := [], returnType := none }, accessFlags := 1, code := none }
/-- java/lang/Object -/
def k0 : Class := { plain "java/lang/Object" none with
  accessFlags := 33
  interfaces := #[]
  cf := some (fileOf pool0 8 #[] #[{ accessFlags := 1, nameIndex := 5, descriptorIndex := 6, attributes := #[] }] 33 0 #[] #[])
  fields := #[]
  methods := #[k0m0]
  instanceTypes := #[]
  staticTypes := #[]
  resolved := Array.replicate 124 none
  statics := none }

def pool1 : Array CpInfo := pool [(2, .class_ 4), (1, u "java/lang/Object"), (0, u "<init>"), (0, u "()V"), (0, .long 4611686018427387903), (1, .methodref 10 11), (0, .class_ 12), (0, .nameAndType 13 14), (0, u "com/example/crisp_relay/crisprelay/wire/Draft14Codes"), (0, u "resetCode14"), (0, u "(J)J"), (0, .long 2), (1, .long 3), (1, .class_ 20), (0, u "com/example/crisp_relay/crisprelay/wire/Draft14CodesResetCode14PinLaw"), (2, u "law"), (0, u "(J)Z")] 3

def k1m0 : Method := { name := "<init>", desc := "()V", sig := { parameters := [], returnType := none }, accessFlags := 2, code := none }
def k1c1 : Code := { maxStack := 4, maxLocals := 10, code := code, exceptionTable := #[], attributes := #[] }
def k1m1 : Method := { name := "law", desc := "(J)Z", sig := { parameters := [.long], returnType := some .boolean }, accessFlags := 9, code := some k1c1 }
/-- com/example/crisp_relay/crisprelay/wire/Draft14CodesResetCode14PinLaw -/
def k1 : Class := { plain "com/example/crisp_relay/crisprelay/wire/Draft14CodesResetCode14PinLaw" (some 0) with
  accessFlags := 49
  interfaces := #[]
  cf := some (fileOf pool1 19 #[] #[{ accessFlags := 2, nameIndex := 5, descriptorIndex := 6, attributes := #[] }, { accessFlags := 9, nameIndex := 23, descriptorIndex := 24, attributes := #[] }] 49 2 #[] #[])
  fields := #[]
  methods := #[k1m0, k1m1]
  instanceTypes := #[]
  staticTypes := #[]
  resolved := Array.replicate 28 none
  statics := none }

def pool2 : Array CpInfo := pool [(2, .class_ 4), (1, u "java/lang/Object"), (0, u "<init>"), (0, u "()V"), (1, .class_ 10), (1, u "com/example/crisp_relay/crisprelay/wire/Draft14Codes"), (0, u "REFUSALS"), (0, u "Ljava/util/List;"), (16, .class_ 30), (0, u "com/example/crisp_relay/crisprelay/wire/Draft14Codes$Row"), (7, u "J"), (12, u "INTERNAL_ERROR"), (6, u "MALFORMED_TRACK"), (6, .long 3), (75, u "LAST_SHARED_STATUS"), (0, u "LAST_SHARED_RESET"), (7, u "(J)J"), (1, u "resetCode14")] 6

def k2m0 : Method := { name := "<init>", desc := "()V", sig := { parameters := [], returnType := none }, accessFlags := 2, code := none }
def k2c1 : Code := { maxStack := 4, maxLocals := 2, code := prog_55_method_6_code, exceptionTable := #[], attributes := #[] }
def k2m1 : Method := { name := "resetCode14", desc := "(J)J", sig := { parameters := [.long], returnType := some .long }, accessFlags := 8, code := some k2c1 }
/-- com/example/crisp_relay/crisprelay/wire/Draft14Codes -/
def k2 : Class := { plain "com/example/crisp_relay/crisprelay/wire/Draft14Codes" (some 0) with
  accessFlags := 32
  interfaces := #[]
  cf := some (fileOf pool2 8 #[.nestMembers #[29]] #[{ accessFlags := 2, nameIndex := 5, descriptorIndex := 6, attributes := #[] }, { accessFlags := 8, nameIndex := 152, descriptorIndex := 150, attributes := #[] }] 32 2 #[] #[{ accessFlags := 26, nameIndex := 51, descriptorIndex := 38, attributes := #[] }, { accessFlags := 26, nameIndex := 11, descriptorIndex := 12, attributes := #[] }, { accessFlags := 26, nameIndex := 58, descriptorIndex := 38, attributes := #[] }, { accessFlags := 26, nameIndex := 141, descriptorIndex := 38, attributes := #[] }, { accessFlags := 26, nameIndex := 142, descriptorIndex := 38, attributes := #[] }])
  fields := #[{ name := "INTERNAL_ERROR", type := .long, accessFlags := 26, slot := 0, constantValue := 0 }, { name := "REFUSALS", type := (.object "java/util/List"), accessFlags := 26, slot := 1, constantValue := 0 }, { name := "MALFORMED_TRACK", type := .long, accessFlags := 26, slot := 2, constantValue := 0 }, { name := "LAST_SHARED_STATUS", type := .long, accessFlags := 26, slot := 3, constantValue := 0 }, { name := "LAST_SHARED_RESET", type := .long, accessFlags := 26, slot := 4, constantValue := 0 }]
  methods := #[k2m0, k2m1]
  instanceTypes := #[]
  staticTypes := #[.long, (.object "java/util/List"), .long, .long, .long]
  resolved := Array.replicate 159 none
  statics := none }

def pool3 : Array CpInfo := pool [(1, u "java/lang/Cloneable"), (0, .class_ 1), (0, u "java/lang/Object"), (0, .class_ 3)] 3

/-- java/lang/Cloneable -/
def k3 : Class := { plain "java/lang/Cloneable" (some 0) with
  accessFlags := 1537
  interfaces := #[]
  cf := some (fileOf pool3 2 #[] #[] 1537 4 #[] #[])
  fields := #[]
  methods := #[]
  instanceTypes := #[]
  staticTypes := #[]
  resolved := Array.replicate 8 none
  statics := none }

def pool4 : Array CpInfo := pool [(1, u "java/io/Serializable"), (0, .class_ 1), (0, u "java/lang/Object"), (0, .class_ 3)] 3

/-- java/io/Serializable -/
def k4 : Class := { plain "java/io/Serializable" (some 0) with
  accessFlags := 1537
  interfaces := #[]
  cf := some (fileOf pool4 2 #[] #[] 1537 4 #[] #[])
  fields := #[]
  methods := #[]
  instanceTypes := #[]
  staticTypes := #[]
  resolved := Array.replicate 8 none
  statics := none }

/-- the primitive byte -/
def k5 : Class := { plain "byte" none with kind := .primitive 'B', accessFlags := 0x411 }
/-- [B -/
def k6 : Class := { plain "[B" (some 0) with kind := .array 5 .byte, interfaces := #[3, 4], accessFlags := 1041 }

def heap : Heap := #[]
def classes : Array Class := #[k0, k1, k2, k3, k4, k5, k6]
def interned : List (Array UInt16 × Addr) := []
def slotsUsed : Nat := 0
def theMethod : MethodId := ⟨1, 1⟩
def args0 : Array Value := #[.long 5]
def aboutOver (below : List Frame) : State where
  vm := { classes := classes, interned := interned.toArray }
  heap := heap
  slotsUsed := slotsUsed
  threads := #[{ frames := .invoking theMethod args0 :: below }]
def below0 : List Frame := [.native { method := ⟨0, 0⟩, args := #[] }]
def about1 : State := aboutOver below0
def p0 : Program := .bare "" "" ""
def e0 : Env := launch0.env 0 0 0
theorem w_frames : about1.frames = Frame.invoking theMethod args0 :: below0 := rfl
set_option maxRecDepth 65536 in
theorem w_args : argsFit about1.vm theMethod args0 = true := by decide +kernel
set_option maxRecDepth 65536 in
theorem w_heap : heapFits about1 = true := by decide +kernel
set_option maxRecDepth 65536 in
theorem w_runnable : about1.curStatus? = some .runnable := by decide +kernel
set_option maxRecDepth 65536 in
theorem w_alone : about1.alone = true := by decide +kernel
set_option maxRecDepth 65536 in
theorem w_named : about1.methodNamed? x = some theMethod := by decide +kernel
set_option maxRecDepth 65536 in
theorem w_hears : about1.hears theMethod below0 = true := by decide +kernel
set_option maxRecDepth 65536 in
theorem w_ripe : about1.ripe theMethod args0 below0 = true := by decide +kernel
theorem w_running : about1.status = .running := rfl
set_option maxRecDepth 65536 in
theorem w_room : about1.hasRoom e0.platform room_1 = true :=
  launch0.hasRoom_least _ room_1 (by decide +kernel) (by decide +kernel) (by decide +kernel) (by decide +kernel) (by decide +kernel) (by decide +kernel)
theorem allAtoms_all (ts : List Jvm.Cond) (a : Array Jvm.Value) (st : Jvm.State) : (allAtoms ts).before a st = ts.all (fun c => c.before a st) := by
  induction ts with
  | nil => rfl
  | cons c t ih =>
    show (Jvm.Cond.and c (allAtoms t)).before a st = _
    rw [Jvm.Cond.before_and, ih, List.all_cons]
def words1 : List Jvm.Cond := Jvm.Cond.code x code maxLocals ret :: tables_1
/-- a 'code' word, met by the world's own term for the bytes: nothing is compared byte by byte -/
theorem code_word {y : MethodName} {bytes : ByteArray} {mx : Nat} {rt : Option FieldType} {a : Array Value} {s : State} {m : MethodId} {meth : Method} {c : Code} (h1 : s.methodNamed? y = some m) (h2 : s.vm.method? m = some meth) (h3 : meth.code = some c) (h4 : c.code = bytes)
    (h5 : (c.maxLocals == mx && c.exceptionTable.isEmpty && decide (c.maxStack ≤ mostOperands) && decide (meth.sig.returnType = rt) && !meth.locks && decide (parseMethodDescriptor y.desc = some meth.sig)) = true) : (Jvm.Cond.code y bytes mx rt).before a s = true := by
  simp only [Bool.and_eq_true, beq_iff_eq, Bool.not_eq_true', decide_eq_true_eq] at h5
  obtain ⟨⟨⟨⟨⟨g1, g2⟩, g3⟩, g4⟩, g5⟩, g6⟩ := h5
  simp [Cond.before, Cond.holds, Cond.value, h1, h2, h3, h4, g1, g2, g3, g4, g5, g6]
def isCode : Jvm.Cond → Bool
  | .code _ _ _ _ => true
  | _ => false
theorem all_split {L : List Jvm.Cond} {P : Jvm.Cond → Bool} (h1 : L.all (fun c => isCode c || P c) = true) (h2 : ∀ c ∈ L.filter isCode, P c = true) : L.all P = true := by
  refine List.all_eq_true.mpr fun c hc => ?_
  have h := List.all_eq_true.mp h1 c hc
  rcases Bool.eq_false_or_eq_true (isCode c) with hi | hi
  · exact h2 c (List.mem_filter.mpr ⟨hc, hi⟩)
  · simpa [hi] using h
set_option maxRecDepth 65536 in
theorem w_c0 : (Jvm.Cond.code x code maxLocals ret).before args0 about1 = true := code_word (m := ⟨1, 1⟩) (meth := k1m1) (c := k1c1) (by decide +kernel) rfl rfl rfl (by decide +kernel)
set_option maxRecDepth 65536 in
theorem w_c1 : (Jvm.Cond.code ({ cls := "com/example/crisp_relay/crisprelay/wire/Draft14Codes", name := "resetCode14", desc := "(J)J" } : Jvm.MethodName) prog_55_method_6_code (2 : Nat) (Option.some Jvm.ClassFile.FieldType.long)).before args0 about1 = true := code_word (m := ⟨2, 1⟩) (meth := k2m1) (c := k2c1) (by decide +kernel) rfl rfl rfl (by decide +kernel)
def codes1 : List Jvm.Cond := [Jvm.Cond.code x code maxLocals ret, Jvm.Cond.code ({ cls := "com/example/crisp_relay/crisprelay/wire/Draft14Codes", name := "resetCode14", desc := "(J)J" } : Jvm.MethodName) prog_55_method_6_code (2 : Nat) (Option.some Jvm.ClassFile.FieldType.long)]
set_option maxRecDepth 65536 in
theorem codes_eq : words1.filter isCode = codes1 := rfl
theorem w_codes : ∀ c ∈ words1.filter isCode, c.before args0 about1 = true := by
  rw [codes_eq]
  intro c hc
  simp only [codes1, List.mem_cons, List.not_mem_nil, or_false] at hc
  rcases hc with rfl | rfl
  · exact w_c0
  · exact w_c1
set_option maxRecDepth 65536 in
theorem w_t1 : words1.all (fun c => isCode c || c.before args0 about1) = true := by decide +kernel
theorem w_tables : (allAtoms (Jvm.Cond.code x code maxLocals ret :: tables_1)).before args0 about1 = true := by
  rw [allAtoms_all]
  show words1.all (fun c => c.before args0 about1) = true
  refine all_split ?_ w_codes
  rw [w_t1]
set_option maxRecDepth 65536 in
theorem w_case : (Jvm.Cond.and given_1 narrow_1).before args0 about1 = true := by decide +kernel
theorem w_applies : (headSpec (Jvm.Cond.code x code maxLocals ret :: tables_1) room_1).applies x e0.platform about1 = true :=
  (Spec.applies_iff w_frames).mpr ⟨w_running, w_runnable, w_alone, w_named, w_hears, w_ripe, w_room, w_tables⟩
theorem atStart : AtStart classFile x code maxLocals ret World_1 tables_1 room_1 Calls_1 rest_1 Pre_1 launch0 p0 e0 about1 theMethod args0 below0 :=
  ⟨lists_1, trivial, launch0.admits_env _ _ _, launch0.least_env, fairChoices_fair.cas, fairChoices_fair.clock, w_frames, w_args, w_heap, w_applies, trivial, trivial, w_case⟩
end start1
theorem witness_1 : WitnessClaimed_1 := ⟨start1.p0, start1.e0, start1.about1, start1.theMethod, start1.args0, start1.below0, start1.atStart⟩
end Jvm.Pilot.@@N@@

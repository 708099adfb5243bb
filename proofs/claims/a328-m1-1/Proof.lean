import JvmDerived
import JvmDerived.Pilot.@@N@@Statement
import JvmDerived.Pilot.@@N@@Code
set_option linter.unusedVariables false
set_option linter.unusedSimpArgs false
namespace Jvm.Pilot.@@N@@
open Jvm Jvm.ClassFile Sem Op Lib Jvm.Free Jvm.Stand Jvm.LawKit Jvm.RoadKit Bundle Jvm.Pilot.@@N@@.Jvm.D
/-! ### own: what is left of a body's walk, as one word; each step goes back over it -/
def OGo (p : Program) (e : Env) (below : List Frame) (s : State) (Q : Option Value → Heap → List Loc → Prop) (C S : Nat) (T : State) (g : JFrame) : Prop :=
  ∃ s₂ o, Steps p.tables e below (T.setTop g) s₂ ∧ s₂.status = .running ∧ Ended s₂ below o ∧ ∃ v L, o = .returned v ∧ Q v s₂.heap L ∧ FrameEnd s o s₂ L C S
section Own
variable {p : Program} {l : Launch} {e : Env} {R : Room} {s s₁ : State} {m : MethodId} {args : Array Value} {below : List Frame} {meth : Method} {c : Code} {T T' : State} {locs : List Loc} {cells slots : Nat} {g g' : JFrame} {Q : Option Value → Heap → List Loc → Prop} {C S : Nat} {Z : State} {a0 : Array Value} {h h' : Heap}
theorem OGo.st (k : ∀ t, Steps p.tables e below (T'.setTop g') t → Steps p.tables e below (T.setTop g) t) (q : OGo p e below s Q C S T' g') : OGo p e below s Q C S T g := by
  obtain ⟨s₂, o, h1, h2⟩ := q
  exact ⟨s₂, o, k _ h1, h2⟩
theorem OGo.en {ml : Nat} (q : entryFrame m args ml = g) (k : OGo p e below s Q C S s₁ g) : ∃ s₂ o, Steps p.tables e below (s₁.setTop (entryFrame m args ml)) s₂ ∧ s₂.status = .running ∧ Ended s₂ below o ∧ ∃ v L, o = .returned v ∧ Q v s₂.heap L ∧ FrameEnd s o s₂ L C S := by
  rw [q]; exact k
theorem OGo.ret (X : Stand p l e R s m args below meth c T locs cells slots) (hx : p.tables.exec = Jvm.exec) (hlk : meth.locks = false) {pc : Nat} {Ls : Array Slot} {w : Value} {t : FieldType} {i : Instr} {rest : List Value} (hret : meth.sig.returnType = some t) (hn : narrow t w = w)
    (hi : (i = .ireturn ∧ (t = .int ∨ t = .boolean ∨ t = .byte ∨ t = .char ∨ t = .short) ∧ ∃ z, w = .int z) ∨ (i = .lreturn ∧ t = .long ∧ ∃ z, w = .long z) ∨ (i = .dreturn ∧ t = .double ∧ ∃ z, w = .double z) ∨ (i = .freturn ∧ t = .float ∧ ∃ z, w = .float z) ∨ (i = .areturn ∧ t.isReference = true ∧ w.isRef = true))
    (hd : decode c.code pc = .ok (i, 1)) (hC : cells ≤ C) (hS : slots ≤ S) (hh : T.heap = h) (hQ : Q (some w) h locs) : OGo p e below s Q C S T (mkF m pc Ls (w :: rest)) := by
  obtain ⟨fs, hr, hrun, hended, hW, hsame⟩ := X.leave (v := some w) (fun q => by rw [hret] at q; cases q) hlk
  subst hh
  exact ⟨_, _, retOut X hx hret hn hi hd hr, hrun, hended, _, _, rfl, hQ, ⟨_, rfl⟩, hW, hsame.mono hC hS⟩
theorem OGo.retV (X : Stand p l e R s m args below meth c T locs cells slots) (hx : p.tables.exec = Jvm.exec) (hlk : meth.locks = false) {pc : Nat} {Ls : Array Slot} (hret : meth.sig.returnType = none)
    (hd : decode c.code pc = .ok (.return_, 1)) (hC : cells ≤ C) (hS : slots ≤ S) (hh : T.heap = h) (hQ : Q none h locs) : OGo p e below s Q C S T (mkF m pc Ls []) := by
  obtain ⟨fs, hr, hrun, hended, hW, hsame⟩ := X.leave (v := none) (fun _ => rfl) hlk
  subst hh
  exact ⟨_, _, X.returnOut hx hret hd hr, hrun, hended, _, _, rfl, hQ, ⟨_, rfl⟩, hW, hsame.mono hC hS⟩
theorem own_rI {t : FieldType} {z : Int32} (ht : t = .int ∨ t = .boolean ∨ t = .byte ∨ t = .char ∨ t = .short) : ((Instr.ireturn = .ireturn ∧ (t = .int ∨ t = .boolean ∨ t = .byte ∨ t = .char ∨ t = .short) ∧ ∃ z', Value.int z = .int z') ∨ (Instr.ireturn = .lreturn ∧ t = .long ∧ ∃ z', Value.int z = .long z') ∨ (Instr.ireturn = .dreturn ∧ t = .double ∧ ∃ z', Value.int z = .double z') ∨ (Instr.ireturn = .freturn ∧ t = .float ∧ ∃ z', Value.int z = .float z') ∨ (Instr.ireturn = .areturn ∧ t.isReference = true ∧ (Value.int z).isRef = true)) := Or.inl ⟨rfl, ht, z, rfl⟩
theorem own_rJ {z : Int64} : ((Instr.lreturn = .ireturn ∧ (FieldType.long = .int ∨ FieldType.long = .boolean ∨ FieldType.long = .byte ∨ FieldType.long = .char ∨ FieldType.long = .short) ∧ ∃ z', Value.long z = .int z') ∨ (Instr.lreturn = .lreturn ∧ FieldType.long = .long ∧ ∃ z', Value.long z = .long z') ∨ (Instr.lreturn = .dreturn ∧ FieldType.long = .double ∧ ∃ z', Value.long z = .double z') ∨ (Instr.lreturn = .freturn ∧ FieldType.long = .float ∧ ∃ z', Value.long z = .float z') ∨ (Instr.lreturn = .areturn ∧ FieldType.long.isReference = true ∧ (Value.long z).isRef = true)) := Or.inr (Or.inl ⟨rfl, rfl, z, rfl⟩)
theorem own_rR {t : FieldType} {w : Value} (ht : t.isReference = true) (hw : w.isRef = true) : ((Instr.areturn = .ireturn ∧ (t = .int ∨ t = .boolean ∨ t = .byte ∨ t = .char ∨ t = .short) ∧ ∃ z', w = .int z') ∨ (Instr.areturn = .lreturn ∧ t = .long ∧ ∃ z', w = .long z') ∨ (Instr.areturn = .dreturn ∧ t = .double ∧ ∃ z', w = .double z') ∨ (Instr.areturn = .freturn ∧ t = .float ∧ ∃ z', w = .float z') ∨ (Instr.areturn = .areturn ∧ t.isReference = true ∧ w.isRef = true)) := Or.inr (Or.inr (Or.inr (Or.inr ⟨rfl, ht, hw⟩)))
/-! own: an array by its length and a function of the places -/
def own_ix (j : Int32) (i : Nat) : Prop := ¬ j < 0 ∧ j.toNatClampNeg = i
theorem own_ix_of {i : Nat} (hi : i < 2 ^ 31) : own_ix (Int32.ofNat i) i := by
  have q : (Int32.ofNat i).toInt = i := Int32.toInt_ofNat_of_lt hi
  refine ⟨fun w => ?_, ?_⟩
  · rw [Int32.lt_iff_toInt_lt, q, show (0 : Int32).toInt = 0 from rfl] at w; omega
  · rw [Int32.toNatClampNeg, q]; rfl
theorem own_len32 {n : Nat} : n.toInt32 = Int32.ofNat n := rfl
def own_upd {α : Type} (f : Nat → α) (i : Nat) (v : α) (j : Nat) : α := if j = i then v else f j
def own_L {α : Type} (d : α) (l : List α) (j : Nat) : α := l.getD j d
theorem own_L_set {α : Type} (d : α) (l : List α) (i : Nat) (v : α) (hi : i < l.length) (j : Nat) : own_upd (own_L d l) i v j = own_L d (l.set i v) j := by
  unfold own_upd own_L
  by_cases q : j = i
  · subst q; simp [List.getD_eq_getElem?_getD, hi]
  · simp [List.getD_eq_getElem?_getD, q, List.getElem?_set, Ne.symm q]
theorem own_L_rep {α : Type} (d : α) (n : Nat) (j : Nat) : d = own_L d (List.replicate n d) j := by
  unfold own_L
  rw [List.getD_eq_getElem?_getD, List.getElem?_replicate]
  split <;> rfl
theorem own_updI (f : Nat → Int32) (i : Nat) (x : Int32) (j : Nat) : own_upd (fun j => Value.int (f j)) i (.int x) j = Value.int (own_upd f i x j) := by unfold own_upd; split <;> rfl
theorem own_updJ (f : Nat → Int64) (i : Nat) (x : Int64) (j : Nat) : own_upd (fun j => Value.long (f j)) i (.long x) j = Value.long (own_upd f i x j) := by unfold own_upd; split <;> rfl
def OArr (Z : State) (h : Heap) (a : Addr) (ty : FieldType) (n : Nat) (f : Nat → Value) : Prop := ∃ cl : Cell, Arr Z h a cl ty ∧ cl.slots.size = n ∧ n < 2 ^ 31 ∧ ∀ j, j < n → cl.slots[j]? = some (f j)
variable {a b : Addr} {ty : FieldType} {n : Nat} {f f' : Nat → Value} {sl : Nat} {v : Value} {ws : List Addr}
theorem OArr.lt (F : OArr Z h a ty n f) : a < h.size := by obtain ⟨cl, A, -⟩ := F; exact A.lt
theorem OArr.ext (F : OArr Z h a ty n f) (E : Ext h h') : OArr Z h' a ty n f := by obtain ⟨cl, A, r⟩ := F; exact ⟨cl, A.ext E, r⟩
theorem OArr.other (F : OArr Z h a ty n f) (W : Wr h h' b sl v) (q : a ≠ b) : OArr Z h' a ty n f := by obtain ⟨cl, A, r⟩ := F; exact ⟨cl, A.other W q, r⟩
theorem OArr.keep (F : OArr Z h a ty n f) (K : Keep h h' ws) (q : a ∉ ws) : OArr Z h' a ty n f := by obtain ⟨cl, A, r⟩ := F; exact ⟨cl, ⟨K.2.1 a cl A.1 q, A.2⟩, r⟩
theorem OArr.cast (F : OArr Z h a ty n f) (q : ∀ j, j < n → f j = f' j) : OArr Z h a ty n f' := by obtain ⟨cl, A, r1, r2, r3⟩ := F; exact ⟨cl, A, r1, r2, fun j hj => by rw [r3 j hj, q j hj]⟩
theorem own_in {cl : Cell} {j : Int32} {i : Nat} (hs : cl.slots.size = n) (hj : own_ix j i) (hi : i < n) : ¬ (j < 0 ∨ cl.slots.size ≤ j.toNatClampNeg) := by
  rw [hs, hj.2]; exact fun q => q.elim hj.1 (fun q => absurd hi (Nat.not_lt.mpr q))
theorem OArr.wr (F : OArr Z h a ty n f) {j : Int32} {i : Nat} (hj : own_ix j i) (W : Wr h h' a j.toNatClampNeg v) : OArr Z h' a ty n (own_upd f i v) := by
  obtain ⟨cl, A, r1, r2, r3⟩ := F
  refine ⟨_, A.same W, by rw [sz_set, r1], r2, fun k hk => ?_⟩
  show (cl.slots.setIfInBounds _ v)[k]? = _
  rw [hj.2]
  unfold own_upd
  by_cases q : k = i
  · subst q; rw [if_pos rfl, Array.getElem?_setIfInBounds_self_of_lt (by omega)]
  · rw [if_neg q, Array.getElem?_setIfInBounds_ne (Ne.symm q)]; exact r3 k hk
theorem own_len (X : Stand p l e R s m args below meth c T locs cells slots) (hx : p.tables.exec = Jvm.exec) (hZ : Z.Warmed39 s.vm) (eT : T.heap = h) (F : OArr Z h a ty n f) (hg : g.method = m) {rest : List Value} (hs : g.stack = .ref a :: rest) (hd : decode c.code g.pc = .ok (.arraylength, 1)) :
    ∀ t, Steps p.tables e below (T.setTop { g with pc := g.pc + 1, stack := .int (Int32.ofNat n) :: rest }) t → Steps p.tables e below (T.setTop g) t := by
  obtain ⟨cl, A, r1, r2, r3⟩ := F
  subst r1
  exact X.arraylength hx (by rw [eT]; exact A.1) (State.isArrayOf_alike hZ.alike A.2.1) hg hs hd
theorem own_ldI (X : Stand p l e R s m args below meth c T locs cells slots) (hx : p.tables.exec = Jvm.exec) (hZ : Z.Warmed39 s.vm) (eT : T.heap = h) (F : OArr Z h a .int n f) {j : Int32} {i : Nat} (hj : own_ix j i) (hi : i < n) (hg : g.method = m) {rest : List Value} (hs : g.stack = .int j :: .ref a :: rest) (hd : decode c.code g.pc = .ok (.iaload, 1)) :
    ∀ t, Steps p.tables e below (T.setTop { g with pc := g.pc + 1, stack := f i :: rest }) t → Steps p.tables e below (T.setTop g) t := by
  obtain ⟨cl, A, r1, r2, r3⟩ := F
  exact X.iaload hx (by rw [eT]; exact A.1) (State.isArrayOf_alike hZ.alike A.2.1) A.2.2 (own_in r1 hj hi) (by rw [hj.2]; exact r3 i hi) hg hs hd
theorem own_ldJ (X : Stand p l e R s m args below meth c T locs cells slots) (hx : p.tables.exec = Jvm.exec) (hZ : Z.Warmed39 s.vm) (eT : T.heap = h) (F : OArr Z h a .long n f) {j : Int32} {i : Nat} (hj : own_ix j i) (hi : i < n) (hg : g.method = m) {rest : List Value} (hs : g.stack = .int j :: .ref a :: rest) (hd : decode c.code g.pc = .ok (.laload, 1)) :
    ∀ t, Steps p.tables e below (T.setTop { g with pc := g.pc + 1, stack := f i :: rest }) t → Steps p.tables e below (T.setTop g) t := by
  obtain ⟨cl, A, r1, r2, r3⟩ := F
  exact X.laload hx (by rw [eT]; exact A.1) (State.isArrayOf_alike hZ.alike A.2.1) A.2.2 (own_in r1 hj hi) (by rw [hj.2]; exact r3 i hi) hg hs hd
theorem own_ldB (X : Stand p l e R s m args below meth c T locs cells slots) (hx : p.tables.exec = Jvm.exec) (hZ : Z.Warmed39 s.vm) (eT : T.heap = h) (F : OArr Z h a .byte n f) {j : Int32} {i : Nat} (hj : own_ix j i) (hi : i < n) (hg : g.method = m) {rest : List Value} (hs : g.stack = .int j :: .ref a :: rest) (hd : decode c.code g.pc = .ok (.baload, 1)) :
    ∀ t, Steps p.tables e below (T.setTop { g with pc := g.pc + 1, stack := f i :: rest }) t → Steps p.tables e below (T.setTop g) t := by
  obtain ⟨cl, A, r1, r2, r3⟩ := F
  exact X.baloadBytes hx (by rw [eT]; exact A.1) (State.isArrayOf_alike hZ.alike A.2.1) A.2.2 (own_in r1 hj hi) (by rw [hj.2]; exact r3 i hi) hg hs hd
theorem own_stI (X : Stand p l e R s m args below meth c T locs cells slots) (hx : p.tables.exec = Jvm.exec) (hZ : Z.Warmed39 s.vm) (eT : T.heap = h) (F : OArr Z h a .int n f) {j x : Int32} {i : Nat} (hj : own_ix j i) (hi : i < n) (hg : g.method = m) {rest : List Value} (hs : g.stack = .int x :: .int j :: .ref a :: rest) (hd : decode c.code g.pc = .ok (.iastore, 1)) :
    ∃ T' h', Stand p l e R s m args below meth c T' (locs ++ [⟨a, j.toNatClampNeg⟩]) cells slots ∧ T'.heap = h' ∧ Wr h h' a j.toNatClampNeg (.int x) ∧ OArr Z h' a .int n (own_upd f i (.int x)) ∧ ∀ t, Steps p.tables e below (T'.setTop { g with pc := g.pc + 1, stack := rest }) t → Steps p.tables e below (T.setTop g) t := by
  obtain ⟨cl, A, r1, r2, r3⟩ := id F
  obtain ⟨T', h', X', e', W, st⟩ := stI X hx hZ eT A (own_in r1 hj hi) hg hs hd
  exact ⟨T', h', X', e', W, F.wr hj W, st⟩
theorem own_stJ (X : Stand p l e R s m args below meth c T locs cells slots) (hx : p.tables.exec = Jvm.exec) (hZ : Z.Warmed39 s.vm) (eT : T.heap = h) (F : OArr Z h a .long n f) {j : Int32} {x : Int64} {i : Nat} (hj : own_ix j i) (hi : i < n) (hg : g.method = m) {rest : List Value} (hs : g.stack = .long x :: .int j :: .ref a :: rest) (hd : decode c.code g.pc = .ok (.lastore, 1)) :
    ∃ T' h', Stand p l e R s m args below meth c T' (locs ++ [⟨a, j.toNatClampNeg⟩]) cells slots ∧ T'.heap = h' ∧ Wr h h' a j.toNatClampNeg (.long x) ∧ OArr Z h' a .long n (own_upd f i (.long x)) ∧ ∀ t, Steps p.tables e below (T'.setTop { g with pc := g.pc + 1, stack := rest }) t → Steps p.tables e below (T.setTop g) t := by
  obtain ⟨cl, A, r1, r2, r3⟩ := id F
  obtain ⟨T', h', X', e', W, st⟩ := stJ X hx hZ eT A (own_in r1 hj hi) hg hs hd
  exact ⟨T', h', X', e', W, F.wr hj W, st⟩
theorem own_newA (X : Stand p l e R s m args below meth c T locs cells slots) (hx : p.tables.exec = Jvm.exec) (hZ : Z.Warmed39 s.vm) {aty : ArrayType} (w : (Cond.arrayClass (newarray.typeOf aty)).before a0 Z = true) (eT : T.heap = h) (hg : g.method = m) (hd : decode c.code g.pc = .ok (.newarray aty, 2)) {z : Int32} {rest : List Value} (hs : g.stack = .int z :: rest)
    (hj : own_ix z n) {cap : Nat} (hcap : n ≤ cap) (hb : cap * 8 ≤ 536870912) (hc : cells + 1 ≤ R.cells) (hl : slots + cap ≤ R.slots) :
    ∃ T' h' b, b = h.size ∧ Stand p l e R s m args below meth c T' locs (cells + 1) (slots + cap) ∧ T'.heap = h' ∧ Ext h h' ∧ OArr Z h' b (newarray.typeOf aty) n (fun _ => defaultValue (newarray.typeOf aty)) ∧
      ∀ t, Steps p.tables e below (T'.setTop { g with pc := g.pc + 2, stack := .ref b :: rest }) t → Steps p.tables e below (T.setTop g) t := by
  obtain ⟨T', h', cA, X', e', E, A, st⟩ := newP X hx hZ w eT hg hd hs hj.1 (cap := cap) (by rw [hj.2]; exact hcap) hb hc hl
  have q := back32 hj.1
  rw [hj.2] at q
  refine ⟨T', h', _, rfl, X', e', E, ⟨_, A, (sz_new _ _ _).trans hj.2, q.2, fun k hk => ?_⟩, st⟩
  show (Array.replicate z.toNatClampNeg (defaultValue (newarray.typeOf aty)))[k]? = _
  rw [hj.2, Array.getElem?_replicate, if_pos hk]
theorem own_keepL {x : Addr} {L : List Addr} (K : Keep h h' L) (q : x ∉ L) {cl : Cell} (hc : h[x]? = some cl) : h'[x]? = some cl := K.2.1 x cl hc q
theorem own_pop2L {tb : Tables} [Ours tb] {target : State} (h : At T m c below) (hx : tb.exec = Jvm.exec) (hg : g.method = m) {x : Int64} {rest : List Value} (hd : decode c.code g.pc = .ok (.pop2, 1)) (hs : g.stack = .long x :: rest)
    (hr : Steps tb e below (T.setTop { g with pc := g.pc + 1, stack := rest }) target) : Steps tb e below (T.setTop g) target := by
  subst hg
  jvm_step h [h.top, hx, hd, hs, Value.category]
  exact hr
end Own
theorem own_d_prog_18_method_20_0 : decode prog_18_method_20_code 0 = .ok (.iload_n 0, 1) := by decide +kernel
theorem own_d_prog_18_method_20_1 : decode prog_18_method_20_code 1 = .ok (.bipush 48, 2) := by decide +kernel
theorem own_d_prog_18_method_20_3 : decode prog_18_method_20_code 3 = .ok (.if_icmp .lt 13, 3) := by decide +kernel
theorem own_d_prog_18_method_20_16 : decode prog_18_method_20_code 16 = .ok (.iconst 0, 1) := by decide +kernel
theorem own_d_prog_18_method_20_17 : decode prog_18_method_20_code 17 = .ok (.ireturn, 1) := by decide +kernel
theorem own_d_prog_18_method_20_6 : decode prog_18_method_20_code 6 = .ok (.iload_n 0, 1) := by decide +kernel
theorem own_d_prog_18_method_20_7 : decode prog_18_method_20_code 7 = .ok (.bipush 57, 2) := by decide +kernel
theorem own_d_prog_18_method_20_9 : decode prog_18_method_20_code 9 = .ok (.if_icmp .gt 7, 3) := by decide +kernel
theorem own_d_prog_18_method_20_12 : decode prog_18_method_20_code 12 = .ok (.iconst 1, 1) := by decide +kernel
theorem own_d_prog_18_method_20_13 : decode prog_18_method_20_code 13 = .ok (.goto 4, 3) := by decide +kernel
theorem own_pn0 : plainName "com/example/urd/urd/Text" = true := by first | (simp [plainName, overriddenIn]; done) | decide +kernel
theorem own_pd0 : parseMethodDescriptor "(C)Z" = some ⟨[.char], some .boolean⟩ := by decide +kernel
theorem own_pn1 : plainName "com/example/urd/urd/TextIsDigitPinLaw" = true := by first | (simp [plainName, overriddenIn]; done) | decide +kernel
def own_dig (c : Int32) : Int32 := if c < 48 then 0 else if 57 < c then 0 else 1
theorem own_dig_1 {c k : Int32} (h : c = k) (h1 : ¬ k < 48) (h2 : ¬ 57 < k) : own_dig c = 1 := by subst h; unfold own_dig; rw [if_neg h1, if_neg h2]
theorem own_dig_0 {c : Int32} (h0 : ¬ c = 48) (h1 : ¬ c = 49) (h2 : ¬ c = 50) (h3 : ¬ c = 51) (h4 : ¬ c = 52) (h5 : ¬ c = 53) (h6 : ¬ c = 54) (h7 : ¬ c = 55) (h8 : ¬ c = 56) (h9 : ¬ c = 57) : own_dig c = 0 := by
  unfold own_dig
  by_cases q : c < 48
  · rw [if_pos q]
  · rw [if_neg q]
    refine if_pos ?_
    rw [Int32.lt_iff_toInt_lt] at *
    rw [← Int32.toInt_inj] at h0 h1 h2 h3 h4 h5 h6 h7 h8 h9
    simp only [show (48 : Int32).toInt = 48 from rfl, show (49 : Int32).toInt = 49 from rfl, show (50 : Int32).toInt = 50 from rfl, show (51 : Int32).toInt = 51 from rfl, show (52 : Int32).toInt = 52 from rfl, show (53 : Int32).toInt = 53 from rfl, show (54 : Int32).toInt = 54 from rfl, show (55 : Int32).toInt = 55 from rfl, show (56 : Int32).toInt = 56 from rfl, show (57 : Int32).toInt = 57 from rfl] at *
    omega
theorem own_ef_rm1 (m : MethodId) (x0 : Int32) : entryFrame m #[(.int x0)] 1 = mkF m 0 #[.val (.int x0)] [] := by first | (simp [entryFrame, mkF, argsToLocals, Value.category]; done) | rfl
def R_rm1 : Room := { frames := 0, cells := 0, slots := 0, locals := 0 }
def Q_rm1 (Z : State) (q0 : Int32) (h0 : Heap) (n0 : Nat) (v : Option Value) (h : Heap) (L : List Loc) : Prop := v = some (.int (own_dig q0)) ∧ Fr n0 L ∧ h = h0
set_option maxRecDepth 65536 in
set_option maxHeartbeats 40000000 in
theorem rm1 (l : Launch) (Z : State) (a0 : Array Value) (hw : ∀ d ∈ tables_1, d.before a0 Z = true) (ws : List Jvm.Cond) (q0 : Int32) (h0 : Heap) (n0 : Nat) (Z0 : n0 ≤ h0.size) :
    MetFree l (⟨"com/example/urd/urd/Text", "isDigit", "(C)Z"⟩ : MethodName) (head1 (Jvm.Cond.code (⟨"com/example/urd/urd/Text", "isDigit", "(C)Z"⟩ : MethodName) prog_18_method_20_code 1 (some .boolean) :: ws) R_rm1) (fun vs_ U => vs_ = #[(.int q0)] ∧ Z.Warmed39 U.vm ∧ U.heap = h0) (fun _ _ _ _ _ => True) (fun _ U o U' => ∃ v L, o = .returned v ∧ Q_rm1 Z q0 h0 n0 v U'.heap L ∧ FrameEnd U o U' L R_rm1.cells R_rm1.slots) := by
  refine MetFree.of_bodySF (plainFor_of_name own_pn0) hisR ?_
  intro p e s m args below meth c s₁ Bd hml0 hP hK
  obtain ⟨rfl, hZ, hh⟩ := hP
  have hx := Bd.exec
  have hby := Bd.bytes
  have hml : c.maxLocals = 1 := hml0
  have hown : s.vm.findClass "com/example/urd/urd/Text" = some m.cls := findClass_of_methodNamed Bd.named
  have hnm := (name_of_methodNamed Bd.named Bd.method).1
  have hlk : meth.locks = false := BodyLoose.notSynchronized Bd
  have X0 : Stand p l e R_rm1 s m #[(.int q0)] below meth c s₁ [] 0 0 := Stand.of_body Bd
  have e0 : s₁.heap = h0 := by rw [← hh, Bd.state]; rfl
  have N0 := Fr.nil n0
  refine OGo.en (Q := Q_rm1 Z q0 h0 n0) (C := R_rm1.cells) (S := R_rm1.slots) (own_ef_rm1 m q0) ?_
  refine OGo.st (T' := s₁) (g' := (mkF m 3 #[.val (.int q0)] [(.int (48 : Int32)), (.int q0)])) (fun _ k => (XS.iloadN X0.here hx rfl (hb hby own_d_prog_18_method_20_0) rfl (XS.bipush X0.here hx rfl (hb hby own_d_prog_18_method_20_1) k))) ?_
  by_cases hc1 : q0 < (48 : Int32)
  · refine OGo.st (T' := s₁) (g' := (mkF m 17 #[.val (.int q0)] [(.int (0 : Int32))])) (fun _ k => (XS.icmpYes X0.here hx rfl (pc0 := 3) (pc' := 16) rfl (hb hby own_d_prog_18_method_20_3) rfl (tlt hc1).1 (by decide) (by decide) (XS.iconst X0.here hx rfl (hb hby own_d_prog_18_method_20_16) k))) ?_
    exact OGo.ret X0 hx hlk Bd.returns rfl (own_rI (Or.inr (Or.inl rfl))) (hb hby own_d_prog_18_method_20_17) (by decide) (by decide) e0 (⟨congrArg (fun z => some (Value.int z)) (show own_dig q0 = _ from (if_pos hc1)).symm, N0, rfl⟩)
  · refine OGo.st (T' := s₁) (g' := (mkF m 9 #[.val (.int q0)] [(.int (57 : Int32)), (.int q0)])) (fun _ k => (XS.icmpNo X0.here hx rfl (hb hby own_d_prog_18_method_20_3) rfl (flt hc1).1 (XS.iloadN X0.here hx rfl (hb hby own_d_prog_18_method_20_6) rfl (XS.bipush X0.here hx rfl (hb hby own_d_prog_18_method_20_7) k)))) ?_
    by_cases hc2 : (57 : Int32) < q0
    · refine OGo.st (T' := s₁) (g' := (mkF m 17 #[.val (.int q0)] [(.int (0 : Int32))])) (fun _ k => (XS.icmpYes X0.here hx rfl (pc0 := 9) (pc' := 16) rfl (hb hby own_d_prog_18_method_20_9) rfl (tlt hc2).2.2.1 (by decide) (by decide) (XS.iconst X0.here hx rfl (hb hby own_d_prog_18_method_20_16) k))) ?_
      exact OGo.ret X0 hx hlk Bd.returns rfl (own_rI (Or.inr (Or.inl rfl))) (hb hby own_d_prog_18_method_20_17) (by decide) (by decide) e0 (⟨congrArg (fun z => some (Value.int z)) (show own_dig q0 = _ from ((if_neg hc1).trans (if_pos hc2))).symm, N0, rfl⟩)
    · refine OGo.st (T' := s₁) (g' := (mkF m 17 #[.val (.int q0)] [(.int (1 : Int32))])) (fun _ k => (XS.icmpNo X0.here hx rfl (hb hby own_d_prog_18_method_20_9) rfl (flt hc2).2.2.1 (XS.iconst X0.here hx rfl (hb hby own_d_prog_18_method_20_12) (XS.goto X0.here hx rfl (pc0 := 13) (pc' := 17) rfl (hb hby own_d_prog_18_method_20_13) (by decide) (by decide) k)))) ?_
      exact OGo.ret X0 hx hlk Bd.returns rfl (own_rI (Or.inr (Or.inl rfl))) (hb hby own_d_prog_18_method_20_17) (by decide) (by decide) e0 (⟨congrArg (fun z => some (Value.int z)) (show own_dig q0 = _ from ((if_neg hc1).trans (if_neg hc2))).symm, N0, rfl⟩)
theorem own_ef_rm0 (m : MethodId) (x0 : Int32) : entryFrame m #[(.int x0)] maxLocals = mkF m 0 #[.val (.int x0), .unset, .unset] [] := by first | (simp [entryFrame, mkF, argsToLocals, Value.category, maxLocals]; done) | rfl
def Q_rm0 (Z : State) (p0 : Int32) (h0 : Heap) (n0 : Nat) (v : Option Value) (h : Heap) (L : List Loc) : Prop := v = some (.int 1) ∧ Fr n0 L
set_option maxRecDepth 65536 in
set_option maxHeartbeats 40000000 in
theorem rm0 (l : Launch) (Z : State) (a0 : Array Value) (hw : ∀ d ∈ tables_1, d.before a0 Z = true) (ws : List Jvm.Cond) (p0 : Int32) (h0 : Heap) (n0 : Nat) (Z0 : n0 ≤ h0.size) :
    MetFree l x (head1 (Jvm.Cond.code x code maxLocals ret :: ws) room_1) (fun vs_ U => vs_ = #[(.int p0)] ∧ Z.Warmed39 U.vm ∧ U.heap = h0) (fun _ _ _ _ _ => True) (fun _ U o U' => ∃ v L, o = .returned v ∧ Q_rm0 Z p0 h0 n0 v U'.heap L ∧ FrameEnd U o U' L 0 0) := by
  refine MetFree.of_bodySF (plainFor_of_name own_pn1) hisR ?_
  intro p e s m args below meth c s₁ Bd hml0 hP hK
  obtain ⟨rfl, hZ, hh⟩ := hP
  have hx := Bd.exec
  have hby := Bd.bytes
  have hml : c.maxLocals = 3 := hml0
  have hown : s.vm.findClass "com/example/urd/urd/TextIsDigitPinLaw" = some m.cls := findClass_of_methodNamed Bd.named
  have hnm := (name_of_methodNamed Bd.named Bd.method).1
  have hlk : meth.locks = false := BodyLoose.notSynchronized Bd
  have X0 : Stand p l e room_1 s m #[(.int p0)] below meth c s₁ [] 0 0 := Stand.of_body Bd
  have e0 : s₁.heap = h0 := by rw [← hh, Bd.state]; rfl
  have N0 := Fr.nil n0
  refine OGo.en (Q := Q_rm0 Z p0 h0 n0) (C := 0) (S := 0) (own_ef_rm0 m p0) ?_
  refine OGo.st (T' := s₁) (g' := (mkF m 6 #[.val (.int p0), .val (.int ((p0 &&& (65535 : Int32)).toUInt32.toUInt16.toUInt32.toInt32)), .unset] [])) (fun _ k => (XS.iloadN X0.here hx rfl (hb hby at_0) rfl (X0.ldcInt hx hown (mvT hZ (hw _ (List.mem_of_getElem? (i := 0) rfl))) (g := (mkF m 1 #[.val (.int p0), .unset, .unset] [(.int p0)])) rfl (hb hby at_1) _ (XS.iand X0.here hx rfl (hb hby at_3) rfl (XS.i2c X0.here hx rfl (hb hby at_4) rfl (XS.istoreN X0.here hx rfl (hb hby at_5) rfl (l' := #[.val (.int p0), .val (.int ((p0 &&& (65535 : Int32)).toUInt32.toUInt16.toUInt32.toInt32)), .unset]) rfl k)))))) ?_
  generalize h_cc : ((p0 &&& (65535 : Int32)).toUInt32.toUInt16.toUInt32.toInt32) = cc
  refine OGo.st (T' := s₁) (g' := (mkF m 9 #[.val (.int p0), .val (.int cc), .unset] [(.int (48 : Int32)), (.int cc)])) (fun _ k => (XS.iloadN X0.here hx rfl (hb hby at_6) rfl (XS.bipush X0.here hx rfl (hb hby at_7) k))) ?_
  by_cases hc1 : cc = (48 : Int32)
  · refine OGo.st (T' := s₁) (g' := (mkF m 73 #[.val (.int p0), .val (.int cc), .val (.int (1 : Int32))] [(.int cc)])) (fun _ k => (XS.icmpYes X0.here hx rfl (pc0 := 9) (pc' := 66) rfl (hb hby at_9) rfl (teq hc1).1 (by decide) (by decide) (XS.iconst X0.here hx rfl (hb hby at_66) (XS.goto X0.here hx rfl (pc0 := 67) (pc' := 71) rfl (hb hby at_67) (by decide) (by decide) (XS.istoreN X0.here hx rfl (hb hby at_71) rfl (l' := #[.val (.int p0), .val (.int cc), .val (.int (1 : Int32))]) rfl (XS.iloadN X0.here hx rfl (hb hby at_72) rfl k)))))) ?_
    obtain ⟨_, _, ⟨T2, L2, k2, n2⟩, -, X2, ⟨Lc2, hQ2, l2, y2, z2⟩, st2⟩ := Jvm.LawKit.callS X0 hx (y := (⟨"com/example/urd/urd/Text", "isDigit", "(C)Z"⟩ : MethodName)) hown (mvT hZ (hw _ (List.mem_of_getElem? (i := 1) rfl))) (mvT hZ (hw _ (List.mem_of_getElem? (i := 2) rfl))) (mvT hZ (hw _ (List.mem_of_getElem? (i := 3) rfl))) (mvT hZ (hw _ (List.mem_of_getElem? (i := 4) rfl))) (by decide) (backOf (W := 0) (rm1 l Z a0 hw [] (cc) h0 n0 Z0 ) hZ (hw _ (List.mem_of_getElem? (i := 4) rfl)) (hw _ (List.mem_of_getElem? (i := 3) rfl)) (by decide) (by decide)) (g := (mkF m 73 #[.val (.int p0), .val (.int cc), .val (.int (1 : Int32))] [(.int cc)])) rfl (by rw [hml]; rfl) (argsL := [(.int cc)]) (rest := []) (lenOf own_pd0 rfl) rfl (by show 2 * 0 + _ ≤ _; exact Nat.le_of_eq rfl) (hb hby at_73) (fun _ _ => ⟨rfl, e0, (by decide : 0 + 0 ≤ _), (by decide : 0 + 0 ≤ _)⟩)
    dsimp only [Pt.U, Pt.locs, Pt.cells, Pt.slots] at X2 l2 y2 z2 st2 hQ2
    subst l2 y2 z2
    have X2 : Stand p l e room_1 s m _ below meth c T2 _ 0 0 := X2
    obtain ⟨rfl, N2, e2⟩ := hQ2
    have N2 := Fr.app N0 N2
    refine OGo.st (T' := T2) (g' := (mkF m 76 #[.val (.int p0), .val (.int cc), .val (.int (1 : Int32))] [(.int (own_dig cc))])) (fun _ k => st2 _ k) ?_
    refine OGo.st (T' := T2) (g' := (mkF m 85 #[.val (.int p0), .val (.int cc), .val (.int (1 : Int32))] [(.int (1 : Int32))])) (fun _ k => (XS.iloadN X2.here hx rfl (hb hby at_76) rfl (XS.icmpNo X2.here hx rfl (hb hby at_77) rfl (teq (own_dig_1 hc1 (by decide) (by decide) : (own_dig cc) = (1 : Int32))).2 (XS.iconst X2.here hx rfl (hb hby at_80) (XS.goto X2.here hx rfl (pc0 := 81) (pc' := 85) rfl (hb hby at_81) (by decide) (by decide) k))))) ?_
    exact OGo.ret X2 hx hlk Bd.returns rfl (own_rI (Or.inr (Or.inl rfl))) (hb hby at_85) (by decide) (by decide) e2 (⟨rfl, N2⟩)
  · refine OGo.st (T' := s₁) (g' := (mkF m 15 #[.val (.int p0), .val (.int cc), .unset] [(.int (49 : Int32)), (.int cc)])) (fun _ k => (XS.icmpNo X0.here hx rfl (hb hby at_9) rfl (feq hc1).1 (XS.iloadN X0.here hx rfl (hb hby at_12) rfl (XS.bipush X0.here hx rfl (hb hby at_13) k)))) ?_
    by_cases hc3 : cc = (49 : Int32)
    · refine OGo.st (T' := s₁) (g' := (mkF m 73 #[.val (.int p0), .val (.int cc), .val (.int (1 : Int32))] [(.int cc)])) (fun _ k => (XS.icmpYes X0.here hx rfl (pc0 := 15) (pc' := 66) rfl (hb hby at_15) rfl (teq hc3).1 (by decide) (by decide) (XS.iconst X0.here hx rfl (hb hby at_66) (XS.goto X0.here hx rfl (pc0 := 67) (pc' := 71) rfl (hb hby at_67) (by decide) (by decide) (XS.istoreN X0.here hx rfl (hb hby at_71) rfl (l' := #[.val (.int p0), .val (.int cc), .val (.int (1 : Int32))]) rfl (XS.iloadN X0.here hx rfl (hb hby at_72) rfl k)))))) ?_
      obtain ⟨_, _, ⟨T4, L4, k4, n4⟩, -, X4, ⟨Lc4, hQ4, l4, y4, z4⟩, st4⟩ := Jvm.LawKit.callS X0 hx (y := (⟨"com/example/urd/urd/Text", "isDigit", "(C)Z"⟩ : MethodName)) hown (mvT hZ (hw _ (List.mem_of_getElem? (i := 1) rfl))) (mvT hZ (hw _ (List.mem_of_getElem? (i := 2) rfl))) (mvT hZ (hw _ (List.mem_of_getElem? (i := 3) rfl))) (mvT hZ (hw _ (List.mem_of_getElem? (i := 4) rfl))) (by decide) (backOf (W := 0) (rm1 l Z a0 hw [] (cc) h0 n0 Z0 ) hZ (hw _ (List.mem_of_getElem? (i := 4) rfl)) (hw _ (List.mem_of_getElem? (i := 3) rfl)) (by decide) (by decide)) (g := (mkF m 73 #[.val (.int p0), .val (.int cc), .val (.int (1 : Int32))] [(.int cc)])) rfl (by rw [hml]; rfl) (argsL := [(.int cc)]) (rest := []) (lenOf own_pd0 rfl) rfl (by show 2 * 0 + _ ≤ _; exact Nat.le_of_eq rfl) (hb hby at_73) (fun _ _ => ⟨rfl, e0, (by decide : 0 + 0 ≤ _), (by decide : 0 + 0 ≤ _)⟩)
      dsimp only [Pt.U, Pt.locs, Pt.cells, Pt.slots] at X4 l4 y4 z4 st4 hQ4
      subst l4 y4 z4
      have X4 : Stand p l e room_1 s m _ below meth c T4 _ 0 0 := X4
      obtain ⟨rfl, N4, e4⟩ := hQ4
      have N4 := Fr.app N0 N4
      refine OGo.st (T' := T4) (g' := (mkF m 76 #[.val (.int p0), .val (.int cc), .val (.int (1 : Int32))] [(.int (own_dig cc))])) (fun _ k => st4 _ k) ?_
      refine OGo.st (T' := T4) (g' := (mkF m 85 #[.val (.int p0), .val (.int cc), .val (.int (1 : Int32))] [(.int (1 : Int32))])) (fun _ k => (XS.iloadN X4.here hx rfl (hb hby at_76) rfl (XS.icmpNo X4.here hx rfl (hb hby at_77) rfl (teq (own_dig_1 hc3 (by decide) (by decide) : (own_dig cc) = (1 : Int32))).2 (XS.iconst X4.here hx rfl (hb hby at_80) (XS.goto X4.here hx rfl (pc0 := 81) (pc' := 85) rfl (hb hby at_81) (by decide) (by decide) k))))) ?_
      exact OGo.ret X4 hx hlk Bd.returns rfl (own_rI (Or.inr (Or.inl rfl))) (hb hby at_85) (by decide) (by decide) e4 (⟨rfl, N4⟩)
    · refine OGo.st (T' := s₁) (g' := (mkF m 21 #[.val (.int p0), .val (.int cc), .unset] [(.int (50 : Int32)), (.int cc)])) (fun _ k => (XS.icmpNo X0.here hx rfl (hb hby at_15) rfl (feq hc3).1 (XS.iloadN X0.here hx rfl (hb hby at_18) rfl (XS.bipush X0.here hx rfl (hb hby at_19) k)))) ?_
      by_cases hc5 : cc = (50 : Int32)
      · refine OGo.st (T' := s₁) (g' := (mkF m 73 #[.val (.int p0), .val (.int cc), .val (.int (1 : Int32))] [(.int cc)])) (fun _ k => (XS.icmpYes X0.here hx rfl (pc0 := 21) (pc' := 66) rfl (hb hby at_21) rfl (teq hc5).1 (by decide) (by decide) (XS.iconst X0.here hx rfl (hb hby at_66) (XS.goto X0.here hx rfl (pc0 := 67) (pc' := 71) rfl (hb hby at_67) (by decide) (by decide) (XS.istoreN X0.here hx rfl (hb hby at_71) rfl (l' := #[.val (.int p0), .val (.int cc), .val (.int (1 : Int32))]) rfl (XS.iloadN X0.here hx rfl (hb hby at_72) rfl k)))))) ?_
        obtain ⟨_, _, ⟨T6, L6, k6, n6⟩, -, X6, ⟨Lc6, hQ6, l6, y6, z6⟩, st6⟩ := Jvm.LawKit.callS X0 hx (y := (⟨"com/example/urd/urd/Text", "isDigit", "(C)Z"⟩ : MethodName)) hown (mvT hZ (hw _ (List.mem_of_getElem? (i := 1) rfl))) (mvT hZ (hw _ (List.mem_of_getElem? (i := 2) rfl))) (mvT hZ (hw _ (List.mem_of_getElem? (i := 3) rfl))) (mvT hZ (hw _ (List.mem_of_getElem? (i := 4) rfl))) (by decide) (backOf (W := 0) (rm1 l Z a0 hw [] (cc) h0 n0 Z0 ) hZ (hw _ (List.mem_of_getElem? (i := 4) rfl)) (hw _ (List.mem_of_getElem? (i := 3) rfl)) (by decide) (by decide)) (g := (mkF m 73 #[.val (.int p0), .val (.int cc), .val (.int (1 : Int32))] [(.int cc)])) rfl (by rw [hml]; rfl) (argsL := [(.int cc)]) (rest := []) (lenOf own_pd0 rfl) rfl (by show 2 * 0 + _ ≤ _; exact Nat.le_of_eq rfl) (hb hby at_73) (fun _ _ => ⟨rfl, e0, (by decide : 0 + 0 ≤ _), (by decide : 0 + 0 ≤ _)⟩)
        dsimp only [Pt.U, Pt.locs, Pt.cells, Pt.slots] at X6 l6 y6 z6 st6 hQ6
        subst l6 y6 z6
        have X6 : Stand p l e room_1 s m _ below meth c T6 _ 0 0 := X6
        obtain ⟨rfl, N6, e6⟩ := hQ6
        have N6 := Fr.app N0 N6
        refine OGo.st (T' := T6) (g' := (mkF m 76 #[.val (.int p0), .val (.int cc), .val (.int (1 : Int32))] [(.int (own_dig cc))])) (fun _ k => st6 _ k) ?_
        refine OGo.st (T' := T6) (g' := (mkF m 85 #[.val (.int p0), .val (.int cc), .val (.int (1 : Int32))] [(.int (1 : Int32))])) (fun _ k => (XS.iloadN X6.here hx rfl (hb hby at_76) rfl (XS.icmpNo X6.here hx rfl (hb hby at_77) rfl (teq (own_dig_1 hc5 (by decide) (by decide) : (own_dig cc) = (1 : Int32))).2 (XS.iconst X6.here hx rfl (hb hby at_80) (XS.goto X6.here hx rfl (pc0 := 81) (pc' := 85) rfl (hb hby at_81) (by decide) (by decide) k))))) ?_
        exact OGo.ret X6 hx hlk Bd.returns rfl (own_rI (Or.inr (Or.inl rfl))) (hb hby at_85) (by decide) (by decide) e6 (⟨rfl, N6⟩)
      · refine OGo.st (T' := s₁) (g' := (mkF m 27 #[.val (.int p0), .val (.int cc), .unset] [(.int (51 : Int32)), (.int cc)])) (fun _ k => (XS.icmpNo X0.here hx rfl (hb hby at_21) rfl (feq hc5).1 (XS.iloadN X0.here hx rfl (hb hby at_24) rfl (XS.bipush X0.here hx rfl (hb hby at_25) k)))) ?_
        by_cases hc7 : cc = (51 : Int32)
        · refine OGo.st (T' := s₁) (g' := (mkF m 73 #[.val (.int p0), .val (.int cc), .val (.int (1 : Int32))] [(.int cc)])) (fun _ k => (XS.icmpYes X0.here hx rfl (pc0 := 27) (pc' := 66) rfl (hb hby at_27) rfl (teq hc7).1 (by decide) (by decide) (XS.iconst X0.here hx rfl (hb hby at_66) (XS.goto X0.here hx rfl (pc0 := 67) (pc' := 71) rfl (hb hby at_67) (by decide) (by decide) (XS.istoreN X0.here hx rfl (hb hby at_71) rfl (l' := #[.val (.int p0), .val (.int cc), .val (.int (1 : Int32))]) rfl (XS.iloadN X0.here hx rfl (hb hby at_72) rfl k)))))) ?_
          obtain ⟨_, _, ⟨T8, L8, k8, n8⟩, -, X8, ⟨Lc8, hQ8, l8, y8, z8⟩, st8⟩ := Jvm.LawKit.callS X0 hx (y := (⟨"com/example/urd/urd/Text", "isDigit", "(C)Z"⟩ : MethodName)) hown (mvT hZ (hw _ (List.mem_of_getElem? (i := 1) rfl))) (mvT hZ (hw _ (List.mem_of_getElem? (i := 2) rfl))) (mvT hZ (hw _ (List.mem_of_getElem? (i := 3) rfl))) (mvT hZ (hw _ (List.mem_of_getElem? (i := 4) rfl))) (by decide) (backOf (W := 0) (rm1 l Z a0 hw [] (cc) h0 n0 Z0 ) hZ (hw _ (List.mem_of_getElem? (i := 4) rfl)) (hw _ (List.mem_of_getElem? (i := 3) rfl)) (by decide) (by decide)) (g := (mkF m 73 #[.val (.int p0), .val (.int cc), .val (.int (1 : Int32))] [(.int cc)])) rfl (by rw [hml]; rfl) (argsL := [(.int cc)]) (rest := []) (lenOf own_pd0 rfl) rfl (by show 2 * 0 + _ ≤ _; exact Nat.le_of_eq rfl) (hb hby at_73) (fun _ _ => ⟨rfl, e0, (by decide : 0 + 0 ≤ _), (by decide : 0 + 0 ≤ _)⟩)
          dsimp only [Pt.U, Pt.locs, Pt.cells, Pt.slots] at X8 l8 y8 z8 st8 hQ8
          subst l8 y8 z8
          have X8 : Stand p l e room_1 s m _ below meth c T8 _ 0 0 := X8
          obtain ⟨rfl, N8, e8⟩ := hQ8
          have N8 := Fr.app N0 N8
          refine OGo.st (T' := T8) (g' := (mkF m 76 #[.val (.int p0), .val (.int cc), .val (.int (1 : Int32))] [(.int (own_dig cc))])) (fun _ k => st8 _ k) ?_
          refine OGo.st (T' := T8) (g' := (mkF m 85 #[.val (.int p0), .val (.int cc), .val (.int (1 : Int32))] [(.int (1 : Int32))])) (fun _ k => (XS.iloadN X8.here hx rfl (hb hby at_76) rfl (XS.icmpNo X8.here hx rfl (hb hby at_77) rfl (teq (own_dig_1 hc7 (by decide) (by decide) : (own_dig cc) = (1 : Int32))).2 (XS.iconst X8.here hx rfl (hb hby at_80) (XS.goto X8.here hx rfl (pc0 := 81) (pc' := 85) rfl (hb hby at_81) (by decide) (by decide) k))))) ?_
          exact OGo.ret X8 hx hlk Bd.returns rfl (own_rI (Or.inr (Or.inl rfl))) (hb hby at_85) (by decide) (by decide) e8 (⟨rfl, N8⟩)
        · refine OGo.st (T' := s₁) (g' := (mkF m 33 #[.val (.int p0), .val (.int cc), .unset] [(.int (52 : Int32)), (.int cc)])) (fun _ k => (XS.icmpNo X0.here hx rfl (hb hby at_27) rfl (feq hc7).1 (XS.iloadN X0.here hx rfl (hb hby at_30) rfl (XS.bipush X0.here hx rfl (hb hby at_31) k)))) ?_
          by_cases hc9 : cc = (52 : Int32)
          · refine OGo.st (T' := s₁) (g' := (mkF m 73 #[.val (.int p0), .val (.int cc), .val (.int (1 : Int32))] [(.int cc)])) (fun _ k => (XS.icmpYes X0.here hx rfl (pc0 := 33) (pc' := 66) rfl (hb hby at_33) rfl (teq hc9).1 (by decide) (by decide) (XS.iconst X0.here hx rfl (hb hby at_66) (XS.goto X0.here hx rfl (pc0 := 67) (pc' := 71) rfl (hb hby at_67) (by decide) (by decide) (XS.istoreN X0.here hx rfl (hb hby at_71) rfl (l' := #[.val (.int p0), .val (.int cc), .val (.int (1 : Int32))]) rfl (XS.iloadN X0.here hx rfl (hb hby at_72) rfl k)))))) ?_
            obtain ⟨_, _, ⟨T10, L10, k10, n10⟩, -, X10, ⟨Lc10, hQ10, l10, y10, z10⟩, st10⟩ := Jvm.LawKit.callS X0 hx (y := (⟨"com/example/urd/urd/Text", "isDigit", "(C)Z"⟩ : MethodName)) hown (mvT hZ (hw _ (List.mem_of_getElem? (i := 1) rfl))) (mvT hZ (hw _ (List.mem_of_getElem? (i := 2) rfl))) (mvT hZ (hw _ (List.mem_of_getElem? (i := 3) rfl))) (mvT hZ (hw _ (List.mem_of_getElem? (i := 4) rfl))) (by decide) (backOf (W := 0) (rm1 l Z a0 hw [] (cc) h0 n0 Z0 ) hZ (hw _ (List.mem_of_getElem? (i := 4) rfl)) (hw _ (List.mem_of_getElem? (i := 3) rfl)) (by decide) (by decide)) (g := (mkF m 73 #[.val (.int p0), .val (.int cc), .val (.int (1 : Int32))] [(.int cc)])) rfl (by rw [hml]; rfl) (argsL := [(.int cc)]) (rest := []) (lenOf own_pd0 rfl) rfl (by show 2 * 0 + _ ≤ _; exact Nat.le_of_eq rfl) (hb hby at_73) (fun _ _ => ⟨rfl, e0, (by decide : 0 + 0 ≤ _), (by decide : 0 + 0 ≤ _)⟩)
            dsimp only [Pt.U, Pt.locs, Pt.cells, Pt.slots] at X10 l10 y10 z10 st10 hQ10
            subst l10 y10 z10
            have X10 : Stand p l e room_1 s m _ below meth c T10 _ 0 0 := X10
            obtain ⟨rfl, N10, e10⟩ := hQ10
            have N10 := Fr.app N0 N10
            refine OGo.st (T' := T10) (g' := (mkF m 76 #[.val (.int p0), .val (.int cc), .val (.int (1 : Int32))] [(.int (own_dig cc))])) (fun _ k => st10 _ k) ?_
            refine OGo.st (T' := T10) (g' := (mkF m 85 #[.val (.int p0), .val (.int cc), .val (.int (1 : Int32))] [(.int (1 : Int32))])) (fun _ k => (XS.iloadN X10.here hx rfl (hb hby at_76) rfl (XS.icmpNo X10.here hx rfl (hb hby at_77) rfl (teq (own_dig_1 hc9 (by decide) (by decide) : (own_dig cc) = (1 : Int32))).2 (XS.iconst X10.here hx rfl (hb hby at_80) (XS.goto X10.here hx rfl (pc0 := 81) (pc' := 85) rfl (hb hby at_81) (by decide) (by decide) k))))) ?_
            exact OGo.ret X10 hx hlk Bd.returns rfl (own_rI (Or.inr (Or.inl rfl))) (hb hby at_85) (by decide) (by decide) e10 (⟨rfl, N10⟩)
          · refine OGo.st (T' := s₁) (g' := (mkF m 39 #[.val (.int p0), .val (.int cc), .unset] [(.int (53 : Int32)), (.int cc)])) (fun _ k => (XS.icmpNo X0.here hx rfl (hb hby at_33) rfl (feq hc9).1 (XS.iloadN X0.here hx rfl (hb hby at_36) rfl (XS.bipush X0.here hx rfl (hb hby at_37) k)))) ?_
            by_cases hc11 : cc = (53 : Int32)
            · refine OGo.st (T' := s₁) (g' := (mkF m 73 #[.val (.int p0), .val (.int cc), .val (.int (1 : Int32))] [(.int cc)])) (fun _ k => (XS.icmpYes X0.here hx rfl (pc0 := 39) (pc' := 66) rfl (hb hby at_39) rfl (teq hc11).1 (by decide) (by decide) (XS.iconst X0.here hx rfl (hb hby at_66) (XS.goto X0.here hx rfl (pc0 := 67) (pc' := 71) rfl (hb hby at_67) (by decide) (by decide) (XS.istoreN X0.here hx rfl (hb hby at_71) rfl (l' := #[.val (.int p0), .val (.int cc), .val (.int (1 : Int32))]) rfl (XS.iloadN X0.here hx rfl (hb hby at_72) rfl k)))))) ?_
              obtain ⟨_, _, ⟨T12, L12, k12, n12⟩, -, X12, ⟨Lc12, hQ12, l12, y12, z12⟩, st12⟩ := Jvm.LawKit.callS X0 hx (y := (⟨"com/example/urd/urd/Text", "isDigit", "(C)Z"⟩ : MethodName)) hown (mvT hZ (hw _ (List.mem_of_getElem? (i := 1) rfl))) (mvT hZ (hw _ (List.mem_of_getElem? (i := 2) rfl))) (mvT hZ (hw _ (List.mem_of_getElem? (i := 3) rfl))) (mvT hZ (hw _ (List.mem_of_getElem? (i := 4) rfl))) (by decide) (backOf (W := 0) (rm1 l Z a0 hw [] (cc) h0 n0 Z0 ) hZ (hw _ (List.mem_of_getElem? (i := 4) rfl)) (hw _ (List.mem_of_getElem? (i := 3) rfl)) (by decide) (by decide)) (g := (mkF m 73 #[.val (.int p0), .val (.int cc), .val (.int (1 : Int32))] [(.int cc)])) rfl (by rw [hml]; rfl) (argsL := [(.int cc)]) (rest := []) (lenOf own_pd0 rfl) rfl (by show 2 * 0 + _ ≤ _; exact Nat.le_of_eq rfl) (hb hby at_73) (fun _ _ => ⟨rfl, e0, (by decide : 0 + 0 ≤ _), (by decide : 0 + 0 ≤ _)⟩)
              dsimp only [Pt.U, Pt.locs, Pt.cells, Pt.slots] at X12 l12 y12 z12 st12 hQ12
              subst l12 y12 z12
              have X12 : Stand p l e room_1 s m _ below meth c T12 _ 0 0 := X12
              obtain ⟨rfl, N12, e12⟩ := hQ12
              have N12 := Fr.app N0 N12
              refine OGo.st (T' := T12) (g' := (mkF m 76 #[.val (.int p0), .val (.int cc), .val (.int (1 : Int32))] [(.int (own_dig cc))])) (fun _ k => st12 _ k) ?_
              refine OGo.st (T' := T12) (g' := (mkF m 85 #[.val (.int p0), .val (.int cc), .val (.int (1 : Int32))] [(.int (1 : Int32))])) (fun _ k => (XS.iloadN X12.here hx rfl (hb hby at_76) rfl (XS.icmpNo X12.here hx rfl (hb hby at_77) rfl (teq (own_dig_1 hc11 (by decide) (by decide) : (own_dig cc) = (1 : Int32))).2 (XS.iconst X12.here hx rfl (hb hby at_80) (XS.goto X12.here hx rfl (pc0 := 81) (pc' := 85) rfl (hb hby at_81) (by decide) (by decide) k))))) ?_
              exact OGo.ret X12 hx hlk Bd.returns rfl (own_rI (Or.inr (Or.inl rfl))) (hb hby at_85) (by decide) (by decide) e12 (⟨rfl, N12⟩)
            · refine OGo.st (T' := s₁) (g' := (mkF m 45 #[.val (.int p0), .val (.int cc), .unset] [(.int (54 : Int32)), (.int cc)])) (fun _ k => (XS.icmpNo X0.here hx rfl (hb hby at_39) rfl (feq hc11).1 (XS.iloadN X0.here hx rfl (hb hby at_42) rfl (XS.bipush X0.here hx rfl (hb hby at_43) k)))) ?_
              by_cases hc13 : cc = (54 : Int32)
              · refine OGo.st (T' := s₁) (g' := (mkF m 73 #[.val (.int p0), .val (.int cc), .val (.int (1 : Int32))] [(.int cc)])) (fun _ k => (XS.icmpYes X0.here hx rfl (pc0 := 45) (pc' := 66) rfl (hb hby at_45) rfl (teq hc13).1 (by decide) (by decide) (XS.iconst X0.here hx rfl (hb hby at_66) (XS.goto X0.here hx rfl (pc0 := 67) (pc' := 71) rfl (hb hby at_67) (by decide) (by decide) (XS.istoreN X0.here hx rfl (hb hby at_71) rfl (l' := #[.val (.int p0), .val (.int cc), .val (.int (1 : Int32))]) rfl (XS.iloadN X0.here hx rfl (hb hby at_72) rfl k)))))) ?_
                obtain ⟨_, _, ⟨T14, L14, k14, n14⟩, -, X14, ⟨Lc14, hQ14, l14, y14, z14⟩, st14⟩ := Jvm.LawKit.callS X0 hx (y := (⟨"com/example/urd/urd/Text", "isDigit", "(C)Z"⟩ : MethodName)) hown (mvT hZ (hw _ (List.mem_of_getElem? (i := 1) rfl))) (mvT hZ (hw _ (List.mem_of_getElem? (i := 2) rfl))) (mvT hZ (hw _ (List.mem_of_getElem? (i := 3) rfl))) (mvT hZ (hw _ (List.mem_of_getElem? (i := 4) rfl))) (by decide) (backOf (W := 0) (rm1 l Z a0 hw [] (cc) h0 n0 Z0 ) hZ (hw _ (List.mem_of_getElem? (i := 4) rfl)) (hw _ (List.mem_of_getElem? (i := 3) rfl)) (by decide) (by decide)) (g := (mkF m 73 #[.val (.int p0), .val (.int cc), .val (.int (1 : Int32))] [(.int cc)])) rfl (by rw [hml]; rfl) (argsL := [(.int cc)]) (rest := []) (lenOf own_pd0 rfl) rfl (by show 2 * 0 + _ ≤ _; exact Nat.le_of_eq rfl) (hb hby at_73) (fun _ _ => ⟨rfl, e0, (by decide : 0 + 0 ≤ _), (by decide : 0 + 0 ≤ _)⟩)
                dsimp only [Pt.U, Pt.locs, Pt.cells, Pt.slots] at X14 l14 y14 z14 st14 hQ14
                subst l14 y14 z14
                have X14 : Stand p l e room_1 s m _ below meth c T14 _ 0 0 := X14
                obtain ⟨rfl, N14, e14⟩ := hQ14
                have N14 := Fr.app N0 N14
                refine OGo.st (T' := T14) (g' := (mkF m 76 #[.val (.int p0), .val (.int cc), .val (.int (1 : Int32))] [(.int (own_dig cc))])) (fun _ k => st14 _ k) ?_
                refine OGo.st (T' := T14) (g' := (mkF m 85 #[.val (.int p0), .val (.int cc), .val (.int (1 : Int32))] [(.int (1 : Int32))])) (fun _ k => (XS.iloadN X14.here hx rfl (hb hby at_76) rfl (XS.icmpNo X14.here hx rfl (hb hby at_77) rfl (teq (own_dig_1 hc13 (by decide) (by decide) : (own_dig cc) = (1 : Int32))).2 (XS.iconst X14.here hx rfl (hb hby at_80) (XS.goto X14.here hx rfl (pc0 := 81) (pc' := 85) rfl (hb hby at_81) (by decide) (by decide) k))))) ?_
                exact OGo.ret X14 hx hlk Bd.returns rfl (own_rI (Or.inr (Or.inl rfl))) (hb hby at_85) (by decide) (by decide) e14 (⟨rfl, N14⟩)
              · refine OGo.st (T' := s₁) (g' := (mkF m 51 #[.val (.int p0), .val (.int cc), .unset] [(.int (55 : Int32)), (.int cc)])) (fun _ k => (XS.icmpNo X0.here hx rfl (hb hby at_45) rfl (feq hc13).1 (XS.iloadN X0.here hx rfl (hb hby at_48) rfl (XS.bipush X0.here hx rfl (hb hby at_49) k)))) ?_
                by_cases hc15 : cc = (55 : Int32)
                · refine OGo.st (T' := s₁) (g' := (mkF m 73 #[.val (.int p0), .val (.int cc), .val (.int (1 : Int32))] [(.int cc)])) (fun _ k => (XS.icmpYes X0.here hx rfl (pc0 := 51) (pc' := 66) rfl (hb hby at_51) rfl (teq hc15).1 (by decide) (by decide) (XS.iconst X0.here hx rfl (hb hby at_66) (XS.goto X0.here hx rfl (pc0 := 67) (pc' := 71) rfl (hb hby at_67) (by decide) (by decide) (XS.istoreN X0.here hx rfl (hb hby at_71) rfl (l' := #[.val (.int p0), .val (.int cc), .val (.int (1 : Int32))]) rfl (XS.iloadN X0.here hx rfl (hb hby at_72) rfl k)))))) ?_
                  obtain ⟨_, _, ⟨T16, L16, k16, n16⟩, -, X16, ⟨Lc16, hQ16, l16, y16, z16⟩, st16⟩ := Jvm.LawKit.callS X0 hx (y := (⟨"com/example/urd/urd/Text", "isDigit", "(C)Z"⟩ : MethodName)) hown (mvT hZ (hw _ (List.mem_of_getElem? (i := 1) rfl))) (mvT hZ (hw _ (List.mem_of_getElem? (i := 2) rfl))) (mvT hZ (hw _ (List.mem_of_getElem? (i := 3) rfl))) (mvT hZ (hw _ (List.mem_of_getElem? (i := 4) rfl))) (by decide) (backOf (W := 0) (rm1 l Z a0 hw [] (cc) h0 n0 Z0 ) hZ (hw _ (List.mem_of_getElem? (i := 4) rfl)) (hw _ (List.mem_of_getElem? (i := 3) rfl)) (by decide) (by decide)) (g := (mkF m 73 #[.val (.int p0), .val (.int cc), .val (.int (1 : Int32))] [(.int cc)])) rfl (by rw [hml]; rfl) (argsL := [(.int cc)]) (rest := []) (lenOf own_pd0 rfl) rfl (by show 2 * 0 + _ ≤ _; exact Nat.le_of_eq rfl) (hb hby at_73) (fun _ _ => ⟨rfl, e0, (by decide : 0 + 0 ≤ _), (by decide : 0 + 0 ≤ _)⟩)
                  dsimp only [Pt.U, Pt.locs, Pt.cells, Pt.slots] at X16 l16 y16 z16 st16 hQ16
                  subst l16 y16 z16
                  have X16 : Stand p l e room_1 s m _ below meth c T16 _ 0 0 := X16
                  obtain ⟨rfl, N16, e16⟩ := hQ16
                  have N16 := Fr.app N0 N16
                  refine OGo.st (T' := T16) (g' := (mkF m 76 #[.val (.int p0), .val (.int cc), .val (.int (1 : Int32))] [(.int (own_dig cc))])) (fun _ k => st16 _ k) ?_
                  refine OGo.st (T' := T16) (g' := (mkF m 85 #[.val (.int p0), .val (.int cc), .val (.int (1 : Int32))] [(.int (1 : Int32))])) (fun _ k => (XS.iloadN X16.here hx rfl (hb hby at_76) rfl (XS.icmpNo X16.here hx rfl (hb hby at_77) rfl (teq (own_dig_1 hc15 (by decide) (by decide) : (own_dig cc) = (1 : Int32))).2 (XS.iconst X16.here hx rfl (hb hby at_80) (XS.goto X16.here hx rfl (pc0 := 81) (pc' := 85) rfl (hb hby at_81) (by decide) (by decide) k))))) ?_
                  exact OGo.ret X16 hx hlk Bd.returns rfl (own_rI (Or.inr (Or.inl rfl))) (hb hby at_85) (by decide) (by decide) e16 (⟨rfl, N16⟩)
                · refine OGo.st (T' := s₁) (g' := (mkF m 57 #[.val (.int p0), .val (.int cc), .unset] [(.int (56 : Int32)), (.int cc)])) (fun _ k => (XS.icmpNo X0.here hx rfl (hb hby at_51) rfl (feq hc15).1 (XS.iloadN X0.here hx rfl (hb hby at_54) rfl (XS.bipush X0.here hx rfl (hb hby at_55) k)))) ?_
                  by_cases hc17 : cc = (56 : Int32)
                  · refine OGo.st (T' := s₁) (g' := (mkF m 73 #[.val (.int p0), .val (.int cc), .val (.int (1 : Int32))] [(.int cc)])) (fun _ k => (XS.icmpYes X0.here hx rfl (pc0 := 57) (pc' := 66) rfl (hb hby at_57) rfl (teq hc17).1 (by decide) (by decide) (XS.iconst X0.here hx rfl (hb hby at_66) (XS.goto X0.here hx rfl (pc0 := 67) (pc' := 71) rfl (hb hby at_67) (by decide) (by decide) (XS.istoreN X0.here hx rfl (hb hby at_71) rfl (l' := #[.val (.int p0), .val (.int cc), .val (.int (1 : Int32))]) rfl (XS.iloadN X0.here hx rfl (hb hby at_72) rfl k)))))) ?_
                    obtain ⟨_, _, ⟨T18, L18, k18, n18⟩, -, X18, ⟨Lc18, hQ18, l18, y18, z18⟩, st18⟩ := Jvm.LawKit.callS X0 hx (y := (⟨"com/example/urd/urd/Text", "isDigit", "(C)Z"⟩ : MethodName)) hown (mvT hZ (hw _ (List.mem_of_getElem? (i := 1) rfl))) (mvT hZ (hw _ (List.mem_of_getElem? (i := 2) rfl))) (mvT hZ (hw _ (List.mem_of_getElem? (i := 3) rfl))) (mvT hZ (hw _ (List.mem_of_getElem? (i := 4) rfl))) (by decide) (backOf (W := 0) (rm1 l Z a0 hw [] (cc) h0 n0 Z0 ) hZ (hw _ (List.mem_of_getElem? (i := 4) rfl)) (hw _ (List.mem_of_getElem? (i := 3) rfl)) (by decide) (by decide)) (g := (mkF m 73 #[.val (.int p0), .val (.int cc), .val (.int (1 : Int32))] [(.int cc)])) rfl (by rw [hml]; rfl) (argsL := [(.int cc)]) (rest := []) (lenOf own_pd0 rfl) rfl (by show 2 * 0 + _ ≤ _; exact Nat.le_of_eq rfl) (hb hby at_73) (fun _ _ => ⟨rfl, e0, (by decide : 0 + 0 ≤ _), (by decide : 0 + 0 ≤ _)⟩)
                    dsimp only [Pt.U, Pt.locs, Pt.cells, Pt.slots] at X18 l18 y18 z18 st18 hQ18
                    subst l18 y18 z18
                    have X18 : Stand p l e room_1 s m _ below meth c T18 _ 0 0 := X18
                    obtain ⟨rfl, N18, e18⟩ := hQ18
                    have N18 := Fr.app N0 N18
                    refine OGo.st (T' := T18) (g' := (mkF m 76 #[.val (.int p0), .val (.int cc), .val (.int (1 : Int32))] [(.int (own_dig cc))])) (fun _ k => st18 _ k) ?_
                    refine OGo.st (T' := T18) (g' := (mkF m 85 #[.val (.int p0), .val (.int cc), .val (.int (1 : Int32))] [(.int (1 : Int32))])) (fun _ k => (XS.iloadN X18.here hx rfl (hb hby at_76) rfl (XS.icmpNo X18.here hx rfl (hb hby at_77) rfl (teq (own_dig_1 hc17 (by decide) (by decide) : (own_dig cc) = (1 : Int32))).2 (XS.iconst X18.here hx rfl (hb hby at_80) (XS.goto X18.here hx rfl (pc0 := 81) (pc' := 85) rfl (hb hby at_81) (by decide) (by decide) k))))) ?_
                    exact OGo.ret X18 hx hlk Bd.returns rfl (own_rI (Or.inr (Or.inl rfl))) (hb hby at_85) (by decide) (by decide) e18 (⟨rfl, N18⟩)
                  · refine OGo.st (T' := s₁) (g' := (mkF m 63 #[.val (.int p0), .val (.int cc), .unset] [(.int (57 : Int32)), (.int cc)])) (fun _ k => (XS.icmpNo X0.here hx rfl (hb hby at_57) rfl (feq hc17).1 (XS.iloadN X0.here hx rfl (hb hby at_60) rfl (XS.bipush X0.here hx rfl (hb hby at_61) k)))) ?_
                    by_cases hc19 : cc = (57 : Int32)
                    · refine OGo.st (T' := s₁) (g' := (mkF m 73 #[.val (.int p0), .val (.int cc), .val (.int (1 : Int32))] [(.int cc)])) (fun _ k => (XS.icmpNo X0.here hx rfl (hb hby at_63) rfl (teq hc19).2 (XS.iconst X0.here hx rfl (hb hby at_66) (XS.goto X0.here hx rfl (pc0 := 67) (pc' := 71) rfl (hb hby at_67) (by decide) (by decide) (XS.istoreN X0.here hx rfl (hb hby at_71) rfl (l' := #[.val (.int p0), .val (.int cc), .val (.int (1 : Int32))]) rfl (XS.iloadN X0.here hx rfl (hb hby at_72) rfl k)))))) ?_
                      obtain ⟨_, _, ⟨T20, L20, k20, n20⟩, -, X20, ⟨Lc20, hQ20, l20, y20, z20⟩, st20⟩ := Jvm.LawKit.callS X0 hx (y := (⟨"com/example/urd/urd/Text", "isDigit", "(C)Z"⟩ : MethodName)) hown (mvT hZ (hw _ (List.mem_of_getElem? (i := 1) rfl))) (mvT hZ (hw _ (List.mem_of_getElem? (i := 2) rfl))) (mvT hZ (hw _ (List.mem_of_getElem? (i := 3) rfl))) (mvT hZ (hw _ (List.mem_of_getElem? (i := 4) rfl))) (by decide) (backOf (W := 0) (rm1 l Z a0 hw [] (cc) h0 n0 Z0 ) hZ (hw _ (List.mem_of_getElem? (i := 4) rfl)) (hw _ (List.mem_of_getElem? (i := 3) rfl)) (by decide) (by decide)) (g := (mkF m 73 #[.val (.int p0), .val (.int cc), .val (.int (1 : Int32))] [(.int cc)])) rfl (by rw [hml]; rfl) (argsL := [(.int cc)]) (rest := []) (lenOf own_pd0 rfl) rfl (by show 2 * 0 + _ ≤ _; exact Nat.le_of_eq rfl) (hb hby at_73) (fun _ _ => ⟨rfl, e0, (by decide : 0 + 0 ≤ _), (by decide : 0 + 0 ≤ _)⟩)
                      dsimp only [Pt.U, Pt.locs, Pt.cells, Pt.slots] at X20 l20 y20 z20 st20 hQ20
                      subst l20 y20 z20
                      have X20 : Stand p l e room_1 s m _ below meth c T20 _ 0 0 := X20
                      obtain ⟨rfl, N20, e20⟩ := hQ20
                      have N20 := Fr.app N0 N20
                      refine OGo.st (T' := T20) (g' := (mkF m 76 #[.val (.int p0), .val (.int cc), .val (.int (1 : Int32))] [(.int (own_dig cc))])) (fun _ k => st20 _ k) ?_
                      refine OGo.st (T' := T20) (g' := (mkF m 85 #[.val (.int p0), .val (.int cc), .val (.int (1 : Int32))] [(.int (1 : Int32))])) (fun _ k => (XS.iloadN X20.here hx rfl (hb hby at_76) rfl (XS.icmpNo X20.here hx rfl (hb hby at_77) rfl (teq (own_dig_1 hc19 (by decide) (by decide) : (own_dig cc) = (1 : Int32))).2 (XS.iconst X20.here hx rfl (hb hby at_80) (XS.goto X20.here hx rfl (pc0 := 81) (pc' := 85) rfl (hb hby at_81) (by decide) (by decide) k))))) ?_
                      exact OGo.ret X20 hx hlk Bd.returns rfl (own_rI (Or.inr (Or.inl rfl))) (hb hby at_85) (by decide) (by decide) e20 (⟨rfl, N20⟩)
                    · refine OGo.st (T' := s₁) (g' := (mkF m 73 #[.val (.int p0), .val (.int cc), .val (.int (0 : Int32))] [(.int cc)])) (fun _ k => (XS.icmpYes X0.here hx rfl (pc0 := 63) (pc' := 70) rfl (hb hby at_63) rfl (feq hc19).2 (by decide) (by decide) (XS.iconst X0.here hx rfl (hb hby at_70) (XS.istoreN X0.here hx rfl (hb hby at_71) rfl (l' := #[.val (.int p0), .val (.int cc), .val (.int (0 : Int32))]) rfl (XS.iloadN X0.here hx rfl (hb hby at_72) rfl k))))) ?_
                      obtain ⟨_, _, ⟨T21, L21, k21, n21⟩, -, X21, ⟨Lc21, hQ21, l21, y21, z21⟩, st21⟩ := Jvm.LawKit.callS X0 hx (y := (⟨"com/example/urd/urd/Text", "isDigit", "(C)Z"⟩ : MethodName)) hown (mvT hZ (hw _ (List.mem_of_getElem? (i := 1) rfl))) (mvT hZ (hw _ (List.mem_of_getElem? (i := 2) rfl))) (mvT hZ (hw _ (List.mem_of_getElem? (i := 3) rfl))) (mvT hZ (hw _ (List.mem_of_getElem? (i := 4) rfl))) (by decide) (backOf (W := 0) (rm1 l Z a0 hw [] (cc) h0 n0 Z0 ) hZ (hw _ (List.mem_of_getElem? (i := 4) rfl)) (hw _ (List.mem_of_getElem? (i := 3) rfl)) (by decide) (by decide)) (g := (mkF m 73 #[.val (.int p0), .val (.int cc), .val (.int (0 : Int32))] [(.int cc)])) rfl (by rw [hml]; rfl) (argsL := [(.int cc)]) (rest := []) (lenOf own_pd0 rfl) rfl (by show 2 * 0 + _ ≤ _; exact Nat.le_of_eq rfl) (hb hby at_73) (fun _ _ => ⟨rfl, e0, (by decide : 0 + 0 ≤ _), (by decide : 0 + 0 ≤ _)⟩)
                      dsimp only [Pt.U, Pt.locs, Pt.cells, Pt.slots] at X21 l21 y21 z21 st21 hQ21
                      subst l21 y21 z21
                      have X21 : Stand p l e room_1 s m _ below meth c T21 _ 0 0 := X21
                      obtain ⟨rfl, N21, e21⟩ := hQ21
                      have N21 := Fr.app N0 N21
                      refine OGo.st (T' := T21) (g' := (mkF m 76 #[.val (.int p0), .val (.int cc), .val (.int (0 : Int32))] [(.int (own_dig cc))])) (fun _ k => st21 _ k) ?_
                      refine OGo.st (T' := T21) (g' := (mkF m 85 #[.val (.int p0), .val (.int cc), .val (.int (0 : Int32))] [(.int (1 : Int32))])) (fun _ k => (XS.iloadN X21.here hx rfl (hb hby at_76) rfl (XS.icmpNo X21.here hx rfl (hb hby at_77) rfl (teq (own_dig_0 hc1 hc3 hc5 hc7 hc9 hc11 hc13 hc15 hc17 hc19 : (own_dig cc) = (0 : Int32))).2 (XS.iconst X21.here hx rfl (hb hby at_80) (XS.goto X21.here hx rfl (pc0 := 81) (pc' := 85) rfl (hb hby at_81) (by decide) (by decide) k))))) ?_
                      exact OGo.ret X21 hx hlk Bd.returns rfl (own_rI (Or.inr (Or.inl rfl))) (hb hby at_85) (by decide) (by decide) e21 (⟨rfl, N21⟩)
set_option maxRecDepth 65536 in
set_option maxHeartbeats 40000000 in
theorem comes_1 {Post : Tables → Env → Array Value → State → Outcome → State → Prop} (hpost : ∀ tb e args s v u, (limb_1_1.after args s (.returned v) u = true ∧ limb_1_2.after args s (.returned v) u = true ∧ True) → FrameEnd s (.returned v) u (Jvm.fieldLocs frame_1_writes args s ++ Jvm.arrayLocs frame_1_arrays args s ++ Jvm.staticLocs frame_1_statics s) 0 0 → Post tb e args s (.returned v) u) :
    ArmFor flags0 classFile x code maxLocals ret World_1 tables_1 room_1 Calls_1 rest_1 Pre_1 Post := by
  intro l hfl _ _ p e ha hc hk s m args below hf hA hF happ hP
  obtain ⟨hcalls, hrest, hpre⟩ := hP
  obtain ⟨-, -, -, hnamed, -, -, -, hat⟩ := (Spec.applies_iff hf).mp happ
  obtain ⟨hg, hn⟩ := and_e (Cond.before_iff.mp (show (Jvm.Cond.and given_1 narrow_1).before args s = true from hpre))
  obtain ⟨q0, r0⟩ := and_e hg
  obtain ⟨w0, rfl⟩ : ∃ w0 : Value, args = #[w0] := by
    have hs : args.size = 1 := by simpa [Cond.value, given_1] using q0
    obtain ⟨L⟩ := args
    match L, hs with
    | [w0], _ => exact ⟨w0, rfl⟩
  have hw := fun d (hd : d ∈ tables_1) => atoms_spec (ws := Jvm.Cond.code x code maxLocals ret :: tables_1) hat d (List.mem_cons_of_mem _ hd)
  obtain ⟨i0, ei0⟩ := is_v r0
  obtain rfl : w0 = (.int i0) := Option.some.inj ei0
  obtain ⟨n, o, h1, h2, h3, _, L, rfl, ⟨rfl, N⟩, hq⟩ := rm0 l s _ hw tables_1 i0 s.heap s.heap.size (Nat.le_refl _) p e ha hc hk s m _ below hf ((Spec.applies_iff_loose hf).mp happ).1 ⟨rfl, State.Warmed39.refl s, rfl⟩ trivial
  refine ⟨n, _, h1, h2, h3, hpost _ _ _ _ _ _ ⟨Cond.after_iff.mpr rfl, Cond.after_iff.mpr (eq_i res_at (Term.int_eval (1)) rfl), trivial⟩ ⟨hq.1, hq.2.1, (hq.2.2.sift fun y hy => Or.inr (N y hy)).mono (by decide) (by decide)⟩⟩
theorem main_1_1 : Claimed_1_1 := comes_1 fun _ _ _ _ _ _ h hF => ⟨h.1, hF⟩
theorem main_1_2 : Claimed_1_2 := comes_1 fun _ _ _ _ _ _ h hF => ⟨h.2.1, hF⟩
end Jvm.Pilot.@@N@@
namespace Jvm.Pilot.@@N@@
open Jvm Jvm.ClassFile Sem Op Lib Jvm.Free Jvm.Stand Jvm.Pilot.@@N@@.Jvm.D
/-! MADE BY PROGRAM (witnessworld.py) out of the Statement's table words and the real class files: 9 classes; the members and pool entries that the words name. The judged class is class 1, her method 1. -/
namespace start1
open Jvm.ClassFile
def u (s : String) : CpInfo := .utf8 (stringToUtf16 s)
/-- a pool by its gaps: so many unusable entries, then the entry; so many at the end -/
def gap : Nat → List CpInfo → List CpInfo
  | 0, r => r
  | n + 1, r => .unusable :: gap n r
def poolList (es : List (Nat × CpInfo)) (last : Nat) : List CpInfo := es.foldr (fun e r => gap e.1 (e.2 :: r)) (gap last [])
def pool (es : List (Nat × CpInfo)) (last : Nat) : Array CpInfo := ⟨poolList es last⟩
def fileOf (pool : Array CpInfo) (this : Nat) (attrs : Array Attribute := #[]) (ms : Array MethodInfo := #[]) (fl : Nat := 33) (sup : Nat := 0) (ifs : Array Nat := #[]) (fds : Array FieldInfo := #[]) : ClassFile where
  minorVersion := 0
  majorVersion := 65
  constantPool := pool
  accessFlags := fl
  thisClass := this
  superClass := sup
  interfaces := ifs
  fields := fds
  methods := ms
  attributes := attrs
def plain (name : String) (sup : Option ClassId) : Class where
  name := name
  kind := .ordinary
  loader := none
  accessFlags := 33
  super := sup
  interfaces := #[]
  cf := none
  fields := #[]
  methods := #[]
  instanceTypes := #[]
  staticTypes := #[]
  resolved := #[]
  callSites := []
  init := .initialized
  statics := none
  mirror := none

def pool0 : Array CpInfo := pool [(5, u "<init>"), (0, u "()V"), (1, .class_ 10), (1, u "java/lang/Object")] 113

def k0m0 : Method := { name := "<init>", desc := "()V", sig := { parameters := [], returnType := none }, accessFlags := 1, code := none }
/-- java/lang/Object -/
def k0 : Class := { plain "java/lang/Object" none with
  accessFlags := 33
  interfaces := #[]
  cf := some (fileOf pool0 8 #[] #[{ accessFlags := 1, nameIndex := 5, descriptorIndex := 6, attributes := #[] }] 33 0 #[] #[])
  fields := #[]
  methods := #[k0m0]
  instanceTypes := #[]
  staticTypes := #[]
  resolved := Array.replicate 124 none
  statics := none }

def pool1 : Array CpInfo := pool [(2, .class_ 4), (1, u "java/lang/Object"), (0, u "<init>"), (0, u "()V"), (0, .integer 65535), (0, .methodref 9 10), (0, .class_ 11), (0, .nameAndType 12 13), (0, u "com/example/urd/urd/Text"), (0, u "isDigit"), (0, u "(C)Z"), (0, .class_ 15), (0, u "com/example/urd/urd/TextIsDigitPinLaw"), (2, u "law"), (0, u "(I)Z")] 3

def k1m0 : Method := { name := "<init>", desc := "()V", sig := { parameters := [], returnType := none }, accessFlags := 2, code := none }
def k1c1 : Code := { maxStack := 2, maxLocals := 3, code := code, exceptionTable := #[], attributes := #[] }
def k1m1 : Method := { name := "law", desc := "(I)Z", sig := { parameters := [.int], returnType := some .boolean }, accessFlags := 9, code := some k1c1 }
/-- com/example/urd/urd/TextIsDigitPinLaw -/
def k1 : Class := { plain "com/example/urd/urd/TextIsDigitPinLaw" (some 0) with
  accessFlags := 49
  interfaces := #[]
  cf := some (fileOf pool1 14 #[] #[{ accessFlags := 2, nameIndex := 5, descriptorIndex := 6, attributes := #[] }, { accessFlags := 9, nameIndex := 18, descriptorIndex := 19, attributes := #[] }] 49 2 #[] #[])
  fields := #[]
  methods := #[k1m0, k1m1]
  instanceTypes := #[]
  staticTypes := #[]
  resolved := Array.replicate 23 none
  statics := none }

def pool2 : Array CpInfo := pool [(2, .class_ 4), (1, u "java/lang/Object"), (0, u "<init>"), (0, u "()V"), (6, .class_ 14), (0, u "com/example/urd/urd/Text"), (15, u "(C)Z"), (136, u "IP_FUTURE"), (0, u "Ljava/util/regex/Pattern;"), (22, u "REG_NAME"), (7, u "isDigit"), (20, u "IPV4"), (2, u "H16"), (45, u "CHARACTERS_A_STEP"), (0, u "I"), (2, u "QUOTED_LENGTH"), (1, u "LINE_SEPARATOR"), (0, u "C"), (1, u "PARAGRAPH_SEPARATOR"), (1, u "NAME_CHARACTERS"), (0, u "Ljava/lang/String;"), (2, u "DEC_OCTET"), (2, u "IPV6_GROUPS")] 26

def k2m0 : Method := { name := "<init>", desc := "()V", sig := { parameters := [], returnType := none }, accessFlags := 2, code := none }
def k2c1 : Code := { maxStack := 2, maxLocals := 1, code := prog_18_method_20_code, exceptionTable := #[], attributes := #[] }
def k2m1 : Method := { name := "isDigit", desc := "(C)Z", sig := { parameters := [.char], returnType := some .boolean }, accessFlags := 8, code := some k2c1 }
/-- com/example/urd/urd/Text -/
def k2 : Class := { plain "com/example/urd/urd/Text" (some 0) with
  accessFlags := 32
  interfaces := #[]
  cf := some (fileOf pool2 13 #[] #[{ accessFlags := 2, nameIndex := 5, descriptorIndex := 6, attributes := #[] }, { accessFlags := 8, nameIndex := 199, descriptorIndex := 30, attributes := #[] }] 32 2 #[] #[{ accessFlags := 24, nameIndex := 269, descriptorIndex := 270, attributes := #[] }, { accessFlags := 26, nameIndex := 273, descriptorIndex := 270, attributes := #[] }, { accessFlags := 26, nameIndex := 275, descriptorIndex := 276, attributes := #[] }, { accessFlags := 26, nameIndex := 278, descriptorIndex := 276, attributes := #[] }, { accessFlags := 26, nameIndex := 280, descriptorIndex := 281, attributes := #[] }, { accessFlags := 26, nameIndex := 191, descriptorIndex := 168, attributes := #[] }, { accessFlags := 26, nameIndex := 167, descriptorIndex := 168, attributes := #[] }, { accessFlags := 26, nameIndex := 223, descriptorIndex := 168, attributes := #[] }, { accessFlags := 26, nameIndex := 284, descriptorIndex := 281, attributes := #[] }, { accessFlags := 26, nameIndex := 220, descriptorIndex := 168, attributes := #[] }, { accessFlags := 26, nameIndex := 287, descriptorIndex := 270, attributes := #[] }])
  fields := #[{ name := "CHARACTERS_A_STEP", type := .int, accessFlags := 24, slot := 0, constantValue := 0 }, { name := "QUOTED_LENGTH", type := .int, accessFlags := 26, slot := 1, constantValue := 0 }, { name := "LINE_SEPARATOR", type := .char, accessFlags := 26, slot := 2, constantValue := 0 }, { name := "PARAGRAPH_SEPARATOR", type := .char, accessFlags := 26, slot := 3, constantValue := 0 }, { name := "NAME_CHARACTERS", type := (.object "java/lang/String"), accessFlags := 26, slot := 4, constantValue := 0 }, { name := "REG_NAME", type := (.object "java/util/regex/Pattern"), accessFlags := 26, slot := 5, constantValue := 0 }, { name := "IP_FUTURE", type := (.object "java/util/regex/Pattern"), accessFlags := 26, slot := 6, constantValue := 0 }, { name := "H16", type := (.object "java/util/regex/Pattern"), accessFlags := 26, slot := 7, constantValue := 0 }, { name := "DEC_OCTET", type := (.object "java/lang/String"), accessFlags := 26, slot := 8, constantValue := 0 }, { name := "IPV4", type := (.object "java/util/regex/Pattern"), accessFlags := 26, slot := 9, constantValue := 0 }, { name := "IPV6_GROUPS", type := .int, accessFlags := 26, slot := 10, constantValue := 0 }]
  methods := #[k2m0, k2m1]
  instanceTypes := #[]
  staticTypes := #[.int, .int, .char, .char, (.object "java/lang/String"), (.object "java/util/regex/Pattern"), (.object "java/util/regex/Pattern"), (.object "java/util/regex/Pattern"), (.object "java/lang/String"), (.object "java/util/regex/Pattern"), .int]
  resolved := Array.replicate 314 none
  statics := none }

def pool3 : Array CpInfo := pool [(1, u "java/lang/Cloneable"), (0, .class_ 1), (0, u "java/lang/Object"), (0, .class_ 3)] 3

/-- java/lang/Cloneable -/
def k3 : Class := { plain "java/lang/Cloneable" (some 0) with
  accessFlags := 1537
  interfaces := #[]
  cf := some (fileOf pool3 2 #[] #[] 1537 4 #[] #[])
  fields := #[]
  methods := #[]
  instanceTypes := #[]
  staticTypes := #[]
  resolved := Array.replicate 8 none
  statics := none }

def pool4 : Array CpInfo := pool [(1, u "java/io/Serializable"), (0, .class_ 1), (0, u "java/lang/Object"), (0, .class_ 3)] 3

/-- java/io/Serializable -/
def k4 : Class := { plain "java/io/Serializable" (some 0) with
  accessFlags := 1537
  interfaces := #[]
  cf := some (fileOf pool4 2 #[] #[] 1537 4 #[] #[])
  fields := #[]
  methods := #[]
  instanceTypes := #[]
  staticTypes := #[]
  resolved := Array.replicate 8 none
  statics := none }

/-- the primitive byte -/
def k5 : Class := { plain "byte" none with kind := .primitive 'B', accessFlags := 0x411 }
/-- [B -/
def k6 : Class := { plain "[B" (some 0) with kind := .array 5 .byte, interfaces := #[3, 4], accessFlags := 1041 }

/-- the primitive int -/
def k7 : Class := { plain "int" none with kind := .primitive 'I', accessFlags := 0x411 }
/-- [I -/
def k8 : Class := { plain "[I" (some 0) with kind := .array 7 .int, interfaces := #[3, 4], accessFlags := 1041 }

def heap : Heap := #[]
def classes : Array Class := #[k0, k1, k2, k3, k4, k5, k6, k7, k8]
def interned : List (Array UInt16 × Addr) := []
def slotsUsed : Nat := 0
def theMethod : MethodId := ⟨1, 1⟩
def args0 : Array Value := #[.int 5]
def aboutOver (below : List Frame) : State where
  vm := { classes := classes, interned := interned.toArray }
  heap := heap
  slotsUsed := slotsUsed
  threads := #[{ frames := .invoking theMethod args0 :: below }]
def below0 : List Frame := [.native { method := ⟨0, 0⟩, args := #[] }]
def about1 : State := aboutOver below0
def p0 : Program := .bare "" "" ""
def e0 : Env := launch0.env 0 0 0
theorem w_frames : about1.frames = Frame.invoking theMethod args0 :: below0 := rfl
set_option maxRecDepth 65536 in
theorem w_args : argsFit about1.vm theMethod args0 = true := by decide +kernel
set_option maxRecDepth 65536 in
theorem w_heap : heapFits about1 = true := by decide +kernel
set_option maxRecDepth 65536 in
theorem w_runnable : about1.curStatus? = some .runnable := by decide +kernel
set_option maxRecDepth 65536 in
theorem w_alone : about1.alone = true := by decide +kernel
set_option maxRecDepth 65536 in
theorem w_named : about1.methodNamed? x = some theMethod := by decide +kernel
set_option maxRecDepth 65536 in
theorem w_hears : about1.hears theMethod below0 = true := by decide +kernel
set_option maxRecDepth 65536 in
theorem w_ripe : about1.ripe theMethod args0 below0 = true := by decide +kernel
theorem w_running : about1.status = .running := rfl
set_option maxRecDepth 65536 in
theorem w_room : about1.hasRoom e0.platform room_1 = true :=
  launch0.hasRoom_least _ room_1 (by decide +kernel) (by decide +kernel) (by decide +kernel) (by decide +kernel) (by decide +kernel) (by decide +kernel)
theorem allAtoms_all (ts : List Jvm.Cond) (a : Array Jvm.Value) (st : Jvm.State) : (allAtoms ts).before a st = ts.all (fun c => c.before a st) := by
  induction ts with
  | nil => rfl
  | cons c t ih =>
    show (Jvm.Cond.and c (allAtoms t)).before a st = _
    rw [Jvm.Cond.before_and, ih, List.all_cons]
def words1 : List Jvm.Cond := Jvm.Cond.code x code maxLocals ret :: tables_1
/-- a 'code' word, met by the world's own term for the bytes: nothing is compared byte by byte -/
theorem code_word {y : MethodName} {bytes : ByteArray} {mx : Nat} {rt : Option FieldType} {a : Array Value} {s : State} {m : MethodId} {meth : Method} {c : Code} (h1 : s.methodNamed? y = some m) (h2 : s.vm.method? m = some meth) (h3 : meth.code = some c) (h4 : c.code = bytes)
    (h5 : (c.maxLocals == mx && c.exceptionTable.isEmpty && decide (c.maxStack ≤ mostOperands) && decide (meth.sig.returnType = rt) && !meth.locks && decide (parseMethodDescriptor y.desc = some meth.sig)) = true) : (Jvm.Cond.code y bytes mx rt).before a s = true := by
  simp only [Bool.and_eq_true, beq_iff_eq, Bool.not_eq_true', decide_eq_true_eq] at h5
  obtain ⟨⟨⟨⟨⟨g1, g2⟩, g3⟩, g4⟩, g5⟩, g6⟩ := h5
  simp [Cond.before, Cond.holds, Cond.value, h1, h2, h3, h4, g1, g2, g3, g4, g5, g6]
def isCode : Jvm.Cond → Bool
  | .code _ _ _ _ => true
  | _ => false
theorem all_split {L : List Jvm.Cond} {P : Jvm.Cond → Bool} (h1 : L.all (fun c => isCode c || P c) = true) (h2 : ∀ c ∈ L.filter isCode, P c = true) : L.all P = true := by
  refine List.all_eq_true.mpr fun c hc => ?_
  have h := List.all_eq_true.mp h1 c hc
  rcases Bool.eq_false_or_eq_true (isCode c) with hi | hi
  · exact h2 c (List.mem_filter.mpr ⟨hc, hi⟩)
  · simpa [hi] using h
set_option maxRecDepth 65536 in
theorem w_c0 : (Jvm.Cond.code x code maxLocals ret).before args0 about1 = true := code_word (m := ⟨1, 1⟩) (meth := k1m1) (c := k1c1) (by decide +kernel) rfl rfl rfl (by decide +kernel)
set_option maxRecDepth 65536 in
theorem w_c1 : (Jvm.Cond.code ({ cls := "com/example/urd/urd/Text", name := "isDigit", desc := "(C)Z" } : Jvm.MethodName) prog_18_method_20_code (1 : Nat) (Option.some Jvm.ClassFile.FieldType.boolean)).before args0 about1 = true := code_word (m := ⟨2, 1⟩) (meth := k2m1) (c := k2c1) (by decide +kernel) rfl rfl rfl (by decide +kernel)
def codes1 : List Jvm.Cond := [Jvm.Cond.code x code maxLocals ret, Jvm.Cond.code ({ cls := "com/example/urd/urd/Text", name := "isDigit", desc := "(C)Z" } : Jvm.MethodName) prog_18_method_20_code (1 : Nat) (Option.some Jvm.ClassFile.FieldType.boolean)]
set_option maxRecDepth 65536 in
theorem codes_eq : words1.filter isCode = codes1 := rfl
theorem w_codes : ∀ c ∈ words1.filter isCode, c.before args0 about1 = true := by
  rw [codes_eq]
  intro c hc
  simp only [codes1, List.mem_cons, List.not_mem_nil, or_false] at hc
  rcases hc with rfl | rfl
  · exact w_c0
  · exact w_c1
set_option maxRecDepth 65536 in
theorem w_t1 : words1.all (fun c => isCode c || c.before args0 about1) = true := by decide +kernel
theorem w_tables : (allAtoms (Jvm.Cond.code x code maxLocals ret :: tables_1)).before args0 about1 = true := by
  rw [allAtoms_all]
  show words1.all (fun c => c.before args0 about1) = true
  refine all_split ?_ w_codes
  rw [w_t1]
set_option maxRecDepth 65536 in
theorem w_case : (Jvm.Cond.and given_1 narrow_1).before args0 about1 = true := by decide +kernel
theorem w_applies : (headSpec (Jvm.Cond.code x code maxLocals ret :: tables_1) room_1).applies x e0.platform about1 = true :=
  (Spec.applies_iff w_frames).mpr ⟨w_running, w_runnable, w_alone, w_named, w_hears, w_ripe, w_room, w_tables⟩
theorem atStart : AtStart classFile x code maxLocals ret World_1 tables_1 room_1 Calls_1 rest_1 Pre_1 launch0 p0 e0 about1 theMethod args0 below0 :=
  ⟨lists_1, trivial, launch0.admits_env _ _ _, launch0.least_env, fairChoices_fair.cas, fairChoices_fair.clock, w_frames, w_args, w_heap, w_applies, trivial, trivial, w_case⟩
end start1
theorem witness_1 : WitnessClaimed_1 := ⟨start1.p0, start1.e0, start1.about1, start1.theMethod, start1.args0, start1.below0, start1.atStart⟩
end Jvm.Pilot.@@N@@

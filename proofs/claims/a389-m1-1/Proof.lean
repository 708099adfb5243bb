import JvmDerived
import JvmDerived.Pilot.@@N@@Statement
import JvmDerived.Pilot.@@N@@Code
set_option linter.unusedVariables false
set_option linter.unusedSimpArgs false
namespace Jvm.Pilot.@@N@@
open Jvm Jvm.ClassFile Sem Op Lib Jvm.Free Jvm.Stand Jvm.LawKit Jvm.RoadKit Bundle Jvm.Pilot.@@N@@.Jvm.D
/-! ### own: what is left of a body's walk, as one word; each step goes back over it -/
def OGo (p : Program) (e : Env) (below : List Frame) (s : State) (Q : Option Value → Heap → List Loc → Prop) (C S : Nat) (T : State) (g : JFrame) : Prop :=
  ∃ s₂ o, Steps p.tables e below (T.setTop g) s₂ ∧ s₂.status = .running ∧ Ended s₂ below o ∧ ∃ v L, o = .returned v ∧ Q v s₂.heap L ∧ FrameEnd s o s₂ L C S
section Own
variable {p : Program} {l : Launch} {e : Env} {R : Room} {s s₁ : State} {m : MethodId} {args : Array Value} {below : List Frame} {meth : Method} {c : Code} {T T' : State} {locs : List Loc} {cells slots : Nat} {g g' : JFrame} {Q : Option Value → Heap → List Loc → Prop} {C S : Nat} {Z : State} {a0 : Array Value} {h h' : Heap}
theorem OGo.st (k : ∀ t, Steps p.tables e below (T'.setTop g') t → Steps p.tables e below (T.setTop g) t) (q : OGo p e below s Q C S T' g') : OGo p e below s Q C S T g := by
  obtain ⟨s₂, o, h1, h2⟩ := q
  exact ⟨s₂, o, k _ h1, h2⟩
theorem OGo.en {ml : Nat} (q : entryFrame m args ml = g) (k : OGo p e below s Q C S s₁ g) : ∃ s₂ o, Steps p.tables e below (s₁.setTop (entryFrame m args ml)) s₂ ∧ s₂.status = .running ∧ Ended s₂ below o ∧ ∃ v L, o = .returned v ∧ Q v s₂.heap L ∧ FrameEnd s o s₂ L C S := by
  rw [q]; exact k
theorem OGo.ret (X : Stand p l e R s m args below meth c T locs cells slots) (hx : p.tables.exec = Jvm.exec) (hlk : meth.locks = false) {pc : Nat} {Ls : Array Slot} {w : Value} {t : FieldType} {i : Instr} {rest : List Value} (hret : meth.sig.returnType = some t) (hn : narrow t w = w)
    (hi : (i = .ireturn ∧ (t = .int ∨ t = .boolean ∨ t = .byte ∨ t = .char ∨ t = .short) ∧ ∃ z, w = .int z) ∨ (i = .lreturn ∧ t = .long ∧ ∃ z, w = .long z) ∨ (i = .dreturn ∧ t = .double ∧ ∃ z, w = .double z) ∨ (i = .freturn ∧ t = .float ∧ ∃ z, w = .float z) ∨ (i = .areturn ∧ t.isReference = true ∧ w.isRef = true))
    (hd : decode c.code pc = .ok (i, 1)) (hC : cells ≤ C) (hS : slots ≤ S) (hh : T.heap = h) (hQ : Q (some w) h locs) : OGo p e below s Q C S T (mkF m pc Ls (w :: rest)) := by
  obtain ⟨fs, hr, hrun, hended, hW, hsame⟩ := X.leave (v := some w) (fun q => by rw [hret] at q; cases q) hlk
  subst hh
  exact ⟨_, _, retOut X hx hret hn hi hd hr, hrun, hended, _, _, rfl, hQ, ⟨_, rfl⟩, hW, hsame.mono hC hS⟩
theorem OGo.retV (X : Stand p l e R s m args below meth c T locs cells slots) (hx : p.tables.exec = Jvm.exec) (hlk : meth.locks = false) {pc : Nat} {Ls : Array Slot} (hret : meth.sig.returnType = none)
    (hd : decode c.code pc = .ok (.return_, 1)) (hC : cells ≤ C) (hS : slots ≤ S) (hh : T.heap = h) (hQ : Q none h locs) : OGo p e below s Q C S T (mkF m pc Ls []) := by
  obtain ⟨fs, hr, hrun, hended, hW, hsame⟩ := X.leave (v := none) (fun _ => rfl) hlk
  subst hh
  exact ⟨_, _, X.returnOut hx hret hd hr, hrun, hended, _, _, rfl, hQ, ⟨_, rfl⟩, hW, hsame.mono hC hS⟩
theorem own_rI {t : FieldType} {z : Int32} (ht : t = .int ∨ t = .boolean ∨ t = .byte ∨ t = .char ∨ t = .short) : ((Instr.ireturn = .ireturn ∧ (t = .int ∨ t = .boolean ∨ t = .byte ∨ t = .char ∨ t = .short) ∧ ∃ z', Value.int z = .int z') ∨ (Instr.ireturn = .lreturn ∧ t = .long ∧ ∃ z', Value.int z = .long z') ∨ (Instr.ireturn = .dreturn ∧ t = .double ∧ ∃ z', Value.int z = .double z') ∨ (Instr.ireturn = .freturn ∧ t = .float ∧ ∃ z', Value.int z = .float z') ∨ (Instr.ireturn = .areturn ∧ t.isReference = true ∧ (Value.int z).isRef = true)) := Or.inl ⟨rfl, ht, z, rfl⟩
theorem own_rJ {z : Int64} : ((Instr.lreturn = .ireturn ∧ (FieldType.long = .int ∨ FieldType.long = .boolean ∨ FieldType.long = .byte ∨ FieldType.long = .char ∨ FieldType.long = .short) ∧ ∃ z', Value.long z = .int z') ∨ (Instr.lreturn = .lreturn ∧ FieldType.long = .long ∧ ∃ z', Value.long z = .long z') ∨ (Instr.lreturn = .dreturn ∧ FieldType.long = .double ∧ ∃ z', Value.long z = .double z') ∨ (Instr.lreturn = .freturn ∧ FieldType.long = .float ∧ ∃ z', Value.long z = .float z') ∨ (Instr.lreturn = .areturn ∧ FieldType.long.isReference = true ∧ (Value.long z).isRef = true)) := Or.inr (Or.inl ⟨rfl, rfl, z, rfl⟩)
theorem own_rR {t : FieldType} {w : Value} (ht : t.isReference = true) (hw : w.isRef = true) : ((Instr.areturn = .ireturn ∧ (t = .int ∨ t = .boolean ∨ t = .byte ∨ t = .char ∨ t = .short) ∧ ∃ z', w = .int z') ∨ (Instr.areturn = .lreturn ∧ t = .long ∧ ∃ z', w = .long z') ∨ (Instr.areturn = .dreturn ∧ t = .double ∧ ∃ z', w = .double z') ∨ (Instr.areturn = .freturn ∧ t = .float ∧ ∃ z', w = .float z') ∨ (Instr.areturn = .areturn ∧ t.isReference = true ∧ w.isRef = true)) := Or.inr (Or.inr (Or.inr (Or.inr ⟨rfl, ht, hw⟩)))
/-! own: an array by its length and a function of the places -/
def own_ix (j : Int32) (i : Nat) : Prop := ¬ j < 0 ∧ j.toNatClampNeg = i
theorem own_ix_of {i : Nat} (hi : i < 2 ^ 31) : own_ix (Int32.ofNat i) i := by
  have q : (Int32.ofNat i).toInt = i := Int32.toInt_ofNat_of_lt hi
  refine ⟨fun w => ?_, ?_⟩
  · rw [Int32.lt_iff_toInt_lt, q, show (0 : Int32).toInt = 0 from rfl] at w; omega
  · rw [Int32.toNatClampNeg, q]; rfl
theorem own_len32 {n : Nat} : n.toInt32 = Int32.ofNat n := rfl
def own_upd {α : Type} (f : Nat → α) (i : Nat) (v : α) (j : Nat) : α := if j = i then v else f j
def own_L {α : Type} (d : α) (l : List α) (j : Nat) : α := l.getD j d
theorem own_L_set {α : Type} (d : α) (l : List α) (i : Nat) (v : α) (hi : i < l.length) (j : Nat) : own_upd (own_L d l) i v j = own_L d (l.set i v) j := by
  unfold own_upd own_L
  by_cases q : j = i
  · subst q; simp [List.getD_eq_getElem?_getD, hi]
  · simp [List.getD_eq_getElem?_getD, q, List.getElem?_set, Ne.symm q]
theorem own_L_rep {α : Type} (d : α) (n : Nat) (j : Nat) : d = own_L d (List.replicate n d) j := by
  unfold own_L
  rw [List.getD_eq_getElem?_getD, List.getElem?_replicate]
  split <;> rfl
theorem own_updI (f : Nat → Int32) (i : Nat) (x : Int32) (j : Nat) : own_upd (fun j => Value.int (f j)) i (.int x) j = Value.int (own_upd f i x j) := by unfold own_upd; split <;> rfl
theorem own_updJ (f : Nat → Int64) (i : Nat) (x : Int64) (j : Nat) : own_upd (fun j => Value.long (f j)) i (.long x) j = Value.long (own_upd f i x j) := by unfold own_upd; split <;> rfl
def OArr (Z : State) (h : Heap) (a : Addr) (ty : FieldType) (n : Nat) (f : Nat → Value) : Prop := ∃ cl : Cell, Arr Z h a cl ty ∧ cl.slots.size = n ∧ n < 2 ^ 31 ∧ ∀ j, j < n → cl.slots[j]? = some (f j)
variable {a b : Addr} {ty : FieldType} {n : Nat} {f f' : Nat → Value} {sl : Nat} {v : Value} {ws : List Addr}
theorem OArr.lt (F : OArr Z h a ty n f) : a < h.size := by obtain ⟨cl, A, -⟩ := F; exact A.lt
theorem OArr.ext (F : OArr Z h a ty n f) (E : Ext h h') : OArr Z h' a ty n f := by obtain ⟨cl, A, r⟩ := F; exact ⟨cl, A.ext E, r⟩
theorem OArr.other (F : OArr Z h a ty n f) (W : Wr h h' b sl v) (q : a ≠ b) : OArr Z h' a ty n f := by obtain ⟨cl, A, r⟩ := F; exact ⟨cl, A.other W q, r⟩
theorem OArr.keep (F : OArr Z h a ty n f) (K : Keep h h' ws) (q : a ∉ ws) : OArr Z h' a ty n f := by obtain ⟨cl, A, r⟩ := F; exact ⟨cl, ⟨K.2.1 a cl A.1 q, A.2⟩, r⟩
theorem OArr.cast (F : OArr Z h a ty n f) (q : ∀ j, j < n → f j = f' j) : OArr Z h a ty n f' := by obtain ⟨cl, A, r1, r2, r3⟩ := F; exact ⟨cl, A, r1, r2, fun j hj => by rw [r3 j hj, q j hj]⟩
theorem own_in {cl : Cell} {j : Int32} {i : Nat} (hs : cl.slots.size = n) (hj : own_ix j i) (hi : i < n) : ¬ (j < 0 ∨ cl.slots.size ≤ j.toNatClampNeg) := by
  rw [hs, hj.2]; exact fun q => q.elim hj.1 (fun q => absurd hi (Nat.not_lt.mpr q))
theorem OArr.wr (F : OArr Z h a ty n f) {j : Int32} {i : Nat} (hj : own_ix j i) (W : Wr h h' a j.toNatClampNeg v) : OArr Z h' a ty n (own_upd f i v) := by
  obtain ⟨cl, A, r1, r2, r3⟩ := F
  refine ⟨_, A.same W, by rw [sz_set, r1], r2, fun k hk => ?_⟩
  show (cl.slots.setIfInBounds _ v)[k]? = _
  rw [hj.2]
  unfold own_upd
  by_cases q : k = i
  · subst q; rw [if_pos rfl, Array.getElem?_setIfInBounds_self_of_lt (by omega)]
  · rw [if_neg q, Array.getElem?_setIfInBounds_ne (Ne.symm q)]; exact r3 k hk
theorem own_len (X : Stand p l e R s m args below meth c T locs cells slots) (hx : p.tables.exec = Jvm.exec) (hZ : Z.Warmed39 s.vm) (eT : T.heap = h) (F : OArr Z h a ty n f) (hg : g.method = m) {rest : List Value} (hs : g.stack = .ref a :: rest) (hd : decode c.code g.pc = .ok (.arraylength, 1)) :
    ∀ t, Steps p.tables e below (T.setTop { g with pc := g.pc + 1, stack := .int (Int32.ofNat n) :: rest }) t → Steps p.tables e below (T.setTop g) t := by
  obtain ⟨cl, A, r1, r2, r3⟩ := F
  subst r1
  exact X.arraylength hx (by rw [eT]; exact A.1) (State.isArrayOf_alike hZ.alike A.2.1) hg hs hd
theorem own_ldI (X : Stand p l e R s m args below meth c T locs cells slots) (hx : p.tables.exec = Jvm.exec) (hZ : Z.Warmed39 s.vm) (eT : T.heap = h) (F : OArr Z h a .int n f) {j : Int32} {i : Nat} (hj : own_ix j i) (hi : i < n) (hg : g.method = m) {rest : List Value} (hs : g.stack = .int j :: .ref a :: rest) (hd : decode c.code g.pc = .ok (.iaload, 1)) :
    ∀ t, Steps p.tables e below (T.setTop { g with pc := g.pc + 1, stack := f i :: rest }) t → Steps p.tables e below (T.setTop g) t := by
  obtain ⟨cl, A, r1, r2, r3⟩ := F
  exact X.iaload hx (by rw [eT]; exact A.1) (State.isArrayOf_alike hZ.alike A.2.1) A.2.2 (own_in r1 hj hi) (by rw [hj.2]; exact r3 i hi) hg hs hd
theorem own_ldJ (X : Stand p l e R s m args below meth c T locs cells slots) (hx : p.tables.exec = Jvm.exec) (hZ : Z.Warmed39 s.vm) (eT : T.heap = h) (F : OArr Z h a .long n f) {j : Int32} {i : Nat} (hj : own_ix j i) (hi : i < n) (hg : g.method = m) {rest : List Value} (hs : g.stack = .int j :: .ref a :: rest) (hd : decode c.code g.pc = .ok (.laload, 1)) :
    ∀ t, Steps p.tables e below (T.setTop { g with pc := g.pc + 1, stack := f i :: rest }) t → Steps p.tables e below (T.setTop g) t := by
  obtain ⟨cl, A, r1, r2, r3⟩ := F
  exact X.laload hx (by rw [eT]; exact A.1) (State.isArrayOf_alike hZ.alike A.2.1) A.2.2 (own_in r1 hj hi) (by rw [hj.2]; exact r3 i hi) hg hs hd
theorem own_ldB (X : Stand p l e R s m args below meth c T locs cells slots) (hx : p.tables.exec = Jvm.exec) (hZ : Z.Warmed39 s.vm) (eT : T.heap = h) (F : OArr Z h a .byte n f) {j : Int32} {i : Nat} (hj : own_ix j i) (hi : i < n) (hg : g.method = m) {rest : List Value} (hs : g.stack = .int j :: .ref a :: rest) (hd : decode c.code g.pc = .ok (.baload, 1)) :
    ∀ t, Steps p.tables e below (T.setTop { g with pc := g.pc + 1, stack := f i :: rest }) t → Steps p.tables e below (T.setTop g) t := by
  obtain ⟨cl, A, r1, r2, r3⟩ := F
  exact X.baloadBytes hx (by rw [eT]; exact A.1) (State.isArrayOf_alike hZ.alike A.2.1) A.2.2 (own_in r1 hj hi) (by rw [hj.2]; exact r3 i hi) hg hs hd
theorem own_stI (X : Stand p l e R s m args below meth c T locs cells slots) (hx : p.tables.exec = Jvm.exec) (hZ : Z.Warmed39 s.vm) (eT : T.heap = h) (F : OArr Z h a .int n f) {j x : Int32} {i : Nat} (hj : own_ix j i) (hi : i < n) (hg : g.method = m) {rest : List Value} (hs : g.stack = .int x :: .int j :: .ref a :: rest) (hd : decode c.code g.pc = .ok (.iastore, 1)) :
    ∃ T' h', Stand p l e R s m args below meth c T' (locs ++ [⟨a, j.toNatClampNeg⟩]) cells slots ∧ T'.heap = h' ∧ Wr h h' a j.toNatClampNeg (.int x) ∧ OArr Z h' a .int n (own_upd f i (.int x)) ∧ ∀ t, Steps p.tables e below (T'.setTop { g with pc := g.pc + 1, stack := rest }) t → Steps p.tables e below (T.setTop g) t := by
  obtain ⟨cl, A, r1, r2, r3⟩ := id F
  obtain ⟨T', h', X', e', W, st⟩ := stI X hx hZ eT A (own_in r1 hj hi) hg hs hd
  exact ⟨T', h', X', e', W, F.wr hj W, st⟩
theorem own_stJ (X : Stand p l e R s m args below meth c T locs cells slots) (hx : p.tables.exec = Jvm.exec) (hZ : Z.Warmed39 s.vm) (eT : T.heap = h) (F : OArr Z h a .long n f) {j : Int32} {x : Int64} {i : Nat} (hj : own_ix j i) (hi : i < n) (hg : g.method = m) {rest : List Value} (hs : g.stack = .long x :: .int j :: .ref a :: rest) (hd : decode c.code g.pc = .ok (.lastore, 1)) :
    ∃ T' h', Stand p l e R s m args below meth c T' (locs ++ [⟨a, j.toNatClampNeg⟩]) cells slots ∧ T'.heap = h' ∧ Wr h h' a j.toNatClampNeg (.long x) ∧ OArr Z h' a .long n (own_upd f i (.long x)) ∧ ∀ t, Steps p.tables e below (T'.setTop { g with pc := g.pc + 1, stack := rest }) t → Steps p.tables e below (T.setTop g) t := by
  obtain ⟨cl, A, r1, r2, r3⟩ := id F
  obtain ⟨T', h', X', e', W, st⟩ := stJ X hx hZ eT A (own_in r1 hj hi) hg hs hd
  exact ⟨T', h', X', e', W, F.wr hj W, st⟩
theorem own_newA (X : Stand p l e R s m args below meth c T locs cells slots) (hx : p.tables.exec = Jvm.exec) (hZ : Z.Warmed39 s.vm) {aty : ArrayType} (w : (Cond.arrayClass (newarray.typeOf aty)).before a0 Z = true) (eT : T.heap = h) (hg : g.method = m) (hd : decode c.code g.pc = .ok (.newarray aty, 2)) {z : Int32} {rest : List Value} (hs : g.stack = .int z :: rest)
    (hj : own_ix z n) {cap : Nat} (hcap : n ≤ cap) (hb : cap * 8 ≤ 536870912) (hc : cells + 1 ≤ R.cells) (hl : slots + cap ≤ R.slots) :
    ∃ T' h' b, b = h.size ∧ Stand p l e R s m args below meth c T' locs (cells + 1) (slots + cap) ∧ T'.heap = h' ∧ Ext h h' ∧ OArr Z h' b (newarray.typeOf aty) n (fun _ => defaultValue (newarray.typeOf aty)) ∧
      ∀ t, Steps p.tables e below (T'.setTop { g with pc := g.pc + 2, stack := .ref b :: rest }) t → Steps p.tables e below (T.setTop g) t := by
  obtain ⟨T', h', cA, X', e', E, A, st⟩ := newP X hx hZ w eT hg hd hs hj.1 (cap := cap) (by rw [hj.2]; exact hcap) hb hc hl
  have q := back32 hj.1
  rw [hj.2] at q
  refine ⟨T', h', _, rfl, X', e', E, ⟨_, A, (sz_new _ _ _).trans hj.2, q.2, fun k hk => ?_⟩, st⟩
  show (Array.replicate z.toNatClampNeg (defaultValue (newarray.typeOf aty)))[k]? = _
  rw [hj.2, Array.getElem?_replicate, if_pos hk]
theorem own_keepL {x : Addr} {L : List Addr} (K : Keep h h' L) (q : x ∉ L) {cl : Cell} (hc : h[x]? = some cl) : h'[x]? = some cl := K.2.1 x cl hc q
theorem own_pop2L {tb : Tables} [Ours tb] {target : State} (h : At T m c below) (hx : tb.exec = Jvm.exec) (hg : g.method = m) {x : Int64} {rest : List Value} (hd : decode c.code g.pc = .ok (.pop2, 1)) (hs : g.stack = .long x :: rest)
    (hr : Steps tb e below (T.setTop { g with pc := g.pc + 1, stack := rest }) target) : Steps tb e below (T.setTop g) target := by
  subst hg
  jvm_step h [h.top, hx, hd, hs, Value.category]
  exact hr
end Own
theorem own_d_jdk_71_method_1_0 : decode jdk_71_method_1_code 0 = .ok (.aload_n 0, 1) := by decide +kernel
theorem own_d_jdk_71_method_1_1 : decode jdk_71_method_1_code 1 = .ok (.invokespecial 1, 3) := by decide +kernel
theorem own_d_jdk_71_method_1_4 : decode jdk_71_method_1_code 4 = .ok (.return_, 1) := by decide +kernel
theorem own_pn4 : plainName "java/util/AbstractMap" = true := by first | (simp [plainName, overriddenIn]; done) | decide +kernel
theorem own_d_jdk_22_method_1_0 : decode jdk_22_method_1_code 0 = .ok (.aload_n 0, 1) := by decide +kernel
theorem own_d_jdk_22_method_1_1 : decode jdk_22_method_1_code 1 = .ok (.invokespecial 1, 3) := by decide +kernel
theorem own_d_jdk_22_method_1_4 : decode jdk_22_method_1_code 4 = .ok (.return_, 1) := by decide +kernel
theorem own_pn3 : plainName "java/util/AbstractCollection" = true := by first | (simp [plainName, overriddenIn]; done) | decide +kernel
theorem own_d_jdk_91_method_1_0 : decode jdk_91_method_1_code 0 = .ok (.aload_n 0, 1) := by decide +kernel
theorem own_d_jdk_91_method_1_1 : decode jdk_91_method_1_code 1 = .ok (.invokespecial 1, 3) := by decide +kernel
theorem own_pd1 : parseMethodDescriptor "()V" = some ⟨[], none⟩ := by decide +kernel
theorem own_d_jdk_91_method_1_4 : decode jdk_91_method_1_code 4 = .ok (.return_, 1) := by decide +kernel
theorem own_pn5 : plainName "java/util/AbstractSet" = true := by first | (simp [plainName, overriddenIn]; done) | decide +kernel
theorem own_d_jdk_69_method_7_0 : decode jdk_69_method_7_code 0 = .ok (.aload_n 0, 1) := by decide +kernel
theorem own_d_jdk_69_method_7_1 : decode jdk_69_method_7_code 1 = .ok (.invokespecial 43, 3) := by decide +kernel
theorem own_d_jdk_69_method_7_4 : decode jdk_69_method_7_code 4 = .ok (.aload_n 0, 1) := by decide +kernel
theorem own_d_jdk_69_method_7_5 : decode jdk_69_method_7_code 5 = .ok (.ldc 92, 2) := by decide +kernel
theorem own_d_jdk_69_method_7_7 : decode jdk_69_method_7_code 7 = .ok (.putfield 81, 3) := by decide +kernel
theorem own_d_jdk_69_method_7_10 : decode jdk_69_method_7_code 10 = .ok (.return_, 1) := by decide +kernel
theorem own_pn6 : plainName "java/util/HashMap" = true := by first | (simp [plainName, overriddenIn]; done) | decide +kernel
theorem own_d_jdk_93_method_1_0 : decode jdk_93_method_1_code 0 = .ok (.aload_n 0, 1) := by decide +kernel
theorem own_d_jdk_93_method_1_1 : decode jdk_93_method_1_code 1 = .ok (.invokespecial 1, 3) := by decide +kernel
theorem own_d_jdk_93_method_1_4 : decode jdk_93_method_1_code 4 = .ok (.aload_n 0, 1) := by decide +kernel
theorem own_d_jdk_93_method_1_5 : decode jdk_93_method_1_code 5 = .ok (.new 7, 3) := by decide +kernel
theorem own_d_jdk_93_method_1_8 : decode jdk_93_method_1_code 8 = .ok (.dup, 1) := by decide +kernel
theorem own_d_jdk_93_method_1_9 : decode jdk_93_method_1_code 9 = .ok (.invokespecial 9, 3) := by decide +kernel
theorem own_d_jdk_93_method_1_12 : decode jdk_93_method_1_code 12 = .ok (.putfield 10, 3) := by decide +kernel
theorem own_d_jdk_93_method_1_15 : decode jdk_93_method_1_code 15 = .ok (.return_, 1) := by decide +kernel
theorem own_pn7 : plainName "java/util/HashSet" = true := by first | (simp [plainName, overriddenIn]; done) | decide +kernel
theorem own_d_prog_50_method_2_0 : decode prog_50_method_2_code 0 = .ok (.aload_n 0, 1) := by decide +kernel
theorem own_d_prog_50_method_2_1 : decode prog_50_method_2_code 1 = .ok (.invokespecial 7, 3) := by decide +kernel
theorem own_d_prog_50_method_2_4 : decode prog_50_method_2_code 4 = .ok (.aload_n 0, 1) := by decide +kernel
theorem own_d_prog_50_method_2_5 : decode prog_50_method_2_code 5 = .ok (.new 12, 3) := by decide +kernel
theorem own_d_prog_50_method_2_8 : decode prog_50_method_2_code 8 = .ok (.dup, 1) := by decide +kernel
theorem own_d_prog_50_method_2_9 : decode prog_50_method_2_code 9 = .ok (.invokespecial 14, 3) := by decide +kernel
theorem own_d_prog_50_method_2_12 : decode prog_50_method_2_code 12 = .ok (.putfield 15, 3) := by decide +kernel
theorem own_d_prog_50_method_2_15 : decode prog_50_method_2_code 15 = .ok (.aload_n 0, 1) := by decide +kernel
theorem own_d_prog_50_method_2_16 : decode prog_50_method_2_code 16 = .ok (.lload_n 1, 1) := by decide +kernel
theorem own_d_prog_50_method_2_17 : decode prog_50_method_2_code 17 = .ok (.putfield 19, 3) := by decide +kernel
theorem own_d_prog_50_method_2_20 : decode prog_50_method_2_code 20 = .ok (.aload_n 0, 1) := by decide +kernel
theorem own_d_prog_50_method_2_21 : decode prog_50_method_2_code 21 = .ok (.lload_n 1, 1) := by decide +kernel
theorem own_d_prog_50_method_2_22 : decode prog_50_method_2_code 22 = .ok (.putfield 23, 3) := by decide +kernel
theorem own_d_prog_50_method_2_25 : decode prog_50_method_2_code 25 = .ok (.aload_n 0, 1) := by decide +kernel
theorem own_d_prog_50_method_2_26 : decode prog_50_method_2_code 26 = .ok (.lload_n 3, 1) := by decide +kernel
theorem own_d_prog_50_method_2_27 : decode prog_50_method_2_code 27 = .ok (.putfield 26, 3) := by decide +kernel
theorem own_d_prog_50_method_2_30 : decode prog_50_method_2_code 30 = .ok (.aload_n 0, 1) := by decide +kernel
theorem own_d_prog_50_method_2_31 : decode prog_50_method_2_code 31 = .ok (.iload 5, 2) := by decide +kernel
theorem own_d_prog_50_method_2_33 : decode prog_50_method_2_code 33 = .ok (.putfield 29, 3) := by decide +kernel
theorem own_d_prog_50_method_2_36 : decode prog_50_method_2_code 36 = .ok (.return_, 1) := by decide +kernel
theorem own_pn0 : plainName "com/example/crisp_relay/crisprelay/session/RequestIds" = true := by first | (simp [plainName, overriddenIn]; done) | decide +kernel
theorem own_d_prog_50_method_1_0 : decode prog_50_method_1_code 0 = .ok (.aload_n 0, 1) := by decide +kernel
theorem own_d_prog_50_method_1_1 : decode prog_50_method_1_code 1 = .ok (.lload_n 1, 1) := by decide +kernel
theorem own_d_prog_50_method_1_2 : decode prog_50_method_1_code 2 = .ok (.lload_n 3, 1) := by decide +kernel
theorem own_d_prog_50_method_1_3 : decode prog_50_method_1_code 3 = .ok (.iconst 1, 1) := by decide +kernel
theorem own_d_prog_50_method_1_4 : decode prog_50_method_1_code 4 = .ok (.invokespecial 1, 3) := by decide +kernel
theorem own_pd7 : parseMethodDescriptor "(JJZ)V" = some ⟨[.long, .long, .boolean], none⟩ := by decide +kernel
theorem own_d_prog_50_method_1_7 : decode prog_50_method_1_code 7 = .ok (.return_, 1) := by decide +kernel
theorem own_d_prog_50_method_3_0 : decode prog_50_method_3_code 0 = .ok (.new 2, 3) := by decide +kernel
theorem own_d_prog_50_method_3_3 : decode prog_50_method_3_code 3 = .ok (.dup, 1) := by decide +kernel
theorem own_d_prog_50_method_3_4 : decode prog_50_method_3_code 4 = .ok (.lload_n 0, 1) := by decide +kernel
theorem own_d_prog_50_method_3_5 : decode prog_50_method_3_code 5 = .ok (.ldc2_w 35, 3) := by decide +kernel
theorem own_d_prog_50_method_3_8 : decode prog_50_method_3_code 8 = .ok (.iconst 0, 1) := by decide +kernel
theorem own_d_prog_50_method_3_9 : decode prog_50_method_3_code 9 = .ok (.invokespecial 1, 3) := by decide +kernel
theorem own_d_prog_50_method_3_12 : decode prog_50_method_3_code 12 = .ok (.areturn, 1) := by decide +kernel
theorem own_d_prog_50_method_10_0 : decode prog_50_method_10_code 0 = .ok (.aload_n 0, 1) := by decide +kernel
theorem own_d_prog_50_method_10_1 : decode prog_50_method_10_code 1 = .ok (.getfield 29, 3) := by decide +kernel
theorem own_d_prog_50_method_10_4 : decode prog_50_method_10_code 4 = .ok (.ifCond .ne 8, 3) := by decide +kernel
theorem own_d_prog_50_method_10_7 : decode prog_50_method_10_code 7 = .ok (.aload_n 0, 1) := by decide +kernel
theorem own_d_prog_50_method_10_8 : decode prog_50_method_10_code 8 = .ok (.getfield 26, 3) := by decide +kernel
theorem own_d_prog_50_method_10_11 : decode prog_50_method_10_code 11 = .ok (.lreturn, 1) := by decide +kernel
theorem own_d_prog_50_method_10_12 : decode prog_50_method_10_code 12 = .ok (.aload_n 0, 1) := by decide +kernel
theorem own_d_prog_50_method_10_13 : decode prog_50_method_10_code 13 = .ok (.dup, 1) := by decide +kernel
theorem own_d_prog_50_method_10_14 : decode prog_50_method_10_code 14 = .ok (.getfield 26, 3) := by decide +kernel
theorem own_d_prog_50_method_10_17 : decode prog_50_method_10_code 17 = .ok (.ldc2_w 50, 3) := by decide +kernel
theorem own_d_prog_50_method_10_20 : decode prog_50_method_10_code 20 = .ok (.lload_n 1, 1) := by decide +kernel
theorem own_d_prog_50_method_10_21 : decode prog_50_method_10_code 21 = .ok (.lmul, 1) := by decide +kernel
theorem own_d_prog_50_method_10_22 : decode prog_50_method_10_code 22 = .ok (.ladd, 1) := by decide +kernel
theorem own_d_prog_50_method_10_23 : decode prog_50_method_10_code 23 = .ok (.putfield 26, 3) := by decide +kernel
theorem own_d_prog_50_method_10_26 : decode prog_50_method_10_code 26 = .ok (.aload_n 0, 1) := by decide +kernel
theorem own_d_prog_50_method_10_27 : decode prog_50_method_10_code 27 = .ok (.getfield 26, 3) := by decide +kernel
theorem own_d_prog_50_method_10_30 : decode prog_50_method_10_code 30 = .ok (.lreturn, 1) := by decide +kernel
theorem own_d_prog_50_method_6_0 : decode prog_50_method_6_code 0 = .ok (.aload_n 0, 1) := by decide +kernel
theorem own_d_prog_50_method_6_1 : decode prog_50_method_6_code 1 = .ok (.getfield 23, 3) := by decide +kernel
theorem own_d_prog_50_method_6_4 : decode prog_50_method_6_code 4 = .ok (.aload_n 0, 1) := by decide +kernel
theorem own_d_prog_50_method_6_5 : decode prog_50_method_6_code 5 = .ok (.getfield 26, 3) := by decide +kernel
theorem own_d_prog_50_method_6_8 : decode prog_50_method_6_code 8 = .ok (.lcmp, 1) := by decide +kernel
theorem own_d_prog_50_method_6_9 : decode prog_50_method_6_code 9 = .ok (.ifCond .ge 7, 3) := by decide +kernel
theorem own_d_prog_50_method_6_12 : decode prog_50_method_6_code 12 = .ok (.iconst 1, 1) := by decide +kernel
theorem own_d_prog_50_method_6_13 : decode prog_50_method_6_code 13 = .ok (.goto 4, 3) := by decide +kernel
theorem own_d_prog_50_method_6_17 : decode prog_50_method_6_code 17 = .ok (.ireturn, 1) := by decide +kernel
theorem own_d_prog_50_method_6_16 : decode prog_50_method_6_code 16 = .ok (.iconst 0, 1) := by decide +kernel
theorem own_d_prog_50_method_5_0 : decode prog_50_method_5_code 0 = .ok (.aload_n 0, 1) := by decide +kernel
theorem own_d_prog_50_method_5_1 : decode prog_50_method_5_code 1 = .ok (.getfield 26, 3) := by decide +kernel
theorem own_d_prog_50_method_5_4 : decode prog_50_method_5_code 4 = .ok (.lreturn, 1) := by decide +kernel
theorem own_d_prog_50_method_4_0 : decode prog_50_method_4_code 0 = .ok (.aload_n 0, 1) := by decide +kernel
theorem own_d_prog_50_method_4_1 : decode prog_50_method_4_code 1 = .ok (.getfield 23, 3) := by decide +kernel
theorem own_d_prog_50_method_4_4 : decode prog_50_method_4_code 4 = .ok (.lreturn, 1) := by decide +kernel
theorem own_pd5 : parseMethodDescriptor "(JJ)V" = some ⟨[.long, .long], none⟩ := by decide +kernel
theorem own_pd3 : parseMethodDescriptor "(J)J" = some ⟨[.long], some .long⟩ := by decide +kernel
theorem own_pd0 : parseMethodDescriptor "()J" = some ⟨[], some .long⟩ := by decide +kernel
theorem own_pd2 : parseMethodDescriptor "()Z" = some ⟨[], some .boolean⟩ := by decide +kernel
theorem own_pd4 : parseMethodDescriptor "(J)Lcom/example/crisp_relay/crisprelay/session/RequestIds;" = some ⟨[.long], some (.object "com/example/crisp_relay/crisprelay/session/RequestIds")⟩ := by decide +kernel
theorem own_pn1 : plainName "com/example/crisp_relay/crisprelay/session/RequestIdsGrantPinLaw" = true := by first | (simp [plainName, overriddenIn]; done) | decide +kernel
def own_ltJ (x y : Int64) : Int32 := if x < y then 1 else 0
theorem own_ltJ_1 {x y : Int64} (h : x < y) : own_ltJ x y = 1 := if_pos h
theorem own_ltJ_0 {x y : Int64} (h : ¬ x < y) : own_ltJ x y = 0 := if_neg h
theorem own_dbl (x a : Int64) : x + (2 : Int64) * a = x + a + a := by
  apply Int64.toBitVec_inj.mp
  simp only [Int64.toBitVec_add, Int64.toBitVec_mul]
  rw [BitVec.add_assoc, show (2 : Int64).toBitVec = 2#64 from rfl, BitVec.two_mul]
theorem own_ef_rmAM (m : MethodId) (x0 : Addr) : entryFrame m #[(.ref x0)] 1 = mkF m 0 #[.val (.ref x0)] [] := by first | (simp [entryFrame, mkF, argsToLocals, Value.category]; done) | rfl
def R_rmAM : Room := { frames := 1, cells := 0, slots := 0, locals := 12 }
def Q_rmAM (Z : State) (a : Addr) (h0 : Heap) (n0 : Nat) (v : Option Value) (h : Heap) (L : List Loc) : Prop := v = none ∧ Fr n0 L ∧ h = h0
set_option maxRecDepth 65536 in
set_option maxHeartbeats 40000000 in
theorem rmAM (l : Launch) (Z : State) (a0 : Array Value) (hw : ∀ d ∈ tables_1, d.before a0 Z = true) (ws : List Jvm.Cond) (a : Addr) (h0 : Heap) (n0 : Nat) (Z0 : n0 ≤ h0.size) :
    MetFree l (⟨"java/util/AbstractMap", "<init>", "()V"⟩ : MethodName) (head1 (Jvm.Cond.code (⟨"java/util/AbstractMap", "<init>", "()V"⟩ : MethodName) jdk_71_method_1_code 1 none :: ws) R_rmAM) (fun vs_ U => vs_ = #[(.ref a)] ∧ Z.Warmed39 U.vm ∧ U.heap = h0) (fun _ _ _ _ _ => True) (fun _ U o U' => ∃ v L, o = .returned v ∧ Q_rmAM Z a h0 n0 v U'.heap L ∧ FrameEnd U o U' L R_rmAM.cells R_rmAM.slots) := by
  refine MetFree.of_bodySF (plainFor_of_name own_pn4) hisR ?_
  intro p e s m args below meth c s₁ Bd hml0 hP hK
  obtain ⟨rfl, hZ, hh⟩ := hP
  have hx := Bd.exec
  have hby := Bd.bytes
  have hml : c.maxLocals = 1 := hml0
  have hown : s.vm.findClass "java/util/AbstractMap" = some m.cls := findClass_of_methodNamed Bd.named
  have hnm := (name_of_methodNamed Bd.named Bd.method).1
  have hlk : meth.locks = false := BodyLoose.notSynchronized Bd
  have X0 : Stand p l e R_rmAM s m #[(.ref a)] below meth c s₁ [] 0 0 := Stand.of_body Bd
  have e0 : s₁.heap = h0 := by rw [← hh, Bd.state]; rfl
  have N0 := Fr.nil n0
  refine OGo.en (Q := Q_rmAM Z a h0 n0) (C := R_rmAM.cells) (S := R_rmAM.slots) (own_ef_rmAM m a) ?_
  refine OGo.st (T' := s₁) (g' := (mkF m 1 #[.val (.ref a)] [(.ref a)])) (fun _ k => (XS.aloadN X0.here hx rfl (hb hby own_d_jdk_71_method_1_0) rfl rfl k)) ?_
  obtain ⟨T1, X1, e1, st1⟩ := initO X0 hx hZ hown (hw _ (List.mem_of_getElem? (i := 45) rfl)) (hw _ (List.mem_of_getElem? (i := 11) rfl)) (hw _ (List.mem_of_getElem? (i := 12) rfl)) e0 (g := (mkF m 1 #[.val (.ref a)] [(.ref a)])) rfl (by rw [hml]; rfl) rfl (hb hby own_d_jdk_71_method_1_1) (by decide) (W := 0) (by show 2 * 0 + _ ≤ _; exact Nat.le_of_eq rfl) (by decide)
  refine OGo.st (T' := T1) (g' := (mkF m 4 #[.val (.ref a)] [])) (fun _ k => st1 _ k) ?_
  exact OGo.retV X1 hx hlk Bd.returns (hb hby own_d_jdk_71_method_1_4) (by decide) (by decide) e1 (⟨rfl, N0, rfl⟩)
theorem own_ef_rmAC (m : MethodId) (x0 : Addr) : entryFrame m #[(.ref x0)] 1 = mkF m 0 #[.val (.ref x0)] [] := by first | (simp [entryFrame, mkF, argsToLocals, Value.category]; done) | rfl
def R_rmAC : Room := { frames := 1, cells := 0, slots := 0, locals := 12 }
def Q_rmAC (Z : State) (a : Addr) (h0 : Heap) (n0 : Nat) (v : Option Value) (h : Heap) (L : List Loc) : Prop := v = none ∧ Fr n0 L ∧ h = h0
set_option maxRecDepth 65536 in
set_option maxHeartbeats 40000000 in
theorem rmAC (l : Launch) (Z : State) (a0 : Array Value) (hw : ∀ d ∈ tables_1, d.before a0 Z = true) (ws : List Jvm.Cond) (a : Addr) (h0 : Heap) (n0 : Nat) (Z0 : n0 ≤ h0.size) :
    MetFree l (⟨"java/util/AbstractCollection", "<init>", "()V"⟩ : MethodName) (head1 (Jvm.Cond.code (⟨"java/util/AbstractCollection", "<init>", "()V"⟩ : MethodName) jdk_22_method_1_code 1 none :: ws) R_rmAC) (fun vs_ U => vs_ = #[(.ref a)] ∧ Z.Warmed39 U.vm ∧ U.heap = h0) (fun _ _ _ _ _ => True) (fun _ U o U' => ∃ v L, o = .returned v ∧ Q_rmAC Z a h0 n0 v U'.heap L ∧ FrameEnd U o U' L R_rmAC.cells R_rmAC.slots) := by
  refine MetFree.of_bodySF (plainFor_of_name own_pn3) hisR ?_
  intro p e s m args below meth c s₁ Bd hml0 hP hK
  obtain ⟨rfl, hZ, hh⟩ := hP
  have hx := Bd.exec
  have hby := Bd.bytes
  have hml : c.maxLocals = 1 := hml0
  have hown : s.vm.findClass "java/util/AbstractCollection" = some m.cls := findClass_of_methodNamed Bd.named
  have hnm := (name_of_methodNamed Bd.named Bd.method).1
  have hlk : meth.locks = false := BodyLoose.notSynchronized Bd
  have X0 : Stand p l e R_rmAC s m #[(.ref a)] below meth c s₁ [] 0 0 := Stand.of_body Bd
  have e0 : s₁.heap = h0 := by rw [← hh, Bd.state]; rfl
  have N0 := Fr.nil n0
  refine OGo.en (Q := Q_rmAC Z a h0 n0) (C := R_rmAC.cells) (S := R_rmAC.slots) (own_ef_rmAC m a) ?_
  refine OGo.st (T' := s₁) (g' := (mkF m 1 #[.val (.ref a)] [(.ref a)])) (fun _ k => (XS.aloadN X0.here hx rfl (hb hby own_d_jdk_22_method_1_0) rfl rfl k)) ?_
  obtain ⟨T1, X1, e1, st1⟩ := initO X0 hx hZ hown (hw _ (List.mem_of_getElem? (i := 31) rfl)) (hw _ (List.mem_of_getElem? (i := 11) rfl)) (hw _ (List.mem_of_getElem? (i := 12) rfl)) e0 (g := (mkF m 1 #[.val (.ref a)] [(.ref a)])) rfl (by rw [hml]; rfl) rfl (hb hby own_d_jdk_22_method_1_1) (by decide) (W := 0) (by show 2 * 0 + _ ≤ _; exact Nat.le_of_eq rfl) (by decide)
  refine OGo.st (T' := T1) (g' := (mkF m 4 #[.val (.ref a)] [])) (fun _ k => st1 _ k) ?_
  exact OGo.retV X1 hx hlk Bd.returns (hb hby own_d_jdk_22_method_1_4) (by decide) (by decide) e1 (⟨rfl, N0, rfl⟩)
theorem own_ef_rmAS (m : MethodId) (x0 : Addr) : entryFrame m #[(.ref x0)] 1 = mkF m 0 #[.val (.ref x0)] [] := by first | (simp [entryFrame, mkF, argsToLocals, Value.category]; done) | rfl
def R_rmAS : Room := { frames := 2, cells := 0, slots := 0, locals := 24 }
def Q_rmAS (Z : State) (a : Addr) (h0 : Heap) (n0 : Nat) (v : Option Value) (h : Heap) (L : List Loc) : Prop := v = none ∧ Fr n0 L ∧ h = h0
set_option maxRecDepth 65536 in
set_option maxHeartbeats 40000000 in
theorem rmAS (l : Launch) (Z : State) (a0 : Array Value) (hw : ∀ d ∈ tables_1, d.before a0 Z = true) (ws : List Jvm.Cond) (a : Addr) (h0 : Heap) (n0 : Nat) (Z0 : n0 ≤ h0.size) :
    MetFree l (⟨"java/util/AbstractSet", "<init>", "()V"⟩ : MethodName) (head1 (Jvm.Cond.code (⟨"java/util/AbstractSet", "<init>", "()V"⟩ : MethodName) jdk_91_method_1_code 1 none :: ws) R_rmAS) (fun vs_ U => vs_ = #[(.ref a)] ∧ Z.Warmed39 U.vm ∧ U.heap = h0) (fun _ _ _ _ _ => True) (fun _ U o U' => ∃ v L, o = .returned v ∧ Q_rmAS Z a h0 n0 v U'.heap L ∧ FrameEnd U o U' L R_rmAS.cells R_rmAS.slots) := by
  refine MetFree.of_bodySF (plainFor_of_name own_pn5) hisR ?_
  intro p e s m args below meth c s₁ Bd hml0 hP hK
  obtain ⟨rfl, hZ, hh⟩ := hP
  have hx := Bd.exec
  have hby := Bd.bytes
  have hml : c.maxLocals = 1 := hml0
  have hown : s.vm.findClass "java/util/AbstractSet" = some m.cls := findClass_of_methodNamed Bd.named
  have hnm := (name_of_methodNamed Bd.named Bd.method).1
  have hlk : meth.locks = false := BodyLoose.notSynchronized Bd
  have X0 : Stand p l e R_rmAS s m #[(.ref a)] below meth c s₁ [] 0 0 := Stand.of_body Bd
  have e0 : s₁.heap = h0 := by rw [← hh, Bd.state]; rfl
  have N0 := Fr.nil n0
  refine OGo.en (Q := Q_rmAS Z a h0 n0) (C := R_rmAS.cells) (S := R_rmAS.slots) (own_ef_rmAS m a) ?_
  refine OGo.st (T' := s₁) (g' := (mkF m 1 #[.val (.ref a)] [(.ref a)])) (fun _ k => (XS.aloadN X0.here hx rfl (hb hby own_d_jdk_91_method_1_0) rfl rfl k)) ?_
  obtain ⟨_, _, ⟨T1, L1, k1, n1⟩, -, X1, ⟨Lc1, hQ1, l1, y1, z1⟩, st1⟩ := X0.specialBack hx (y := (⟨"java/util/AbstractCollection", "<init>", "()V"⟩ : MethodName)) rfl hown (mvT hZ (hw _ (List.mem_of_getElem? (i := 25) rfl))) (mvT hZ (hw _ (List.mem_of_getElem? (i := 26) rfl))) (mvT hZ (hw _ (List.mem_of_getElem? (i := 30) rfl))) (by decide) (backOf (W := 0) (rmAC l Z a0 hw [] (a) h0 n0 Z0 ) hZ (hw _ (List.mem_of_getElem? (i := 30) rfl)) (hw _ (List.mem_of_getElem? (i := 29) rfl)) (by decide) (by decide)) (g := (mkF m 1 #[.val (.ref a)] [(.ref a)])) rfl (by rw [hml]; rfl) (Steps.refl _) (a := a) (argsL := []) (rest := []) (lenOf own_pd1 rfl) rfl (by show 2 * 0 + _ ≤ _; exact Nat.le_of_eq rfl) (hb hby own_d_jdk_91_method_1_1) (fun _ _ => ⟨rfl, e0, (by decide : 0 + 0 ≤ _), (by decide : 0 + 0 ≤ _)⟩)
  dsimp only [Pt.U, Pt.locs, Pt.cells, Pt.slots] at X1 l1 y1 z1 st1 hQ1
  subst l1 y1 z1
  have X1 : Stand p l e R_rmAS s m _ below meth c T1 _ 0 0 := X1
  obtain ⟨rfl, Nq1, e1⟩ := hQ1
  have N1 := Fr.app N0 Nq1
  refine OGo.st (T' := T1) (g' := (mkF m 4 #[.val (.ref a)] [])) (fun _ k => st1.trans k) ?_
  exact OGo.retV X1 hx hlk Bd.returns (hb hby own_d_jdk_91_method_1_4) (by decide) (by decide) e1 (⟨rfl, N1, rfl⟩)
theorem own_ef_rmHM (m : MethodId) (x0 : Addr) : entryFrame m #[(.ref x0)] 1 = mkF m 0 #[.val (.ref x0)] [] := by first | (simp [entryFrame, mkF, argsToLocals, Value.category]; done) | rfl
def R_rmHM : Room := { frames := 2, cells := 0, slots := 0, locals := 24 }
def Q_rmHM (Z : State) (a : Addr) (a_loadFactor : UInt32) (h0 : Heap) (n0 : Nat) (v : Option Value) (h : Heap) (L : List Loc) : Prop := v = none ∧ Fr n0 L ∧ Keep h0 h [a] ∧ Fld Z h a "java/util/HashMap" "loadFactor" "F" (.float (1061158912 : UInt32))
set_option maxRecDepth 65536 in
set_option maxHeartbeats 40000000 in
theorem rmHM (l : Launch) (Z : State) (a0 : Array Value) (hw : ∀ d ∈ tables_1, d.before a0 Z = true) (ws : List Jvm.Cond) (a : Addr) (a_loadFactor : UInt32) (h0 : Heap) (n0 : Nat) (Z0 : n0 ≤ h0.size) (E_a : Exa Z h0 a "java/util/HashMap") (F_a_loadFactor : Fld Z h0 a "java/util/HashMap" "loadFactor" "F" (.float a_loadFactor)) (g_a : n0 ≤ a) :
    MetFree l (⟨"java/util/HashMap", "<init>", "()V"⟩ : MethodName) (head1 (Jvm.Cond.code (⟨"java/util/HashMap", "<init>", "()V"⟩ : MethodName) jdk_69_method_7_code 1 none :: ws) R_rmHM) (fun vs_ U => vs_ = #[(.ref a)] ∧ Z.Warmed39 U.vm ∧ U.heap = h0) (fun _ _ _ _ _ => True) (fun _ U o U' => ∃ v L, o = .returned v ∧ Q_rmHM Z a a_loadFactor h0 n0 v U'.heap L ∧ FrameEnd U o U' L R_rmHM.cells R_rmHM.slots) := by
  refine MetFree.of_bodySF (plainFor_of_name own_pn6) hisR ?_
  intro p e s m args below meth c s₁ Bd hml0 hP hK
  obtain ⟨rfl, hZ, hh⟩ := hP
  have hx := Bd.exec
  have hby := Bd.bytes
  have hml : c.maxLocals = 1 := hml0
  have hown : s.vm.findClass "java/util/HashMap" = some m.cls := findClass_of_methodNamed Bd.named
  have hnm := (name_of_methodNamed Bd.named Bd.method).1
  have hlk : meth.locks = false := BodyLoose.notSynchronized Bd
  have X0 : Stand p l e R_rmHM s m #[(.ref a)] below meth c s₁ [] 0 0 := Stand.of_body Bd
  have e0 : s₁.heap = h0 := by rw [← hh, Bd.state]; rfl
  have N0 := Fr.nil n0
  have K0 : Keep h0 h0 [a] := Keep.refl _ _
  refine OGo.en (Q := Q_rmHM Z a a_loadFactor h0 n0) (C := R_rmHM.cells) (S := R_rmHM.slots) (own_ef_rmHM m a) ?_
  refine OGo.st (T' := s₁) (g' := (mkF m 1 #[.val (.ref a)] [(.ref a)])) (fun _ k => (XS.aloadN X0.here hx rfl (hb hby own_d_jdk_69_method_7_0) rfl rfl k)) ?_
  obtain ⟨_, _, ⟨T1, L1, k1, n1⟩, -, X1, ⟨Lc1, hQ1, l1, y1, z1⟩, st1⟩ := X0.specialBack hx (y := (⟨"java/util/AbstractMap", "<init>", "()V"⟩ : MethodName)) rfl hown (mvT hZ (hw _ (List.mem_of_getElem? (i := 39) rfl))) (mvT hZ (hw _ (List.mem_of_getElem? (i := 40) rfl))) (mvT hZ (hw _ (List.mem_of_getElem? (i := 44) rfl))) (by decide) (backOf (W := 0) (rmAM l Z a0 hw [] (a) h0 n0 Z0 ) hZ (hw _ (List.mem_of_getElem? (i := 44) rfl)) (hw _ (List.mem_of_getElem? (i := 43) rfl)) (by decide) (by decide)) (g := (mkF m 1 #[.val (.ref a)] [(.ref a)])) rfl (by rw [hml]; rfl) (Steps.refl _) (a := a) (argsL := []) (rest := []) (lenOf own_pd1 rfl) rfl (by show 2 * 0 + _ ≤ _; exact Nat.le_of_eq rfl) (hb hby own_d_jdk_69_method_7_1) (fun _ _ => ⟨rfl, e0, (by decide : 0 + 0 ≤ _), (by decide : 0 + 0 ≤ _)⟩)
  dsimp only [Pt.U, Pt.locs, Pt.cells, Pt.slots] at X1 l1 y1 z1 st1 hQ1
  subst l1 y1 z1
  have X1 : Stand p l e R_rmHM s m _ below meth c T1 _ 0 0 := X1
  obtain ⟨rfl, Nq1, e1⟩ := hQ1
  have N1 := Fr.app N0 Nq1
  refine OGo.st (T' := T1) (g' := (mkF m 4 #[.val (.ref a)] [])) (fun _ k => st1.trans k) ?_
  refine OGo.st (T' := T1) (g' := (mkF m 7 #[.val (.ref a)] [(.float (1061158912 : UInt32)), (.ref a)])) (fun _ k => (XS.aloadN X1.here hx rfl (hb hby own_d_jdk_69_method_7_4) rfl rfl (X1.ldcFloatC hx hown (mvT hZ (hw _ (List.mem_of_getElem? (i := 46) rfl))) (g := (mkF m 5 #[.val (.ref a)] [(.ref a)])) rfl (hb hby own_d_jdk_69_method_7_5) _ k))) ?_
  obtain ⟨T2, h2, X2, e2, W2, st2⟩ := putF X1 hx hZ hown (host := "") (Or.inl (hw _ (List.mem_of_getElem? (i := 47) rfl))) Via.refl e1 F_a_loadFactor E_a (Or.inr ⟨(hw _ (List.mem_of_getElem? (i := 48) rfl)), rfl, hnm⟩) (hw _ (List.mem_of_getElem? (i := 33) rfl)) (ty := .float) (by decide) rfl rfl (g := (mkF m 7 #[.val (.ref a)] [(.float (1061158912 : UInt32)), (.ref a)])) rfl rfl (hb hby own_d_jdk_69_method_7_7)
  have F_a_loadFactor_2 : Fld Z h2 a "java/util/HashMap" "loadFactor" "F" (.float (1061158912 : UInt32)) := F_a_loadFactor.same W2
  have N2 := Fr.snoc X2 N1 g_a
  have E_a_2 : Exa Z h2 a "java/util/HashMap" := E_a.wr W2
  have Zn2 : n0 ≤ h2.size := Nat.le_trans Z0 (Nat.le_of_eq W2.size.symm)
  have K2 : Keep h0 h2 [a] := K0.wr W2 (Or.inl (List.mem_of_getElem? (i := 0) rfl))
  refine OGo.st (T' := T2) (g' := (mkF m 10 #[.val (.ref a)] [])) (fun _ k => st2 _ k) ?_
  exact OGo.retV X2 hx hlk Bd.returns (hb hby own_d_jdk_69_method_7_10) (by decide) (by decide) e2 (⟨rfl, N2, K2, F_a_loadFactor_2⟩)
theorem own_ef_rmHS (m : MethodId) (x0 : Addr) : entryFrame m #[(.ref x0)] 1 = mkF m 0 #[.val (.ref x0)] [] := by first | (simp [entryFrame, mkF, argsToLocals, Value.category]; done) | rfl
def R_rmHS : Room := { frames := 3, cells := 1, slots := 8, locals := 38 }
def Q_rmHS (Z : State) (a : Addr) (a_map : Value) (h0 : Heap) (n0 : Nat) (v : Option Value) (h : Heap) (L : List Loc) : Prop := v = none ∧ Fr n0 L ∧ Keep h0 h [a]
set_option maxRecDepth 65536 in
set_option maxHeartbeats 40000000 in
theorem rmHS (l : Launch) (Z : State) (a0 : Array Value) (hw : ∀ d ∈ tables_1, d.before a0 Z = true) (ws : List Jvm.Cond) (a : Addr) (a_map : Value) (h0 : Heap) (n0 : Nat) (Z0 : n0 ≤ h0.size) (E_a : Exa Z h0 a "java/util/HashSet") (F_a_map : Fld Z h0 a "java/util/HashSet" "map" "Ljava/util/HashMap;" a_map) (g_a : n0 ≤ a) :
    MetFree l (⟨"java/util/HashSet", "<init>", "()V"⟩ : MethodName) (head1 (Jvm.Cond.code (⟨"java/util/HashSet", "<init>", "()V"⟩ : MethodName) jdk_93_method_1_code 1 none :: ws) R_rmHS) (fun vs_ U => vs_ = #[(.ref a)] ∧ Z.Warmed39 U.vm ∧ U.heap = h0) (fun _ _ _ _ _ => True) (fun _ U o U' => ∃ v L, o = .returned v ∧ Q_rmHS Z a a_map h0 n0 v U'.heap L ∧ FrameEnd U o U' L R_rmHS.cells R_rmHS.slots) := by
  refine MetFree.of_bodySF (plainFor_of_name own_pn7) hisR ?_
  intro p e s m args below meth c s₁ Bd hml0 hP hK
  obtain ⟨rfl, hZ, hh⟩ := hP
  have hx := Bd.exec
  have hby := Bd.bytes
  have hml : c.maxLocals = 1 := hml0
  have hown : s.vm.findClass "java/util/HashSet" = some m.cls := findClass_of_methodNamed Bd.named
  have hnm := (name_of_methodNamed Bd.named Bd.method).1
  have hlk : meth.locks = false := BodyLoose.notSynchronized Bd
  have X0 : Stand p l e R_rmHS s m #[(.ref a)] below meth c s₁ [] 0 0 := Stand.of_body Bd
  have e0 : s₁.heap = h0 := by rw [← hh, Bd.state]; rfl
  have N0 := Fr.nil n0
  have K0 : Keep h0 h0 [a] := Keep.refl _ _
  refine OGo.en (Q := Q_rmHS Z a a_map h0 n0) (C := R_rmHS.cells) (S := R_rmHS.slots) (own_ef_rmHS m a) ?_
  refine OGo.st (T' := s₁) (g' := (mkF m 1 #[.val (.ref a)] [(.ref a)])) (fun _ k => (XS.aloadN X0.here hx rfl (hb hby own_d_jdk_93_method_1_0) rfl rfl k)) ?_
  obtain ⟨_, _, ⟨T1, L1, k1, n1⟩, -, X1, ⟨Lc1, hQ1, l1, y1, z1⟩, st1⟩ := X0.specialBack hx (y := (⟨"java/util/AbstractSet", "<init>", "()V"⟩ : MethodName)) rfl hown (mvT hZ (hw _ (List.mem_of_getElem? (i := 19) rfl))) (mvT hZ (hw _ (List.mem_of_getElem? (i := 20) rfl))) (mvT hZ (hw _ (List.mem_of_getElem? (i := 24) rfl))) (by decide) (backOf (W := 0) (rmAS l Z a0 hw [] (a) h0 n0 Z0 ) hZ (hw _ (List.mem_of_getElem? (i := 24) rfl)) (hw _ (List.mem_of_getElem? (i := 23) rfl)) (by decide) (by decide)) (g := (mkF m 1 #[.val (.ref a)] [(.ref a)])) rfl (by rw [hml]; rfl) (Steps.refl _) (a := a) (argsL := []) (rest := []) (lenOf own_pd1 rfl) rfl (by show 2 * 0 + _ ≤ _; exact Nat.le_of_eq rfl) (hb hby own_d_jdk_93_method_1_1) (fun _ _ => ⟨rfl, e0, (by decide : 0 + 0 ≤ _), (by decide : 0 + 0 ≤ _)⟩)
  dsimp only [Pt.U, Pt.locs, Pt.cells, Pt.slots] at X1 l1 y1 z1 st1 hQ1
  subst l1 y1 z1
  have X1 : Stand p l e R_rmHS s m _ below meth c T1 _ 0 0 := X1
  obtain ⟨rfl, Nq1, e1⟩ := hQ1
  have N1 := Fr.app N0 Nq1
  refine OGo.st (T' := T1) (g' := (mkF m 4 #[.val (.ref a)] [])) (fun _ k => st1.trans k) ?_
  refine OGo.st (T' := T1) (g' := (mkF m 5 #[.val (.ref a)] [(.ref a)])) (fun _ k => (XS.aloadN X1.here hx rfl (hb hby own_d_jdk_93_method_1_4) rfl rfl k)) ?_
  obtain ⟨T2, h2, X2, e2, E2, A2, D2, -, st2⟩ := newO X1 hx hZ hown (hw _ (List.mem_of_getElem? (i := 32) rfl)) (hw _ (List.mem_of_getElem? (i := 33) rfl)) (hw _ (List.mem_of_getElem? (i := 34) rfl)) e1 (g := (mkF m 5 #[.val (.ref a)] [(.ref a)])) rfl (hb hby own_d_jdk_93_method_1_5) (by decide) (by decide)
  obtain ⟨b2, g2⟩ : ∃ z, z = h0.size := ⟨_, rfl⟩
  rw [← g2] at A2 D2 st2
  have ne_a_b2 : a ≠ b2 := Nat.ne_of_lt (Nat.lt_of_lt_of_le E_a.lt (Nat.le_of_eq g2.symm))
  have g_b2 : n0 ≤ b2 := Nat.le_trans Z0 (Nat.le_of_eq g2.symm)
  have sz_b2 : h0.size ≤ b2 := Nat.le_trans K0.1 (Nat.le_of_eq g2.symm)
  have F_loadFactor_b2_2 : Fld Z h2 b2 "java/util/HashMap" "loadFactor" "F" (.float (0 : UInt32)) := D2 (Or.inr (hw _ (List.mem_of_getElem? (i := 48) rfl))) (ty := .float) (by decide)
  have E_a_2 : Exa Z h2 a "java/util/HashSet" := E_a.ext E2
  have F_a_map_2 : Fld Z h2 a "java/util/HashSet" "map" "Ljava/util/HashMap;" a_map := F_a_map.ext E2
  have Zn2 : n0 ≤ h2.size := Nat.le_trans Z0 E2.1
  have K2 : Keep h0 h2 [a] := K0.ext E2
  have X2 : Stand p l e R_rmHS s m _ below meth c T2 _ 1 8 := X2
  refine OGo.st (T' := T2) (g' := (mkF m 8 #[.val (.ref a)] [(.ref b2), (.ref a)])) (fun _ k => st2 _ k) ?_
  refine OGo.st (T' := T2) (g' := (mkF m 9 #[.val (.ref a)] [(.ref b2), (.ref b2), (.ref a)])) (fun _ k => (XS.dup X2.here hx rfl (hb hby own_d_jdk_93_method_1_8) rfl rfl k)) ?_
  obtain ⟨_, _, ⟨T3, L3, k3, n3⟩, -, X3, ⟨Lc3, hQ3, l3, y3, z3⟩, st3⟩ := X2.specialBack hx (y := (⟨"java/util/HashMap", "<init>", "()V"⟩ : MethodName)) rfl hown (mvT hZ (hw _ (List.mem_of_getElem? (i := 35) rfl))) (mvT hZ (hw _ (List.mem_of_getElem? (i := 36) rfl))) (mvT hZ (hw _ (List.mem_of_getElem? (i := 38) rfl))) (by decide) (backOf (W := 2) (rmHM l Z a0 hw [] (b2) ((0 : UInt32)) h2 n0 Zn2 (A2) (F_loadFactor_b2_2) (g_b2)) hZ (hw _ (List.mem_of_getElem? (i := 38) rfl)) (hw _ (List.mem_of_getElem? (i := 34) rfl)) (by decide) (by decide)) (g := (mkF m 9 #[.val (.ref a)] [(.ref b2), (.ref b2), (.ref a)])) rfl (by rw [hml]; rfl) (Steps.refl _) (a := b2) (argsL := []) (rest := [(.ref b2), (.ref a)]) (lenOf own_pd1 rfl) rfl (by show 2 * 0 + _ ≤ _; exact Nat.le_of_eq rfl) (hb hby own_d_jdk_93_method_1_9) (fun _ _ => ⟨rfl, e2, (by decide : 1 + 0 ≤ _), (by decide : 8 + 0 ≤ _)⟩)
  dsimp only [Pt.U, Pt.locs, Pt.cells, Pt.slots] at X3 l3 y3 z3 st3 hQ3
  subst l3 y3 z3
  have X3 : Stand p l e R_rmHS s m _ below meth c T3 _ 1 8 := X3
  obtain ⟨h3, e3⟩ : ∃ z, T3.heap = z := ⟨_, rfl⟩
  rw [e3] at hQ3
  obtain ⟨rfl, Nq3, Kc3, G3x0⟩ := hQ3
  have N3 := Fr.app N1 Nq3
  have E_a_3 : Exa Z h3 a "java/util/HashSet" := E_a_2.keep Kc3
  have F_a_map_3 : Fld Z h3 a "java/util/HashSet" "map" "Ljava/util/HashMap;" a_map := F_a_map_2.keep Kc3 (ninS ne_a_b2 nin0)
  have A2_3 : Exa Z h3 b2 "java/util/HashMap" := A2.keep Kc3
  have Zn3 : n0 ≤ h3.size := Nat.le_trans Zn2 Kc3.1
  have K3 : Keep h0 h3 [a] := K2.trans Kc3 (allS (Or.inr sz_b2) all0)
  refine OGo.st (T' := T3) (g' := (mkF m 12 #[.val (.ref a)] [(.ref b2), (.ref a)])) (fun _ k => st3.trans k) ?_
  obtain ⟨T4, h4, X4, e4, W4, st4⟩ := putF X3 hx hZ hown (host := "") (Or.inl (hw _ (List.mem_of_getElem? (i := 49) rfl))) Via.refl e3 F_a_map_3 E_a_3 (Or.inl (hw _ (List.mem_of_getElem? (i := 50) rfl))) (hw _ (List.mem_of_getElem? (i := 14) rfl)) (ty := (.object "java/util/HashMap")) (by decide) rfl rfl (g := (mkF m 12 #[.val (.ref a)] [(.ref b2), (.ref a)])) rfl rfl (hb hby own_d_jdk_93_method_1_12)
  have F_a_map_4 : Fld Z h4 a "java/util/HashSet" "map" "Ljava/util/HashMap;" (.ref b2) := F_a_map_3.same W4
  have N4 := Fr.snoc X4 N3 g_a
  have E_a_4 : Exa Z h4 a "java/util/HashSet" := E_a_3.wr W4
  have A2_4 : Exa Z h4 b2 "java/util/HashMap" := A2_3.wr W4
  have G3x0_4 : Fld Z h4 b2 "java/util/HashMap" "loadFactor" "F" (.float (1061158912 : UInt32)) := G3x0.other W4 (Or.inl (Ne.symm ne_a_b2))
  have Zn4 : n0 ≤ h4.size := Nat.le_trans Zn3 (Nat.le_of_eq W4.size.symm)
  have K4 : Keep h0 h4 [a] := K3.wr W4 (Or.inl (List.mem_of_getElem? (i := 0) rfl))
  refine OGo.st (T' := T4) (g' := (mkF m 15 #[.val (.ref a)] [])) (fun _ k => st4 _ k) ?_
  exact OGo.retV X4 hx hlk Bd.returns (hb hby own_d_jdk_93_method_1_15) (by decide) (by decide) e4 (⟨rfl, N4, K4⟩)
theorem own_ef_rmI1 (m : MethodId) (x0 : Addr) (x1 : Int64) (x2 : Int64) (x3 : Int32) : entryFrame m #[(.ref x0), (.long x1), (.long x2), (.int x3)] 6 = mkF m 0 #[.val (.ref x0), .val (.long x1), .second, .val (.long x2), .second, .val (.int x3)] [] := by first | (simp [entryFrame, mkF, argsToLocals, Value.category]; done) | rfl
def R_rmI1 : Room := { frames := 4, cells := 2, slots := 9, locals := 52 }
def Q_rmI1 (Z : State) (a : Addr) (a_taken : Value) (a_first : Int64) (a_next : Int64) (a_limit : Int64) (a_ordered : Int32) (q1 : Int64) (q2 : Int64) (h0 : Heap) (n0 : Nat) (v : Option Value) (h : Heap) (L : List Loc) : Prop := v = none ∧ Fr n0 L ∧ Keep h0 h [a] ∧ Fld Z h a "com/example/crisp_relay/crisprelay/session/RequestIds" "first" "J" (.long q1) ∧ Fld Z h a "com/example/crisp_relay/crisprelay/session/RequestIds" "next" "J" (.long q1) ∧ Fld Z h a "com/example/crisp_relay/crisprelay/session/RequestIds" "limit" "J" (.long q2) ∧ Fld Z h a "com/example/crisp_relay/crisprelay/session/RequestIds" "ordered" "Z" (.int (1 : Int32))
set_option maxRecDepth 65536 in
set_option maxHeartbeats 40000000 in
theorem rmI1 (l : Launch) (Z : State) (a0 : Array Value) (hw : ∀ d ∈ tables_1, d.before a0 Z = true) (ws : List Jvm.Cond) (a : Addr) (a_taken : Value) (a_first : Int64) (a_next : Int64) (a_limit : Int64) (a_ordered : Int32) (q1 : Int64) (q2 : Int64) (h0 : Heap) (n0 : Nat) (Z0 : n0 ≤ h0.size) (E_a : Exa Z h0 a "com/example/crisp_relay/crisprelay/session/RequestIds") (F_a_taken : Fld Z h0 a "com/example/crisp_relay/crisprelay/session/RequestIds" "taken" "Ljava/util/Set;" a_taken) (F_a_first : Fld Z h0 a "com/example/crisp_relay/crisprelay/session/RequestIds" "first" "J" (.long a_first)) (F_a_next : Fld Z h0 a "com/example/crisp_relay/crisprelay/session/RequestIds" "next" "J" (.long a_next)) (F_a_limit : Fld Z h0 a "com/example/crisp_relay/crisprelay/session/RequestIds" "limit" "J" (.long a_limit)) (F_a_ordered : Fld Z h0 a "com/example/crisp_relay/crisprelay/session/RequestIds" "ordered" "Z" (.int a_ordered)) (g_a : n0 ≤ a) :
    MetFree l (⟨"com/example/crisp_relay/crisprelay/session/RequestIds", "<init>", "(JJZ)V"⟩ : MethodName) (head1 (Jvm.Cond.code (⟨"com/example/crisp_relay/crisprelay/session/RequestIds", "<init>", "(JJZ)V"⟩ : MethodName) prog_50_method_2_code 6 none :: ws) R_rmI1) (fun vs_ U => vs_ = #[(.ref a), (.long q1), (.long q2), (.int (1 : Int32))] ∧ Z.Warmed39 U.vm ∧ U.heap = h0) (fun _ _ _ _ _ => True) (fun _ U o U' => ∃ v L, o = .returned v ∧ Q_rmI1 Z a a_taken a_first a_next a_limit a_ordered q1 q2 h0 n0 v U'.heap L ∧ FrameEnd U o U' L R_rmI1.cells R_rmI1.slots) := by
  refine MetFree.of_bodySF (plainFor_of_name own_pn0) hisR ?_
  intro p e s m args below meth c s₁ Bd hml0 hP hK
  obtain ⟨rfl, hZ, hh⟩ := hP
  have hx := Bd.exec
  have hby := Bd.bytes
  have hml : c.maxLocals = 6 := hml0
  have hown : s.vm.findClass "com/example/crisp_relay/crisprelay/session/RequestIds" = some m.cls := findClass_of_methodNamed Bd.named
  have hnm := (name_of_methodNamed Bd.named Bd.method).1
  have hlk : meth.locks = false := BodyLoose.notSynchronized Bd
  have X0 : Stand p l e R_rmI1 s m #[(.ref a), (.long q1), (.long q2), (.int (1 : Int32))] below meth c s₁ [] 0 0 := Stand.of_body Bd
  have e0 : s₁.heap = h0 := by rw [← hh, Bd.state]; rfl
  have N0 := Fr.nil n0
  have K0 : Keep h0 h0 [a] := Keep.refl _ _
  refine OGo.en (Q := Q_rmI1 Z a a_taken a_first a_next a_limit a_ordered q1 q2 h0 n0) (C := R_rmI1.cells) (S := R_rmI1.slots) (own_ef_rmI1 m a q1 q2 (1 : Int32)) ?_
  refine OGo.st (T' := s₁) (g' := (mkF m 1 #[.val (.ref a), .val (.long q1), .second, .val (.long q2), .second, .val (.int (1 : Int32))] [(.ref a)])) (fun _ k => (XS.aloadN X0.here hx rfl (hb hby own_d_prog_50_method_2_0) rfl rfl k)) ?_
  obtain ⟨T1, X1, e1, st1⟩ := initO X0 hx hZ hown (hw _ (List.mem_of_getElem? (i := 10) rfl)) (hw _ (List.mem_of_getElem? (i := 11) rfl)) (hw _ (List.mem_of_getElem? (i := 12) rfl)) e0 (g := (mkF m 1 #[.val (.ref a), .val (.long q1), .second, .val (.long q2), .second, .val (.int (1 : Int32))] [(.ref a)])) rfl (by rw [hml]; rfl) rfl (hb hby own_d_prog_50_method_2_1) (by decide) (W := 0) (by show 2 * 0 + _ ≤ _; exact Nat.le_of_eq rfl) (by decide)
  refine OGo.st (T' := T1) (g' := (mkF m 4 #[.val (.ref a), .val (.long q1), .second, .val (.long q2), .second, .val (.int (1 : Int32))] [])) (fun _ k => st1 _ k) ?_
  refine OGo.st (T' := T1) (g' := (mkF m 5 #[.val (.ref a), .val (.long q1), .second, .val (.long q2), .second, .val (.int (1 : Int32))] [(.ref a)])) (fun _ k => (XS.aloadN X1.here hx rfl (hb hby own_d_prog_50_method_2_4) rfl rfl k)) ?_
  obtain ⟨T2, h2, X2, e2, E2, A2, D2, -, st2⟩ := newO X1 hx hZ hown (hw _ (List.mem_of_getElem? (i := 13) rfl)) (hw _ (List.mem_of_getElem? (i := 14) rfl)) (hw _ (List.mem_of_getElem? (i := 15) rfl)) e1 (g := (mkF m 5 #[.val (.ref a), .val (.long q1), .second, .val (.long q2), .second, .val (.int (1 : Int32))] [(.ref a)])) rfl (hb hby own_d_prog_50_method_2_5) (by decide) (by decide)
  obtain ⟨b2, g2⟩ : ∃ z, z = h0.size := ⟨_, rfl⟩
  rw [← g2] at A2 D2 st2
  have ne_a_b2 : a ≠ b2 := Nat.ne_of_lt (Nat.lt_of_lt_of_le E_a.lt (Nat.le_of_eq g2.symm))
  have g_b2 : n0 ≤ b2 := Nat.le_trans Z0 (Nat.le_of_eq g2.symm)
  have sz_b2 : h0.size ≤ b2 := Nat.le_trans K0.1 (Nat.le_of_eq g2.symm)
  have F_map_b2_2 : Fld Z h2 b2 "java/util/HashSet" "map" "Ljava/util/HashMap;" .null := D2 (Or.inl (hw _ (List.mem_of_getElem? (i := 50) rfl))) (ty := (.object "java/util/HashMap")) (by decide)
  have E_a_2 : Exa Z h2 a "com/example/crisp_relay/crisprelay/session/RequestIds" := E_a.ext E2
  have F_a_taken_2 : Fld Z h2 a "com/example/crisp_relay/crisprelay/session/RequestIds" "taken" "Ljava/util/Set;" a_taken := F_a_taken.ext E2
  have F_a_first_2 : Fld Z h2 a "com/example/crisp_relay/crisprelay/session/RequestIds" "first" "J" (.long a_first) := F_a_first.ext E2
  have F_a_next_2 : Fld Z h2 a "com/example/crisp_relay/crisprelay/session/RequestIds" "next" "J" (.long a_next) := F_a_next.ext E2
  have F_a_limit_2 : Fld Z h2 a "com/example/crisp_relay/crisprelay/session/RequestIds" "limit" "J" (.long a_limit) := F_a_limit.ext E2
  have F_a_ordered_2 : Fld Z h2 a "com/example/crisp_relay/crisprelay/session/RequestIds" "ordered" "Z" (.int a_ordered) := F_a_ordered.ext E2
  have Zn2 : n0 ≤ h2.size := Nat.le_trans Z0 E2.1
  have K2 : Keep h0 h2 [a] := K0.ext E2
  have X2 : Stand p l e R_rmI1 s m _ below meth c T2 _ 1 1 := X2
  refine OGo.st (T' := T2) (g' := (mkF m 8 #[.val (.ref a), .val (.long q1), .second, .val (.long q2), .second, .val (.int (1 : Int32))] [(.ref b2), (.ref a)])) (fun _ k => st2 _ k) ?_
  refine OGo.st (T' := T2) (g' := (mkF m 9 #[.val (.ref a), .val (.long q1), .second, .val (.long q2), .second, .val (.int (1 : Int32))] [(.ref b2), (.ref b2), (.ref a)])) (fun _ k => (XS.dup X2.here hx rfl (hb hby own_d_prog_50_method_2_8) rfl rfl k)) ?_
  obtain ⟨_, _, ⟨T3, L3, k3, n3⟩, -, X3, ⟨Lc3, hQ3, l3, y3, z3⟩, st3⟩ := X2.specialBack hx (y := (⟨"java/util/HashSet", "<init>", "()V"⟩ : MethodName)) rfl hown (mvT hZ (hw _ (List.mem_of_getElem? (i := 16) rfl))) (mvT hZ (hw _ (List.mem_of_getElem? (i := 17) rfl))) (mvT hZ (hw _ (List.mem_of_getElem? (i := 18) rfl))) (by decide) (backOf (W := 2) (rmHS l Z a0 hw [] (b2) (.null) h2 n0 Zn2 (A2) (F_map_b2_2) (g_b2)) hZ (hw _ (List.mem_of_getElem? (i := 18) rfl)) (hw _ (List.mem_of_getElem? (i := 15) rfl)) (by decide) (by decide)) (g := (mkF m 9 #[.val (.ref a), .val (.long q1), .second, .val (.long q2), .second, .val (.int (1 : Int32))] [(.ref b2), (.ref b2), (.ref a)])) rfl (by rw [hml]; rfl) (Steps.refl _) (a := b2) (argsL := []) (rest := [(.ref b2), (.ref a)]) (lenOf own_pd1 rfl) rfl (by show 2 * 0 + _ ≤ _; exact Nat.le_of_eq rfl) (hb hby own_d_prog_50_method_2_9) (fun _ _ => ⟨rfl, e2, (by decide : 1 + 1 ≤ _), (by decide : 1 + 8 ≤ _)⟩)
  dsimp only [Pt.U, Pt.locs, Pt.cells, Pt.slots] at X3 l3 y3 z3 st3 hQ3
  subst l3 y3 z3
  have X3 : Stand p l e R_rmI1 s m _ below meth c T3 _ 2 9 := X3
  obtain ⟨h3, e3⟩ : ∃ z, T3.heap = z := ⟨_, rfl⟩
  rw [e3] at hQ3
  obtain ⟨rfl, Nq3, Kc3⟩ := hQ3
  have N3 := Fr.app N0 Nq3
  have E_a_3 : Exa Z h3 a "com/example/crisp_relay/crisprelay/session/RequestIds" := E_a_2.keep Kc3
  have F_a_taken_3 : Fld Z h3 a "com/example/crisp_relay/crisprelay/session/RequestIds" "taken" "Ljava/util/Set;" a_taken := F_a_taken_2.keep Kc3 (ninS ne_a_b2 nin0)
  have F_a_first_3 : Fld Z h3 a "com/example/crisp_relay/crisprelay/session/RequestIds" "first" "J" (.long a_first) := F_a_first_2.keep Kc3 (ninS ne_a_b2 nin0)
  have F_a_next_3 : Fld Z h3 a "com/example/crisp_relay/crisprelay/session/RequestIds" "next" "J" (.long a_next) := F_a_next_2.keep Kc3 (ninS ne_a_b2 nin0)
  have F_a_limit_3 : Fld Z h3 a "com/example/crisp_relay/crisprelay/session/RequestIds" "limit" "J" (.long a_limit) := F_a_limit_2.keep Kc3 (ninS ne_a_b2 nin0)
  have F_a_ordered_3 : Fld Z h3 a "com/example/crisp_relay/crisprelay/session/RequestIds" "ordered" "Z" (.int a_ordered) := F_a_ordered_2.keep Kc3 (ninS ne_a_b2 nin0)
  have A2_3 : Exa Z h3 b2 "java/util/HashSet" := A2.keep Kc3
  have Zn3 : n0 ≤ h3.size := Nat.le_trans Zn2 Kc3.1
  have K3 : Keep h0 h3 [a] := K2.trans Kc3 (allS (Or.inr sz_b2) all0)
  refine OGo.st (T' := T3) (g' := (mkF m 12 #[.val (.ref a), .val (.long q1), .second, .val (.long q2), .second, .val (.int (1 : Int32))] [(.ref b2), (.ref a)])) (fun _ k => st3.trans k) ?_
  obtain ⟨T4, h4, X4, e4, W4, st4⟩ := putF X3 hx hZ hown (host := "") (Or.inl (hw _ (List.mem_of_getElem? (i := 51) rfl))) Via.refl e3 F_a_taken_3 E_a_3 (Or.inr ⟨(hw _ (List.mem_of_getElem? (i := 52) rfl)), rfl, hnm⟩) (hw _ (List.mem_of_getElem? (i := 5) rfl)) (ty := (.object "java/util/Set")) (by decide) rfl rfl (g := (mkF m 12 #[.val (.ref a), .val (.long q1), .second, .val (.long q2), .second, .val (.int (1 : Int32))] [(.ref b2), (.ref a)])) rfl rfl (hb hby own_d_prog_50_method_2_12)
  have F_a_taken_4 : Fld Z h4 a "com/example/crisp_relay/crisprelay/session/RequestIds" "taken" "Ljava/util/Set;" (.ref b2) := F_a_taken_3.same W4
  have N4 := Fr.snoc X4 N3 g_a
  have E_a_4 : Exa Z h4 a "com/example/crisp_relay/crisprelay/session/RequestIds" := E_a_3.wr W4
  have F_a_first_4 : Fld Z h4 a "com/example/crisp_relay/crisprelay/session/RequestIds" "first" "J" (.long a_first) := F_a_first_3.other W4 (Or.inr (slot_ne (Or.inr (hw _ (List.mem_of_getElem? (i := 54) rfl))) (Or.inr (hw _ (List.mem_of_getElem? (i := 52) rfl))) (by decide) (t := .long) (t' := (.object "java/util/Set")) (by decide) (by decide)))
  have F_a_next_4 : Fld Z h4 a "com/example/crisp_relay/crisprelay/session/RequestIds" "next" "J" (.long a_next) := F_a_next_3.other W4 (Or.inr (slot_ne (Or.inl (hw _ (List.mem_of_getElem? (i := 56) rfl))) (Or.inr (hw _ (List.mem_of_getElem? (i := 52) rfl))) (by decide) (t := .long) (t' := (.object "java/util/Set")) (by decide) (by decide)))
  have F_a_limit_4 : Fld Z h4 a "com/example/crisp_relay/crisprelay/session/RequestIds" "limit" "J" (.long a_limit) := F_a_limit_3.other W4 (Or.inr (slot_ne (Or.inl (hw _ (List.mem_of_getElem? (i := 58) rfl))) (Or.inr (hw _ (List.mem_of_getElem? (i := 52) rfl))) (by decide) (t := .long) (t' := (.object "java/util/Set")) (by decide) (by decide)))
  have F_a_ordered_4 : Fld Z h4 a "com/example/crisp_relay/crisprelay/session/RequestIds" "ordered" "Z" (.int a_ordered) := F_a_ordered_3.other W4 (Or.inr (slot_ne (Or.inr (hw _ (List.mem_of_getElem? (i := 60) rfl))) (Or.inr (hw _ (List.mem_of_getElem? (i := 52) rfl))) (by decide) (t := .boolean) (t' := (.object "java/util/Set")) (by decide) (by decide)))
  have A2_4 : Exa Z h4 b2 "java/util/HashSet" := A2_3.wr W4
  have Zn4 : n0 ≤ h4.size := Nat.le_trans Zn3 (Nat.le_of_eq W4.size.symm)
  have K4 : Keep h0 h4 [a] := K3.wr W4 (Or.inl (List.mem_of_getElem? (i := 0) rfl))
  refine OGo.st (T' := T4) (g' := (mkF m 15 #[.val (.ref a), .val (.long q1), .second, .val (.long q2), .second, .val (.int (1 : Int32))] [])) (fun _ k => st4 _ k) ?_
  refine OGo.st (T' := T4) (g' := (mkF m 17 #[.val (.ref a), .val (.long q1), .second, .val (.long q2), .second, .val (.int (1 : Int32))] [(.long q1), (.ref a)])) (fun _ k => (XS.aloadN X4.here hx rfl (hb hby own_d_prog_50_method_2_15) rfl rfl (XS.lloadN X4.here hx rfl (hb hby own_d_prog_50_method_2_16) rfl k))) ?_
  obtain ⟨T5, h5, X5, e5, W5, st5⟩ := putF X4 hx hZ hown (host := "") (Or.inl (hw _ (List.mem_of_getElem? (i := 53) rfl))) Via.refl e4 F_a_first_4 E_a_4 (Or.inr ⟨(hw _ (List.mem_of_getElem? (i := 54) rfl)), rfl, hnm⟩) (hw _ (List.mem_of_getElem? (i := 5) rfl)) (ty := .long) (by decide) rfl rfl (g := (mkF m 17 #[.val (.ref a), .val (.long q1), .second, .val (.long q2), .second, .val (.int (1 : Int32))] [(.long q1), (.ref a)])) rfl rfl (hb hby own_d_prog_50_method_2_17)
  have F_a_first_5 : Fld Z h5 a "com/example/crisp_relay/crisprelay/session/RequestIds" "first" "J" (.long q1) := F_a_first_4.same W5
  have N5 := Fr.snoc X5 N4 g_a
  have E_a_5 : Exa Z h5 a "com/example/crisp_relay/crisprelay/session/RequestIds" := E_a_4.wr W5
  have F_a_taken_5 : Fld Z h5 a "com/example/crisp_relay/crisprelay/session/RequestIds" "taken" "Ljava/util/Set;" (.ref b2) := F_a_taken_4.other W5 (Or.inr (slot_ne (Or.inr (hw _ (List.mem_of_getElem? (i := 52) rfl))) (Or.inr (hw _ (List.mem_of_getElem? (i := 54) rfl))) (by decide) (t := (.object "java/util/Set")) (t' := .long) (by decide) (by decide)))
  have F_a_next_5 : Fld Z h5 a "com/example/crisp_relay/crisprelay/session/RequestIds" "next" "J" (.long a_next) := F_a_next_4.other W5 (Or.inr (slot_ne (Or.inl (hw _ (List.mem_of_getElem? (i := 56) rfl))) (Or.inr (hw _ (List.mem_of_getElem? (i := 54) rfl))) (by decide) (t := .long) (t' := .long) (by decide) (by decide)))
  have F_a_limit_5 : Fld Z h5 a "com/example/crisp_relay/crisprelay/session/RequestIds" "limit" "J" (.long a_limit) := F_a_limit_4.other W5 (Or.inr (slot_ne (Or.inl (hw _ (List.mem_of_getElem? (i := 58) rfl))) (Or.inr (hw _ (List.mem_of_getElem? (i := 54) rfl))) (by decide) (t := .long) (t' := .long) (by decide) (by decide)))
  have F_a_ordered_5 : Fld Z h5 a "com/example/crisp_relay/crisprelay/session/RequestIds" "ordered" "Z" (.int a_ordered) := F_a_ordered_4.other W5 (Or.inr (slot_ne (Or.inr (hw _ (List.mem_of_getElem? (i := 60) rfl))) (Or.inr (hw _ (List.mem_of_getElem? (i := 54) rfl))) (by decide) (t := .boolean) (t' := .long) (by decide) (by decide)))
  have A2_5 : Exa Z h5 b2 "java/util/HashSet" := A2_4.wr W5
  have Zn5 : n0 ≤ h5.size := Nat.le_trans Zn4 (Nat.le_of_eq W5.size.symm)
  have K5 : Keep h0 h5 [a] := K4.wr W5 (Or.inl (List.mem_of_getElem? (i := 0) rfl))
  refine OGo.st (T' := T5) (g' := (mkF m 20 #[.val (.ref a), .val (.long q1), .second, .val (.long q2), .second, .val (.int (1 : Int32))] [])) (fun _ k => st5 _ k) ?_
  refine OGo.st (T' := T5) (g' := (mkF m 22 #[.val (.ref a), .val (.long q1), .second, .val (.long q2), .second, .val (.int (1 : Int32))] [(.long q1), (.ref a)])) (fun _ k => (XS.aloadN X5.here hx rfl (hb hby own_d_prog_50_method_2_20) rfl rfl (XS.lloadN X5.here hx rfl (hb hby own_d_prog_50_method_2_21) rfl k))) ?_
  obtain ⟨T6, h6, X6, e6, W6, st6⟩ := putF X5 hx hZ hown (host := "") (Or.inl (hw _ (List.mem_of_getElem? (i := 55) rfl))) Via.refl e5 F_a_next_5 E_a_5 (Or.inl (hw _ (List.mem_of_getElem? (i := 56) rfl))) (hw _ (List.mem_of_getElem? (i := 5) rfl)) (ty := .long) (by decide) rfl rfl (g := (mkF m 22 #[.val (.ref a), .val (.long q1), .second, .val (.long q2), .second, .val (.int (1 : Int32))] [(.long q1), (.ref a)])) rfl rfl (hb hby own_d_prog_50_method_2_22)
  have F_a_next_6 : Fld Z h6 a "com/example/crisp_relay/crisprelay/session/RequestIds" "next" "J" (.long q1) := F_a_next_5.same W6
  have N6 := Fr.snoc X6 N5 g_a
  have E_a_6 : Exa Z h6 a "com/example/crisp_relay/crisprelay/session/RequestIds" := E_a_5.wr W6
  have F_a_taken_6 : Fld Z h6 a "com/example/crisp_relay/crisprelay/session/RequestIds" "taken" "Ljava/util/Set;" (.ref b2) := F_a_taken_5.other W6 (Or.inr (slot_ne (Or.inr (hw _ (List.mem_of_getElem? (i := 52) rfl))) (Or.inl (hw _ (List.mem_of_getElem? (i := 56) rfl))) (by decide) (t := (.object "java/util/Set")) (t' := .long) (by decide) (by decide)))
  have F_a_first_6 : Fld Z h6 a "com/example/crisp_relay/crisprelay/session/RequestIds" "first" "J" (.long q1) := F_a_first_5.other W6 (Or.inr (slot_ne (Or.inr (hw _ (List.mem_of_getElem? (i := 54) rfl))) (Or.inl (hw _ (List.mem_of_getElem? (i := 56) rfl))) (by decide) (t := .long) (t' := .long) (by decide) (by decide)))
  have F_a_limit_6 : Fld Z h6 a "com/example/crisp_relay/crisprelay/session/RequestIds" "limit" "J" (.long a_limit) := F_a_limit_5.other W6 (Or.inr (slot_ne (Or.inl (hw _ (List.mem_of_getElem? (i := 58) rfl))) (Or.inl (hw _ (List.mem_of_getElem? (i := 56) rfl))) (by decide) (t := .long) (t' := .long) (by decide) (by decide)))
  have F_a_ordered_6 : Fld Z h6 a "com/example/crisp_relay/crisprelay/session/RequestIds" "ordered" "Z" (.int a_ordered) := F_a_ordered_5.other W6 (Or.inr (slot_ne (Or.inr (hw _ (List.mem_of_getElem? (i := 60) rfl))) (Or.inl (hw _ (List.mem_of_getElem? (i := 56) rfl))) (by decide) (t := .boolean) (t' := .long) (by decide) (by decide)))
  have A2_6 : Exa Z h6 b2 "java/util/HashSet" := A2_5.wr W6
  have Zn6 : n0 ≤ h6.size := Nat.le_trans Zn5 (Nat.le_of_eq W6.size.symm)
  have K6 : Keep h0 h6 [a] := K5.wr W6 (Or.inl (List.mem_of_getElem? (i := 0) rfl))
  refine OGo.st (T' := T6) (g' := (mkF m 25 #[.val (.ref a), .val (.long q1), .second, .val (.long q2), .second, .val (.int (1 : Int32))] [])) (fun _ k => st6 _ k) ?_
  refine OGo.st (T' := T6) (g' := (mkF m 27 #[.val (.ref a), .val (.long q1), .second, .val (.long q2), .second, .val (.int (1 : Int32))] [(.long q2), (.ref a)])) (fun _ k => (XS.aloadN X6.here hx rfl (hb hby own_d_prog_50_method_2_25) rfl rfl (XS.lloadN X6.here hx rfl (hb hby own_d_prog_50_method_2_26) rfl k))) ?_
  obtain ⟨T7, h7, X7, e7, W7, st7⟩ := putF X6 hx hZ hown (host := "") (Or.inl (hw _ (List.mem_of_getElem? (i := 57) rfl))) Via.refl e6 F_a_limit_6 E_a_6 (Or.inl (hw _ (List.mem_of_getElem? (i := 58) rfl))) (hw _ (List.mem_of_getElem? (i := 5) rfl)) (ty := .long) (by decide) rfl rfl (g := (mkF m 27 #[.val (.ref a), .val (.long q1), .second, .val (.long q2), .second, .val (.int (1 : Int32))] [(.long q2), (.ref a)])) rfl rfl (hb hby own_d_prog_50_method_2_27)
  have F_a_limit_7 : Fld Z h7 a "com/example/crisp_relay/crisprelay/session/RequestIds" "limit" "J" (.long q2) := F_a_limit_6.same W7
  have N7 := Fr.snoc X7 N6 g_a
  have E_a_7 : Exa Z h7 a "com/example/crisp_relay/crisprelay/session/RequestIds" := E_a_6.wr W7
  have F_a_taken_7 : Fld Z h7 a "com/example/crisp_relay/crisprelay/session/RequestIds" "taken" "Ljava/util/Set;" (.ref b2) := F_a_taken_6.other W7 (Or.inr (slot_ne (Or.inr (hw _ (List.mem_of_getElem? (i := 52) rfl))) (Or.inl (hw _ (List.mem_of_getElem? (i := 58) rfl))) (by decide) (t := (.object "java/util/Set")) (t' := .long) (by decide) (by decide)))
  have F_a_first_7 : Fld Z h7 a "com/example/crisp_relay/crisprelay/session/RequestIds" "first" "J" (.long q1) := F_a_first_6.other W7 (Or.inr (slot_ne (Or.inr (hw _ (List.mem_of_getElem? (i := 54) rfl))) (Or.inl (hw _ (List.mem_of_getElem? (i := 58) rfl))) (by decide) (t := .long) (t' := .long) (by decide) (by decide)))
  have F_a_next_7 : Fld Z h7 a "com/example/crisp_relay/crisprelay/session/RequestIds" "next" "J" (.long q1) := F_a_next_6.other W7 (Or.inr (slot_ne (Or.inl (hw _ (List.mem_of_getElem? (i := 56) rfl))) (Or.inl (hw _ (List.mem_of_getElem? (i := 58) rfl))) (by decide) (t := .long) (t' := .long) (by decide) (by decide)))
  have F_a_ordered_7 : Fld Z h7 a "com/example/crisp_relay/crisprelay/session/RequestIds" "ordered" "Z" (.int a_ordered) := F_a_ordered_6.other W7 (Or.inr (slot_ne (Or.inr (hw _ (List.mem_of_getElem? (i := 60) rfl))) (Or.inl (hw _ (List.mem_of_getElem? (i := 58) rfl))) (by decide) (t := .boolean) (t' := .long) (by decide) (by decide)))
  have A2_7 : Exa Z h7 b2 "java/util/HashSet" := A2_6.wr W7
  have Zn7 : n0 ≤ h7.size := Nat.le_trans Zn6 (Nat.le_of_eq W7.size.symm)
  have K7 : Keep h0 h7 [a] := K6.wr W7 (Or.inl (List.mem_of_getElem? (i := 0) rfl))
  refine OGo.st (T' := T7) (g' := (mkF m 30 #[.val (.ref a), .val (.long q1), .second, .val (.long q2), .second, .val (.int (1 : Int32))] [])) (fun _ k => st7 _ k) ?_
  refine OGo.st (T' := T7) (g' := (mkF m 33 #[.val (.ref a), .val (.long q1), .second, .val (.long q2), .second, .val (.int (1 : Int32))] [(.int (1 : Int32)), (.ref a)])) (fun _ k => (XS.aloadN X7.here hx rfl (hb hby own_d_prog_50_method_2_30) rfl rfl (XS.iload X7.here hx rfl (hb hby own_d_prog_50_method_2_31) rfl k))) ?_
  obtain ⟨T8, h8, X8, e8, W8, st8⟩ := putFN X7 hx hZ hown (hw _ (List.mem_of_getElem? (i := 59) rfl)) Via.refl e7 F_a_ordered_7 E_a_7 (Or.inr ⟨(hw _ (List.mem_of_getElem? (i := 60) rfl)), rfl, hnm⟩) (hw _ (List.mem_of_getElem? (i := 5) rfl)) (ty := .boolean) (v' := (.int (1 : Int32))) (by decide) rfl rfl (g := (mkF m 33 #[.val (.ref a), .val (.long q1), .second, .val (.long q2), .second, .val (.int (1 : Int32))] [(.int (1 : Int32)), (.ref a)])) rfl rfl (hb hby own_d_prog_50_method_2_33)
  have F_a_ordered_8 : Fld Z h8 a "com/example/crisp_relay/crisprelay/session/RequestIds" "ordered" "Z" (.int (1 : Int32)) := F_a_ordered_7.same W8
  have N8 := Fr.snoc X8 N7 g_a
  have E_a_8 : Exa Z h8 a "com/example/crisp_relay/crisprelay/session/RequestIds" := E_a_7.wr W8
  have F_a_taken_8 : Fld Z h8 a "com/example/crisp_relay/crisprelay/session/RequestIds" "taken" "Ljava/util/Set;" (.ref b2) := F_a_taken_7.other W8 (Or.inr (slot_ne (Or.inr (hw _ (List.mem_of_getElem? (i := 52) rfl))) (Or.inr (hw _ (List.mem_of_getElem? (i := 60) rfl))) (by decide) (t := (.object "java/util/Set")) (t' := .boolean) (by decide) (by decide)))
  have F_a_first_8 : Fld Z h8 a "com/example/crisp_relay/crisprelay/session/RequestIds" "first" "J" (.long q1) := F_a_first_7.other W8 (Or.inr (slot_ne (Or.inr (hw _ (List.mem_of_getElem? (i := 54) rfl))) (Or.inr (hw _ (List.mem_of_getElem? (i := 60) rfl))) (by decide) (t := .long) (t' := .boolean) (by decide) (by decide)))
  have F_a_next_8 : Fld Z h8 a "com/example/crisp_relay/crisprelay/session/RequestIds" "next" "J" (.long q1) := F_a_next_7.other W8 (Or.inr (slot_ne (Or.inl (hw _ (List.mem_of_getElem? (i := 56) rfl))) (Or.inr (hw _ (List.mem_of_getElem? (i := 60) rfl))) (by decide) (t := .long) (t' := .boolean) (by decide) (by decide)))
  have F_a_limit_8 : Fld Z h8 a "com/example/crisp_relay/crisprelay/session/RequestIds" "limit" "J" (.long q2) := F_a_limit_7.other W8 (Or.inr (slot_ne (Or.inl (hw _ (List.mem_of_getElem? (i := 58) rfl))) (Or.inr (hw _ (List.mem_of_getElem? (i := 60) rfl))) (by decide) (t := .long) (t' := .boolean) (by decide) (by decide)))
  have A2_8 : Exa Z h8 b2 "java/util/HashSet" := A2_7.wr W8
  have Zn8 : n0 ≤ h8.size := Nat.le_trans Zn7 (Nat.le_of_eq W8.size.symm)
  have K8 : Keep h0 h8 [a] := K7.wr W8 (Or.inl (List.mem_of_getElem? (i := 0) rfl))
  refine OGo.st (T' := T8) (g' := (mkF m 36 #[.val (.ref a), .val (.long q1), .second, .val (.long q2), .second, .val (.int (1 : Int32))] [])) (fun _ k => st8 _ k) ?_
  exact OGo.retV X8 hx hlk Bd.returns (hb hby own_d_prog_50_method_2_36) (by decide) (by decide) e8 (⟨rfl, N8, K8, F_a_first_8, F_a_next_8, F_a_limit_8, F_a_ordered_8⟩)
theorem own_ef_rmI0 (m : MethodId) (x0 : Addr) (x1 : Int64) (x2 : Int64) (x3 : Int32) : entryFrame m #[(.ref x0), (.long x1), (.long x2), (.int x3)] 6 = mkF m 0 #[.val (.ref x0), .val (.long x1), .second, .val (.long x2), .second, .val (.int x3)] [] := by first | (simp [entryFrame, mkF, argsToLocals, Value.category]; done) | rfl
def R_rmI0 : Room := { frames := 4, cells := 2, slots := 9, locals := 52 }
def Q_rmI0 (Z : State) (a : Addr) (a_taken : Value) (a_first : Int64) (a_next : Int64) (a_limit : Int64) (a_ordered : Int32) (q1 : Int64) (q2 : Int64) (h0 : Heap) (n0 : Nat) (v : Option Value) (h : Heap) (L : List Loc) : Prop := v = none ∧ Fr n0 L ∧ Keep h0 h [a] ∧ Fld Z h a "com/example/crisp_relay/crisprelay/session/RequestIds" "first" "J" (.long q1) ∧ Fld Z h a "com/example/crisp_relay/crisprelay/session/RequestIds" "next" "J" (.long q1) ∧ Fld Z h a "com/example/crisp_relay/crisprelay/session/RequestIds" "limit" "J" (.long q2) ∧ Fld Z h a "com/example/crisp_relay/crisprelay/session/RequestIds" "ordered" "Z" (.int (0 : Int32))
set_option maxRecDepth 65536 in
set_option maxHeartbeats 40000000 in
theorem rmI0 (l : Launch) (Z : State) (a0 : Array Value) (hw : ∀ d ∈ tables_1, d.before a0 Z = true) (ws : List Jvm.Cond) (a : Addr) (a_taken : Value) (a_first : Int64) (a_next : Int64) (a_limit : Int64) (a_ordered : Int32) (q1 : Int64) (q2 : Int64) (h0 : Heap) (n0 : Nat) (Z0 : n0 ≤ h0.size) (E_a : Exa Z h0 a "com/example/crisp_relay/crisprelay/session/RequestIds") (F_a_taken : Fld Z h0 a "com/example/crisp_relay/crisprelay/session/RequestIds" "taken" "Ljava/util/Set;" a_taken) (F_a_first : Fld Z h0 a "com/example/crisp_relay/crisprelay/session/RequestIds" "first" "J" (.long a_first)) (F_a_next : Fld Z h0 a "com/example/crisp_relay/crisprelay/session/RequestIds" "next" "J" (.long a_next)) (F_a_limit : Fld Z h0 a "com/example/crisp_relay/crisprelay/session/RequestIds" "limit" "J" (.long a_limit)) (F_a_ordered : Fld Z h0 a "com/example/crisp_relay/crisprelay/session/RequestIds" "ordered" "Z" (.int a_ordered)) (g_a : n0 ≤ a) :
    MetFree l (⟨"com/example/crisp_relay/crisprelay/session/RequestIds", "<init>", "(JJZ)V"⟩ : MethodName) (head1 (Jvm.Cond.code (⟨"com/example/crisp_relay/crisprelay/session/RequestIds", "<init>", "(JJZ)V"⟩ : MethodName) prog_50_method_2_code 6 none :: ws) R_rmI0) (fun vs_ U => vs_ = #[(.ref a), (.long q1), (.long q2), (.int (0 : Int32))] ∧ Z.Warmed39 U.vm ∧ U.heap = h0) (fun _ _ _ _ _ => True) (fun _ U o U' => ∃ v L, o = .returned v ∧ Q_rmI0 Z a a_taken a_first a_next a_limit a_ordered q1 q2 h0 n0 v U'.heap L ∧ FrameEnd U o U' L R_rmI0.cells R_rmI0.slots) := by
  refine MetFree.of_bodySF (plainFor_of_name own_pn0) hisR ?_
  intro p e s m args below meth c s₁ Bd hml0 hP hK
  obtain ⟨rfl, hZ, hh⟩ := hP
  have hx := Bd.exec
  have hby := Bd.bytes
  have hml : c.maxLocals = 6 := hml0
  have hown : s.vm.findClass "com/example/crisp_relay/crisprelay/session/RequestIds" = some m.cls := findClass_of_methodNamed Bd.named
  have hnm := (name_of_methodNamed Bd.named Bd.method).1
  have hlk : meth.locks = false := BodyLoose.notSynchronized Bd
  have X0 : Stand p l e R_rmI0 s m #[(.ref a), (.long q1), (.long q2), (.int (0 : Int32))] below meth c s₁ [] 0 0 := Stand.of_body Bd
  have e0 : s₁.heap = h0 := by rw [← hh, Bd.state]; rfl
  have N0 := Fr.nil n0
  have K0 : Keep h0 h0 [a] := Keep.refl _ _
  refine OGo.en (Q := Q_rmI0 Z a a_taken a_first a_next a_limit a_ordered q1 q2 h0 n0) (C := R_rmI0.cells) (S := R_rmI0.slots) (own_ef_rmI0 m a q1 q2 (0 : Int32)) ?_
  refine OGo.st (T' := s₁) (g' := (mkF m 1 #[.val (.ref a), .val (.long q1), .second, .val (.long q2), .second, .val (.int (0 : Int32))] [(.ref a)])) (fun _ k => (XS.aloadN X0.here hx rfl (hb hby own_d_prog_50_method_2_0) rfl rfl k)) ?_
  obtain ⟨T1, X1, e1, st1⟩ := initO X0 hx hZ hown (hw _ (List.mem_of_getElem? (i := 10) rfl)) (hw _ (List.mem_of_getElem? (i := 11) rfl)) (hw _ (List.mem_of_getElem? (i := 12) rfl)) e0 (g := (mkF m 1 #[.val (.ref a), .val (.long q1), .second, .val (.long q2), .second, .val (.int (0 : Int32))] [(.ref a)])) rfl (by rw [hml]; rfl) rfl (hb hby own_d_prog_50_method_2_1) (by decide) (W := 0) (by show 2 * 0 + _ ≤ _; exact Nat.le_of_eq rfl) (by decide)
  refine OGo.st (T' := T1) (g' := (mkF m 4 #[.val (.ref a), .val (.long q1), .second, .val (.long q2), .second, .val (.int (0 : Int32))] [])) (fun _ k => st1 _ k) ?_
  refine OGo.st (T' := T1) (g' := (mkF m 5 #[.val (.ref a), .val (.long q1), .second, .val (.long q2), .second, .val (.int (0 : Int32))] [(.ref a)])) (fun _ k => (XS.aloadN X1.here hx rfl (hb hby own_d_prog_50_method_2_4) rfl rfl k)) ?_
  obtain ⟨T2, h2, X2, e2, E2, A2, D2, -, st2⟩ := newO X1 hx hZ hown (hw _ (List.mem_of_getElem? (i := 13) rfl)) (hw _ (List.mem_of_getElem? (i := 14) rfl)) (hw _ (List.mem_of_getElem? (i := 15) rfl)) e1 (g := (mkF m 5 #[.val (.ref a), .val (.long q1), .second, .val (.long q2), .second, .val (.int (0 : Int32))] [(.ref a)])) rfl (hb hby own_d_prog_50_method_2_5) (by decide) (by decide)
  obtain ⟨b2, g2⟩ : ∃ z, z = h0.size := ⟨_, rfl⟩
  rw [← g2] at A2 D2 st2
  have ne_a_b2 : a ≠ b2 := Nat.ne_of_lt (Nat.lt_of_lt_of_le E_a.lt (Nat.le_of_eq g2.symm))
  have g_b2 : n0 ≤ b2 := Nat.le_trans Z0 (Nat.le_of_eq g2.symm)
  have sz_b2 : h0.size ≤ b2 := Nat.le_trans K0.1 (Nat.le_of_eq g2.symm)
  have F_map_b2_2 : Fld Z h2 b2 "java/util/HashSet" "map" "Ljava/util/HashMap;" .null := D2 (Or.inl (hw _ (List.mem_of_getElem? (i := 50) rfl))) (ty := (.object "java/util/HashMap")) (by decide)
  have E_a_2 : Exa Z h2 a "com/example/crisp_relay/crisprelay/session/RequestIds" := E_a.ext E2
  have F_a_taken_2 : Fld Z h2 a "com/example/crisp_relay/crisprelay/session/RequestIds" "taken" "Ljava/util/Set;" a_taken := F_a_taken.ext E2
  have F_a_first_2 : Fld Z h2 a "com/example/crisp_relay/crisprelay/session/RequestIds" "first" "J" (.long a_first) := F_a_first.ext E2
  have F_a_next_2 : Fld Z h2 a "com/example/crisp_relay/crisprelay/session/RequestIds" "next" "J" (.long a_next) := F_a_next.ext E2
  have F_a_limit_2 : Fld Z h2 a "com/example/crisp_relay/crisprelay/session/RequestIds" "limit" "J" (.long a_limit) := F_a_limit.ext E2
  have F_a_ordered_2 : Fld Z h2 a "com/example/crisp_relay/crisprelay/session/RequestIds" "ordered" "Z" (.int a_ordered) := F_a_ordered.ext E2
  have Zn2 : n0 ≤ h2.size := Nat.le_trans Z0 E2.1
  have K2 : Keep h0 h2 [a] := K0.ext E2
  have X2 : Stand p l e R_rmI0 s m _ below meth c T2 _ 1 1 := X2
  refine OGo.st (T' := T2) (g' := (mkF m 8 #[.val (.ref a), .val (.long q1), .second, .val (.long q2), .second, .val (.int (0 : Int32))] [(.ref b2), (.ref a)])) (fun _ k => st2 _ k) ?_
  refine OGo.st (T' := T2) (g' := (mkF m 9 #[.val (.ref a), .val (.long q1), .second, .val (.long q2), .second, .val (.int (0 : Int32))] [(.ref b2), (.ref b2), (.ref a)])) (fun _ k => (XS.dup X2.here hx rfl (hb hby own_d_prog_50_method_2_8) rfl rfl k)) ?_
  obtain ⟨_, _, ⟨T3, L3, k3, n3⟩, -, X3, ⟨Lc3, hQ3, l3, y3, z3⟩, st3⟩ := X2.specialBack hx (y := (⟨"java/util/HashSet", "<init>", "()V"⟩ : MethodName)) rfl hown (mvT hZ (hw _ (List.mem_of_getElem? (i := 16) rfl))) (mvT hZ (hw _ (List.mem_of_getElem? (i := 17) rfl))) (mvT hZ (hw _ (List.mem_of_getElem? (i := 18) rfl))) (by decide) (backOf (W := 2) (rmHS l Z a0 hw [] (b2) (.null) h2 n0 Zn2 (A2) (F_map_b2_2) (g_b2)) hZ (hw _ (List.mem_of_getElem? (i := 18) rfl)) (hw _ (List.mem_of_getElem? (i := 15) rfl)) (by decide) (by decide)) (g := (mkF m 9 #[.val (.ref a), .val (.long q1), .second, .val (.long q2), .second, .val (.int (0 : Int32))] [(.ref b2), (.ref b2), (.ref a)])) rfl (by rw [hml]; rfl) (Steps.refl _) (a := b2) (argsL := []) (rest := [(.ref b2), (.ref a)]) (lenOf own_pd1 rfl) rfl (by show 2 * 0 + _ ≤ _; exact Nat.le_of_eq rfl) (hb hby own_d_prog_50_method_2_9) (fun _ _ => ⟨rfl, e2, (by decide : 1 + 1 ≤ _), (by decide : 1 + 8 ≤ _)⟩)
  dsimp only [Pt.U, Pt.locs, Pt.cells, Pt.slots] at X3 l3 y3 z3 st3 hQ3
  subst l3 y3 z3
  have X3 : Stand p l e R_rmI0 s m _ below meth c T3 _ 2 9 := X3
  obtain ⟨h3, e3⟩ : ∃ z, T3.heap = z := ⟨_, rfl⟩
  rw [e3] at hQ3
  obtain ⟨rfl, Nq3, Kc3⟩ := hQ3
  have N3 := Fr.app N0 Nq3
  have E_a_3 : Exa Z h3 a "com/example/crisp_relay/crisprelay/session/RequestIds" := E_a_2.keep Kc3
  have F_a_taken_3 : Fld Z h3 a "com/example/crisp_relay/crisprelay/session/RequestIds" "taken" "Ljava/util/Set;" a_taken := F_a_taken_2.keep Kc3 (ninS ne_a_b2 nin0)
  have F_a_first_3 : Fld Z h3 a "com/example/crisp_relay/crisprelay/session/RequestIds" "first" "J" (.long a_first) := F_a_first_2.keep Kc3 (ninS ne_a_b2 nin0)
  have F_a_next_3 : Fld Z h3 a "com/example/crisp_relay/crisprelay/session/RequestIds" "next" "J" (.long a_next) := F_a_next_2.keep Kc3 (ninS ne_a_b2 nin0)
  have F_a_limit_3 : Fld Z h3 a "com/example/crisp_relay/crisprelay/session/RequestIds" "limit" "J" (.long a_limit) := F_a_limit_2.keep Kc3 (ninS ne_a_b2 nin0)
  have F_a_ordered_3 : Fld Z h3 a "com/example/crisp_relay/crisprelay/session/RequestIds" "ordered" "Z" (.int a_ordered) := F_a_ordered_2.keep Kc3 (ninS ne_a_b2 nin0)
  have A2_3 : Exa Z h3 b2 "java/util/HashSet" := A2.keep Kc3
  have Zn3 : n0 ≤ h3.size := Nat.le_trans Zn2 Kc3.1
  have K3 : Keep h0 h3 [a] := K2.trans Kc3 (allS (Or.inr sz_b2) all0)
  refine OGo.st (T' := T3) (g' := (mkF m 12 #[.val (.ref a), .val (.long q1), .second, .val (.long q2), .second, .val (.int (0 : Int32))] [(.ref b2), (.ref a)])) (fun _ k => st3.trans k) ?_
  obtain ⟨T4, h4, X4, e4, W4, st4⟩ := putF X3 hx hZ hown (host := "") (Or.inl (hw _ (List.mem_of_getElem? (i := 51) rfl))) Via.refl e3 F_a_taken_3 E_a_3 (Or.inr ⟨(hw _ (List.mem_of_getElem? (i := 52) rfl)), rfl, hnm⟩) (hw _ (List.mem_of_getElem? (i := 5) rfl)) (ty := (.object "java/util/Set")) (by decide) rfl rfl (g := (mkF m 12 #[.val (.ref a), .val (.long q1), .second, .val (.long q2), .second, .val (.int (0 : Int32))] [(.ref b2), (.ref a)])) rfl rfl (hb hby own_d_prog_50_method_2_12)
  have F_a_taken_4 : Fld Z h4 a "com/example/crisp_relay/crisprelay/session/RequestIds" "taken" "Ljava/util/Set;" (.ref b2) := F_a_taken_3.same W4
  have N4 := Fr.snoc X4 N3 g_a
  have E_a_4 : Exa Z h4 a "com/example/crisp_relay/crisprelay/session/RequestIds" := E_a_3.wr W4
  have F_a_first_4 : Fld Z h4 a "com/example/crisp_relay/crisprelay/session/RequestIds" "first" "J" (.long a_first) := F_a_first_3.other W4 (Or.inr (slot_ne (Or.inr (hw _ (List.mem_of_getElem? (i := 54) rfl))) (Or.inr (hw _ (List.mem_of_getElem? (i := 52) rfl))) (by decide) (t := .long) (t' := (.object "java/util/Set")) (by decide) (by decide)))
  have F_a_next_4 : Fld Z h4 a "com/example/crisp_relay/crisprelay/session/RequestIds" "next" "J" (.long a_next) := F_a_next_3.other W4 (Or.inr (slot_ne (Or.inl (hw _ (List.mem_of_getElem? (i := 56) rfl))) (Or.inr (hw _ (List.mem_of_getElem? (i := 52) rfl))) (by decide) (t := .long) (t' := (.object "java/util/Set")) (by decide) (by decide)))
  have F_a_limit_4 : Fld Z h4 a "com/example/crisp_relay/crisprelay/session/RequestIds" "limit" "J" (.long a_limit) := F_a_limit_3.other W4 (Or.inr (slot_ne (Or.inl (hw _ (List.mem_of_getElem? (i := 58) rfl))) (Or.inr (hw _ (List.mem_of_getElem? (i := 52) rfl))) (by decide) (t := .long) (t' := (.object "java/util/Set")) (by decide) (by decide)))
  have F_a_ordered_4 : Fld Z h4 a "com/example/crisp_relay/crisprelay/session/RequestIds" "ordered" "Z" (.int a_ordered) := F_a_ordered_3.other W4 (Or.inr (slot_ne (Or.inr (hw _ (List.mem_of_getElem? (i := 60) rfl))) (Or.inr (hw _ (List.mem_of_getElem? (i := 52) rfl))) (by decide) (t := .boolean) (t' := (.object "java/util/Set")) (by decide) (by decide)))
  have A2_4 : Exa Z h4 b2 "java/util/HashSet" := A2_3.wr W4
  have Zn4 : n0 ≤ h4.size := Nat.le_trans Zn3 (Nat.le_of_eq W4.size.symm)
  have K4 : Keep h0 h4 [a] := K3.wr W4 (Or.inl (List.mem_of_getElem? (i := 0) rfl))
  refine OGo.st (T' := T4) (g' := (mkF m 15 #[.val (.ref a), .val (.long q1), .second, .val (.long q2), .second, .val (.int (0 : Int32))] [])) (fun _ k => st4 _ k) ?_
  refine OGo.st (T' := T4) (g' := (mkF m 17 #[.val (.ref a), .val (.long q1), .second, .val (.long q2), .second, .val (.int (0 : Int32))] [(.long q1), (.ref a)])) (fun _ k => (XS.aloadN X4.here hx rfl (hb hby own_d_prog_50_method_2_15) rfl rfl (XS.lloadN X4.here hx rfl (hb hby own_d_prog_50_method_2_16) rfl k))) ?_
  obtain ⟨T5, h5, X5, e5, W5, st5⟩ := putF X4 hx hZ hown (host := "") (Or.inl (hw _ (List.mem_of_getElem? (i := 53) rfl))) Via.refl e4 F_a_first_4 E_a_4 (Or.inr ⟨(hw _ (List.mem_of_getElem? (i := 54) rfl)), rfl, hnm⟩) (hw _ (List.mem_of_getElem? (i := 5) rfl)) (ty := .long) (by decide) rfl rfl (g := (mkF m 17 #[.val (.ref a), .val (.long q1), .second, .val (.long q2), .second, .val (.int (0 : Int32))] [(.long q1), (.ref a)])) rfl rfl (hb hby own_d_prog_50_method_2_17)
  have F_a_first_5 : Fld Z h5 a "com/example/crisp_relay/crisprelay/session/RequestIds" "first" "J" (.long q1) := F_a_first_4.same W5
  have N5 := Fr.snoc X5 N4 g_a
  have E_a_5 : Exa Z h5 a "com/example/crisp_relay/crisprelay/session/RequestIds" := E_a_4.wr W5
  have F_a_taken_5 : Fld Z h5 a "com/example/crisp_relay/crisprelay/session/RequestIds" "taken" "Ljava/util/Set;" (.ref b2) := F_a_taken_4.other W5 (Or.inr (slot_ne (Or.inr (hw _ (List.mem_of_getElem? (i := 52) rfl))) (Or.inr (hw _ (List.mem_of_getElem? (i := 54) rfl))) (by decide) (t := (.object "java/util/Set")) (t' := .long) (by decide) (by decide)))
  have F_a_next_5 : Fld Z h5 a "com/example/crisp_relay/crisprelay/session/RequestIds" "next" "J" (.long a_next) := F_a_next_4.other W5 (Or.inr (slot_ne (Or.inl (hw _ (List.mem_of_getElem? (i := 56) rfl))) (Or.inr (hw _ (List.mem_of_getElem? (i := 54) rfl))) (by decide) (t := .long) (t' := .long) (by decide) (by decide)))
  have F_a_limit_5 : Fld Z h5 a "com/example/crisp_relay/crisprelay/session/RequestIds" "limit" "J" (.long a_limit) := F_a_limit_4.other W5 (Or.inr (slot_ne (Or.inl (hw _ (List.mem_of_getElem? (i := 58) rfl))) (Or.inr (hw _ (List.mem_of_getElem? (i := 54) rfl))) (by decide) (t := .long) (t' := .long) (by decide) (by decide)))
  have F_a_ordered_5 : Fld Z h5 a "com/example/crisp_relay/crisprelay/session/RequestIds" "ordered" "Z" (.int a_ordered) := F_a_ordered_4.other W5 (Or.inr (slot_ne (Or.inr (hw _ (List.mem_of_getElem? (i := 60) rfl))) (Or.inr (hw _ (List.mem_of_getElem? (i := 54) rfl))) (by decide) (t := .boolean) (t' := .long) (by decide) (by decide)))
  have A2_5 : Exa Z h5 b2 "java/util/HashSet" := A2_4.wr W5
  have Zn5 : n0 ≤ h5.size := Nat.le_trans Zn4 (Nat.le_of_eq W5.size.symm)
  have K5 : Keep h0 h5 [a] := K4.wr W5 (Or.inl (List.mem_of_getElem? (i := 0) rfl))
  refine OGo.st (T' := T5) (g' := (mkF m 20 #[.val (.ref a), .val (.long q1), .second, .val (.long q2), .second, .val (.int (0 : Int32))] [])) (fun _ k => st5 _ k) ?_
  refine OGo.st (T' := T5) (g' := (mkF m 22 #[.val (.ref a), .val (.long q1), .second, .val (.long q2), .second, .val (.int (0 : Int32))] [(.long q1), (.ref a)])) (fun _ k => (XS.aloadN X5.here hx rfl (hb hby own_d_prog_50_method_2_20) rfl rfl (XS.lloadN X5.here hx rfl (hb hby own_d_prog_50_method_2_21) rfl k))) ?_
  obtain ⟨T6, h6, X6, e6, W6, st6⟩ := putF X5 hx hZ hown (host := "") (Or.inl (hw _ (List.mem_of_getElem? (i := 55) rfl))) Via.refl e5 F_a_next_5 E_a_5 (Or.inl (hw _ (List.mem_of_getElem? (i := 56) rfl))) (hw _ (List.mem_of_getElem? (i := 5) rfl)) (ty := .long) (by decide) rfl rfl (g := (mkF m 22 #[.val (.ref a), .val (.long q1), .second, .val (.long q2), .second, .val (.int (0 : Int32))] [(.long q1), (.ref a)])) rfl rfl (hb hby own_d_prog_50_method_2_22)
  have F_a_next_6 : Fld Z h6 a "com/example/crisp_relay/crisprelay/session/RequestIds" "next" "J" (.long q1) := F_a_next_5.same W6
  have N6 := Fr.snoc X6 N5 g_a
  have E_a_6 : Exa Z h6 a "com/example/crisp_relay/crisprelay/session/RequestIds" := E_a_5.wr W6
  have F_a_taken_6 : Fld Z h6 a "com/example/crisp_relay/crisprelay/session/RequestIds" "taken" "Ljava/util/Set;" (.ref b2) := F_a_taken_5.other W6 (Or.inr (slot_ne (Or.inr (hw _ (List.mem_of_getElem? (i := 52) rfl))) (Or.inl (hw _ (List.mem_of_getElem? (i := 56) rfl))) (by decide) (t := (.object "java/util/Set")) (t' := .long) (by decide) (by decide)))
  have F_a_first_6 : Fld Z h6 a "com/example/crisp_relay/crisprelay/session/RequestIds" "first" "J" (.long q1) := F_a_first_5.other W6 (Or.inr (slot_ne (Or.inr (hw _ (List.mem_of_getElem? (i := 54) rfl))) (Or.inl (hw _ (List.mem_of_getElem? (i := 56) rfl))) (by decide) (t := .long) (t' := .long) (by decide) (by decide)))
  have F_a_limit_6 : Fld Z h6 a "com/example/crisp_relay/crisprelay/session/RequestIds" "limit" "J" (.long a_limit) := F_a_limit_5.other W6 (Or.inr (slot_ne (Or.inl (hw _ (List.mem_of_getElem? (i := 58) rfl))) (Or.inl (hw _ (List.mem_of_getElem? (i := 56) rfl))) (by decide) (t := .long) (t' := .long) (by decide) (by decide)))
  have F_a_ordered_6 : Fld Z h6 a "com/example/crisp_relay/crisprelay/session/RequestIds" "ordered" "Z" (.int a_ordered) := F_a_ordered_5.other W6 (Or.inr (slot_ne (Or.inr (hw _ (List.mem_of_getElem? (i := 60) rfl))) (Or.inl (hw _ (List.mem_of_getElem? (i := 56) rfl))) (by decide) (t := .boolean) (t' := .long) (by decide) (by decide)))
  have A2_6 : Exa Z h6 b2 "java/util/HashSet" := A2_5.wr W6
  have Zn6 : n0 ≤ h6.size := Nat.le_trans Zn5 (Nat.le_of_eq W6.size.symm)
  have K6 : Keep h0 h6 [a] := K5.wr W6 (Or.inl (List.mem_of_getElem? (i := 0) rfl))
  refine OGo.st (T' := T6) (g' := (mkF m 25 #[.val (.ref a), .val (.long q1), .second, .val (.long q2), .second, .val (.int (0 : Int32))] [])) (fun _ k => st6 _ k) ?_
  refine OGo.st (T' := T6) (g' := (mkF m 27 #[.val (.ref a), .val (.long q1), .second, .val (.long q2), .second, .val (.int (0 : Int32))] [(.long q2), (.ref a)])) (fun _ k => (XS.aloadN X6.here hx rfl (hb hby own_d_prog_50_method_2_25) rfl rfl (XS.lloadN X6.here hx rfl (hb hby own_d_prog_50_method_2_26) rfl k))) ?_
  obtain ⟨T7, h7, X7, e7, W7, st7⟩ := putF X6 hx hZ hown (host := "") (Or.inl (hw _ (List.mem_of_getElem? (i := 57) rfl))) Via.refl e6 F_a_limit_6 E_a_6 (Or.inl (hw _ (List.mem_of_getElem? (i := 58) rfl))) (hw _ (List.mem_of_getElem? (i := 5) rfl)) (ty := .long) (by decide) rfl rfl (g := (mkF m 27 #[.val (.ref a), .val (.long q1), .second, .val (.long q2), .second, .val (.int (0 : Int32))] [(.long q2), (.ref a)])) rfl rfl (hb hby own_d_prog_50_method_2_27)
  have F_a_limit_7 : Fld Z h7 a "com/example/crisp_relay/crisprelay/session/RequestIds" "limit" "J" (.long q2) := F_a_limit_6.same W7
  have N7 := Fr.snoc X7 N6 g_a
  have E_a_7 : Exa Z h7 a "com/example/crisp_relay/crisprelay/session/RequestIds" := E_a_6.wr W7
  have F_a_taken_7 : Fld Z h7 a "com/example/crisp_relay/crisprelay/session/RequestIds" "taken" "Ljava/util/Set;" (.ref b2) := F_a_taken_6.other W7 (Or.inr (slot_ne (Or.inr (hw _ (List.mem_of_getElem? (i := 52) rfl))) (Or.inl (hw _ (List.mem_of_getElem? (i := 58) rfl))) (by decide) (t := (.object "java/util/Set")) (t' := .long) (by decide) (by decide)))
  have F_a_first_7 : Fld Z h7 a "com/example/crisp_relay/crisprelay/session/RequestIds" "first" "J" (.long q1) := F_a_first_6.other W7 (Or.inr (slot_ne (Or.inr (hw _ (List.mem_of_getElem? (i := 54) rfl))) (Or.inl (hw _ (List.mem_of_getElem? (i := 58) rfl))) (by decide) (t := .long) (t' := .long) (by decide) (by decide)))
  have F_a_next_7 : Fld Z h7 a "com/example/crisp_relay/crisprelay/session/RequestIds" "next" "J" (.long q1) := F_a_next_6.other W7 (Or.inr (slot_ne (Or.inl (hw _ (List.mem_of_getElem? (i := 56) rfl))) (Or.inl (hw _ (List.mem_of_getElem? (i := 58) rfl))) (by decide) (t := .long) (t' := .long) (by decide) (by decide)))
  have F_a_ordered_7 : Fld Z h7 a "com/example/crisp_relay/crisprelay/session/RequestIds" "ordered" "Z" (.int a_ordered) := F_a_ordered_6.other W7 (Or.inr (slot_ne (Or.inr (hw _ (List.mem_of_getElem? (i := 60) rfl))) (Or.inl (hw _ (List.mem_of_getElem? (i := 58) rfl))) (by decide) (t := .boolean) (t' := .long) (by decide) (by decide)))
  have A2_7 : Exa Z h7 b2 "java/util/HashSet" := A2_6.wr W7
  have Zn7 : n0 ≤ h7.size := Nat.le_trans Zn6 (Nat.le_of_eq W7.size.symm)
  have K7 : Keep h0 h7 [a] := K6.wr W7 (Or.inl (List.mem_of_getElem? (i := 0) rfl))
  refine OGo.st (T' := T7) (g' := (mkF m 30 #[.val (.ref a), .val (.long q1), .second, .val (.long q2), .second, .val (.int (0 : Int32))] [])) (fun _ k => st7 _ k) ?_
  refine OGo.st (T' := T7) (g' := (mkF m 33 #[.val (.ref a), .val (.long q1), .second, .val (.long q2), .second, .val (.int (0 : Int32))] [(.int (0 : Int32)), (.ref a)])) (fun _ k => (XS.aloadN X7.here hx rfl (hb hby own_d_prog_50_method_2_30) rfl rfl (XS.iload X7.here hx rfl (hb hby own_d_prog_50_method_2_31) rfl k))) ?_
  obtain ⟨T8, h8, X8, e8, W8, st8⟩ := putFN X7 hx hZ hown (hw _ (List.mem_of_getElem? (i := 59) rfl)) Via.refl e7 F_a_ordered_7 E_a_7 (Or.inr ⟨(hw _ (List.mem_of_getElem? (i := 60) rfl)), rfl, hnm⟩) (hw _ (List.mem_of_getElem? (i := 5) rfl)) (ty := .boolean) (v' := (.int (0 : Int32))) (by decide) rfl rfl (g := (mkF m 33 #[.val (.ref a), .val (.long q1), .second, .val (.long q2), .second, .val (.int (0 : Int32))] [(.int (0 : Int32)), (.ref a)])) rfl rfl (hb hby own_d_prog_50_method_2_33)
  have F_a_ordered_8 : Fld Z h8 a "com/example/crisp_relay/crisprelay/session/RequestIds" "ordered" "Z" (.int (0 : Int32)) := F_a_ordered_7.same W8
  have N8 := Fr.snoc X8 N7 g_a
  have E_a_8 : Exa Z h8 a "com/example/crisp_relay/crisprelay/session/RequestIds" := E_a_7.wr W8
  have F_a_taken_8 : Fld Z h8 a "com/example/crisp_relay/crisprelay/session/RequestIds" "taken" "Ljava/util/Set;" (.ref b2) := F_a_taken_7.other W8 (Or.inr (slot_ne (Or.inr (hw _ (List.mem_of_getElem? (i := 52) rfl))) (Or.inr (hw _ (List.mem_of_getElem? (i := 60) rfl))) (by decide) (t := (.object "java/util/Set")) (t' := .boolean) (by decide) (by decide)))
  have F_a_first_8 : Fld Z h8 a "com/example/crisp_relay/crisprelay/session/RequestIds" "first" "J" (.long q1) := F_a_first_7.other W8 (Or.inr (slot_ne (Or.inr (hw _ (List.mem_of_getElem? (i := 54) rfl))) (Or.inr (hw _ (List.mem_of_getElem? (i := 60) rfl))) (by decide) (t := .long) (t' := .boolean) (by decide) (by decide)))
  have F_a_next_8 : Fld Z h8 a "com/example/crisp_relay/crisprelay/session/RequestIds" "next" "J" (.long q1) := F_a_next_7.other W8 (Or.inr (slot_ne (Or.inl (hw _ (List.mem_of_getElem? (i := 56) rfl))) (Or.inr (hw _ (List.mem_of_getElem? (i := 60) rfl))) (by decide) (t := .long) (t' := .boolean) (by decide) (by decide)))
  have F_a_limit_8 : Fld Z h8 a "com/example/crisp_relay/crisprelay/session/RequestIds" "limit" "J" (.long q2) := F_a_limit_7.other W8 (Or.inr (slot_ne (Or.inl (hw _ (List.mem_of_getElem? (i := 58) rfl))) (Or.inr (hw _ (List.mem_of_getElem? (i := 60) rfl))) (by decide) (t := .long) (t' := .boolean) (by decide) (by decide)))
  have A2_8 : Exa Z h8 b2 "java/util/HashSet" := A2_7.wr W8
  have Zn8 : n0 ≤ h8.size := Nat.le_trans Zn7 (Nat.le_of_eq W8.size.symm)
  have K8 : Keep h0 h8 [a] := K7.wr W8 (Or.inl (List.mem_of_getElem? (i := 0) rfl))
  refine OGo.st (T' := T8) (g' := (mkF m 36 #[.val (.ref a), .val (.long q1), .second, .val (.long q2), .second, .val (.int (0 : Int32))] [])) (fun _ k => st8 _ k) ?_
  exact OGo.retV X8 hx hlk Bd.returns (hb hby own_d_prog_50_method_2_36) (by decide) (by decide) e8 (⟨rfl, N8, K8, F_a_first_8, F_a_next_8, F_a_limit_8, F_a_ordered_8⟩)
theorem own_ef_rmJ (m : MethodId) (x0 : Addr) (x1 : Int64) (x2 : Int64) : entryFrame m #[(.ref x0), (.long x1), (.long x2)] 5 = mkF m 0 #[.val (.ref x0), .val (.long x1), .second, .val (.long x2), .second] [] := by first | (simp [entryFrame, mkF, argsToLocals, Value.category]; done) | rfl
def R_rmJ : Room := { frames := 5, cells := 2, slots := 9, locals := 69 }
def Q_rmJ (Z : State) (a : Addr) (a_taken : Value) (a_first : Int64) (a_next : Int64) (a_limit : Int64) (a_ordered : Int32) (q1 : Int64) (q2 : Int64) (h0 : Heap) (n0 : Nat) (v : Option Value) (h : Heap) (L : List Loc) : Prop := v = none ∧ Fr n0 L ∧ Keep h0 h [a] ∧ Fld Z h a "com/example/crisp_relay/crisprelay/session/RequestIds" "first" "J" (.long q1) ∧ Fld Z h a "com/example/crisp_relay/crisprelay/session/RequestIds" "next" "J" (.long q1) ∧ Fld Z h a "com/example/crisp_relay/crisprelay/session/RequestIds" "limit" "J" (.long q2) ∧ Fld Z h a "com/example/crisp_relay/crisprelay/session/RequestIds" "ordered" "Z" (.int (1 : Int32))
set_option maxRecDepth 65536 in
set_option maxHeartbeats 40000000 in
theorem rmJ (l : Launch) (Z : State) (a0 : Array Value) (hw : ∀ d ∈ tables_1, d.before a0 Z = true) (ws : List Jvm.Cond) (a : Addr) (a_taken : Value) (a_first : Int64) (a_next : Int64) (a_limit : Int64) (a_ordered : Int32) (q1 : Int64) (q2 : Int64) (h0 : Heap) (n0 : Nat) (Z0 : n0 ≤ h0.size) (E_a : Exa Z h0 a "com/example/crisp_relay/crisprelay/session/RequestIds") (F_a_taken : Fld Z h0 a "com/example/crisp_relay/crisprelay/session/RequestIds" "taken" "Ljava/util/Set;" a_taken) (F_a_first : Fld Z h0 a "com/example/crisp_relay/crisprelay/session/RequestIds" "first" "J" (.long a_first)) (F_a_next : Fld Z h0 a "com/example/crisp_relay/crisprelay/session/RequestIds" "next" "J" (.long a_next)) (F_a_limit : Fld Z h0 a "com/example/crisp_relay/crisprelay/session/RequestIds" "limit" "J" (.long a_limit)) (F_a_ordered : Fld Z h0 a "com/example/crisp_relay/crisprelay/session/RequestIds" "ordered" "Z" (.int a_ordered)) (g_a : n0 ≤ a) :
    MetFree l (⟨"com/example/crisp_relay/crisprelay/session/RequestIds", "<init>", "(JJ)V"⟩ : MethodName) (head1 (Jvm.Cond.code (⟨"com/example/crisp_relay/crisprelay/session/RequestIds", "<init>", "(JJ)V"⟩ : MethodName) prog_50_method_1_code 5 none :: ws) R_rmJ) (fun vs_ U => vs_ = #[(.ref a), (.long q1), (.long q2)] ∧ Z.Warmed39 U.vm ∧ U.heap = h0) (fun _ _ _ _ _ => True) (fun _ U o U' => ∃ v L, o = .returned v ∧ Q_rmJ Z a a_taken a_first a_next a_limit a_ordered q1 q2 h0 n0 v U'.heap L ∧ FrameEnd U o U' L R_rmJ.cells R_rmJ.slots) := by
  refine MetFree.of_bodySF (plainFor_of_name own_pn0) hisR ?_
  intro p e s m args below meth c s₁ Bd hml0 hP hK
  obtain ⟨rfl, hZ, hh⟩ := hP
  have hx := Bd.exec
  have hby := Bd.bytes
  have hml : c.maxLocals = 5 := hml0
  have hown : s.vm.findClass "com/example/crisp_relay/crisprelay/session/RequestIds" = some m.cls := findClass_of_methodNamed Bd.named
  have hnm := (name_of_methodNamed Bd.named Bd.method).1
  have hlk : meth.locks = false := BodyLoose.notSynchronized Bd
  have X0 : Stand p l e R_rmJ s m #[(.ref a), (.long q1), (.long q2)] below meth c s₁ [] 0 0 := Stand.of_body Bd
  have e0 : s₁.heap = h0 := by rw [← hh, Bd.state]; rfl
  have N0 := Fr.nil n0
  have K0 : Keep h0 h0 [a] := Keep.refl _ _
  refine OGo.en (Q := Q_rmJ Z a a_taken a_first a_next a_limit a_ordered q1 q2 h0 n0) (C := R_rmJ.cells) (S := R_rmJ.slots) (own_ef_rmJ m a q1 q2) ?_
  refine OGo.st (T' := s₁) (g' := (mkF m 4 #[.val (.ref a), .val (.long q1), .second, .val (.long q2), .second] [(.int (1 : Int32)), (.long q2), (.long q1), (.ref a)])) (fun _ k => (XS.aloadN X0.here hx rfl (hb hby own_d_prog_50_method_1_0) rfl rfl (XS.lloadN X0.here hx rfl (hb hby own_d_prog_50_method_1_1) rfl (XS.lloadN X0.here hx rfl (hb hby own_d_prog_50_method_1_2) rfl (XS.iconst X0.here hx rfl (hb hby own_d_prog_50_method_1_3) k))))) ?_
  obtain ⟨_, _, ⟨T1, L1, k1, n1⟩, -, X1, ⟨Lc1, hQ1, l1, y1, z1⟩, st1⟩ := X0.specialBack hx (y := (⟨"com/example/crisp_relay/crisprelay/session/RequestIds", "<init>", "(JJZ)V"⟩ : MethodName)) rfl hown (mvT hZ (hw _ (List.mem_of_getElem? (i := 7) rfl))) (mvT hZ (hw _ (List.mem_of_getElem? (i := 8) rfl))) (mvT hZ (hw _ (List.mem_of_getElem? (i := 9) rfl))) (by decide) (backOf (W := 0) (rmI1 l Z a0 hw [] (a) (a_taken) (a_first) (a_next) (a_limit) (a_ordered) (q1) (q2) h0 n0 Z0 (E_a) (F_a_taken) (F_a_first) (F_a_next) (F_a_limit) (F_a_ordered) (g_a)) hZ (hw _ (List.mem_of_getElem? (i := 9) rfl)) (hw _ (List.mem_of_getElem? (i := 2) rfl)) (by decide) (by decide)) (g := (mkF m 4 #[.val (.ref a), .val (.long q1), .second, .val (.long q2), .second] [(.int (1 : Int32)), (.long q2), (.long q1), (.ref a)])) rfl (by rw [hml]; rfl) (Steps.refl _) (a := a) (argsL := [(.long q1), (.long q2), (.int (1 : Int32))]) (rest := []) (lenOf own_pd7 rfl) rfl (by show 2 * 0 + _ ≤ _; exact Nat.le_of_eq rfl) (hb hby own_d_prog_50_method_1_4) (fun _ _ => ⟨rfl, e0, (by decide : 0 + 2 ≤ _), (by decide : 0 + 9 ≤ _)⟩)
  dsimp only [Pt.U, Pt.locs, Pt.cells, Pt.slots] at X1 l1 y1 z1 st1 hQ1
  subst l1 y1 z1
  have X1 : Stand p l e R_rmJ s m _ below meth c T1 _ 2 9 := X1
  obtain ⟨h1, e1⟩ : ∃ z, T1.heap = z := ⟨_, rfl⟩
  rw [e1] at hQ1
  obtain ⟨rfl, Nq1, Kc1, G1x0, G1x1, G1x2, G1x3⟩ := hQ1
  have N1 := Fr.app N0 Nq1
  have E_a_1 : Exa Z h1 a "com/example/crisp_relay/crisprelay/session/RequestIds" := E_a.keep Kc1
  have Zn1 : n0 ≤ h1.size := Nat.le_trans Z0 Kc1.1
  have K1 : Keep h0 h1 [a] := K0.trans Kc1 (allS (Or.inl (List.mem_of_getElem? (i := 0) rfl)) all0)
  refine OGo.st (T' := T1) (g' := (mkF m 7 #[.val (.ref a), .val (.long q1), .second, .val (.long q2), .second] [])) (fun _ k => st1.trans k) ?_
  exact OGo.retV X1 hx hlk Bd.returns (hb hby own_d_prog_50_method_1_7) (by decide) (by decide) e1 (⟨rfl, N1, K1, G1x0, G1x1, G1x2, G1x3⟩)
theorem own_ef_rmU (m : MethodId) (x0 : Int64) : entryFrame m #[(.long x0)] 2 = mkF m 0 #[.val (.long x0), .second] [] := by first | (simp [entryFrame, mkF, argsToLocals, Value.category]; done) | rfl
def R_rmU : Room := { frames := 5, cells := 3, slots := 14, locals := 70 }
def Q_rmU (Z : State) (q1 : Int64) (h0 : Heap) (n0 : Nat) (v : Option Value) (h : Heap) (L : List Loc) : Prop := ∃ b1 : Addr, v = some (.ref b1) ∧ Fr n0 L ∧ Keep h0 h [] ∧ h0.size ≤ b1 ∧ Exa Z h b1 "com/example/crisp_relay/crisprelay/session/RequestIds" ∧ Fld Z h b1 "com/example/crisp_relay/crisprelay/session/RequestIds" "first" "J" (.long q1) ∧ Fld Z h b1 "com/example/crisp_relay/crisprelay/session/RequestIds" "next" "J" (.long q1) ∧ Fld Z h b1 "com/example/crisp_relay/crisprelay/session/RequestIds" "limit" "J" (.long (9223372036854775807 : Int64)) ∧ Fld Z h b1 "com/example/crisp_relay/crisprelay/session/RequestIds" "ordered" "Z" (.int (0 : Int32))
set_option maxRecDepth 65536 in
set_option maxHeartbeats 40000000 in
theorem rmU (l : Launch) (Z : State) (a0 : Array Value) (hw : ∀ d ∈ tables_1, d.before a0 Z = true) (ws : List Jvm.Cond) (q1 : Int64) (h0 : Heap) (n0 : Nat) (Z0 : n0 ≤ h0.size) :
    MetFree l (⟨"com/example/crisp_relay/crisprelay/session/RequestIds", "unordered", "(J)Lcom/example/crisp_relay/crisprelay/session/RequestIds;"⟩ : MethodName) (head1 (Jvm.Cond.code (⟨"com/example/crisp_relay/crisprelay/session/RequestIds", "unordered", "(J)Lcom/example/crisp_relay/crisprelay/session/RequestIds;"⟩ : MethodName) prog_50_method_3_code 2 (some (.object "com/example/crisp_relay/crisprelay/session/RequestIds")) :: ws) R_rmU) (fun vs_ U => vs_ = #[(.long q1)] ∧ Z.Warmed39 U.vm ∧ U.heap = h0) (fun _ _ _ _ _ => True) (fun _ U o U' => ∃ v L, o = .returned v ∧ Q_rmU Z q1 h0 n0 v U'.heap L ∧ FrameEnd U o U' L R_rmU.cells R_rmU.slots) := by
  refine MetFree.of_bodySF (plainFor_of_name own_pn0) hisR ?_
  intro p e s m args below meth c s₁ Bd hml0 hP hK
  obtain ⟨rfl, hZ, hh⟩ := hP
  have hx := Bd.exec
  have hby := Bd.bytes
  have hml : c.maxLocals = 2 := hml0
  have hown : s.vm.findClass "com/example/crisp_relay/crisprelay/session/RequestIds" = some m.cls := findClass_of_methodNamed Bd.named
  have hnm := (name_of_methodNamed Bd.named Bd.method).1
  have hlk : meth.locks = false := BodyLoose.notSynchronized Bd
  have X0 : Stand p l e R_rmU s m #[(.long q1)] below meth c s₁ [] 0 0 := Stand.of_body Bd
  have e0 : s₁.heap = h0 := by rw [← hh, Bd.state]; rfl
  have N0 := Fr.nil n0
  have K0 : Keep h0 h0 [] := Keep.refl _ _
  refine OGo.en (Q := Q_rmU Z q1 h0 n0) (C := R_rmU.cells) (S := R_rmU.slots) (own_ef_rmU m q1) ?_
  obtain ⟨T1, h1, X1, e1, E1, A1, D1, -, st1⟩ := newO X0 hx hZ hown (hw _ (List.mem_of_getElem? (i := 4) rfl)) (hw _ (List.mem_of_getElem? (i := 5) rfl)) (hw _ (List.mem_of_getElem? (i := 2) rfl)) e0 (g := (mkF m 0 #[.val (.long q1), .second] [])) rfl (hb hby own_d_prog_50_method_3_0) (by decide) (by decide)
  obtain ⟨b1, g1⟩ : ∃ z, z = h0.size := ⟨_, rfl⟩
  rw [← g1] at A1 D1 st1
  have g_b1 : n0 ≤ b1 := Nat.le_trans Z0 (Nat.le_of_eq g1.symm)
  have sz_b1 : h0.size ≤ b1 := Nat.le_trans K0.1 (Nat.le_of_eq g1.symm)
  have F_taken_b1_1 : Fld Z h1 b1 "com/example/crisp_relay/crisprelay/session/RequestIds" "taken" "Ljava/util/Set;" .null := D1 (Or.inr (hw _ (List.mem_of_getElem? (i := 52) rfl))) (ty := (.object "java/util/Set")) (by decide)
  have F_first_b1_1 : Fld Z h1 b1 "com/example/crisp_relay/crisprelay/session/RequestIds" "first" "J" (.long (0 : Int64)) := D1 (Or.inr (hw _ (List.mem_of_getElem? (i := 54) rfl))) (ty := .long) (by decide)
  have F_next_b1_1 : Fld Z h1 b1 "com/example/crisp_relay/crisprelay/session/RequestIds" "next" "J" (.long (0 : Int64)) := D1 (Or.inl (hw _ (List.mem_of_getElem? (i := 56) rfl))) (ty := .long) (by decide)
  have F_limit_b1_1 : Fld Z h1 b1 "com/example/crisp_relay/crisprelay/session/RequestIds" "limit" "J" (.long (0 : Int64)) := D1 (Or.inl (hw _ (List.mem_of_getElem? (i := 58) rfl))) (ty := .long) (by decide)
  have F_ordered_b1_1 : Fld Z h1 b1 "com/example/crisp_relay/crisprelay/session/RequestIds" "ordered" "Z" (.int (0 : Int32)) := D1 (Or.inr (hw _ (List.mem_of_getElem? (i := 60) rfl))) (ty := .boolean) (by decide)
  have Zn1 : n0 ≤ h1.size := Nat.le_trans Z0 E1.1
  have K1 : Keep h0 h1 [] := K0.ext E1
  have X1 : Stand p l e R_rmU s m _ below meth c T1 _ 1 5 := X1
  refine OGo.st (T' := T1) (g' := (mkF m 3 #[.val (.long q1), .second] [(.ref b1)])) (fun _ k => st1 _ k) ?_
  refine OGo.st (T' := T1) (g' := (mkF m 9 #[.val (.long q1), .second] [(.int (0 : Int32)), (.long (9223372036854775807 : Int64)), (.long q1), (.ref b1), (.ref b1)])) (fun _ k => (XS.dup X1.here hx rfl (hb hby own_d_prog_50_method_3_3) rfl rfl (XS.lloadN X1.here hx rfl (hb hby own_d_prog_50_method_3_4) rfl (X1.ldc2Long hx hown (mvT hZ (hw _ (List.mem_of_getElem? (i := 6) rfl))) (g := (mkF m 5 #[.val (.long q1), .second] [(.long q1), (.ref b1), (.ref b1)])) rfl (hb hby own_d_prog_50_method_3_5) _ (XS.iconst X1.here hx rfl (hb hby own_d_prog_50_method_3_8) k))))) ?_
  obtain ⟨_, _, ⟨T2, L2, k2, n2⟩, -, X2, ⟨Lc2, hQ2, l2, y2, z2⟩, st2⟩ := X1.specialBack hx (y := (⟨"com/example/crisp_relay/crisprelay/session/RequestIds", "<init>", "(JJZ)V"⟩ : MethodName)) rfl hown (mvT hZ (hw _ (List.mem_of_getElem? (i := 7) rfl))) (mvT hZ (hw _ (List.mem_of_getElem? (i := 8) rfl))) (mvT hZ (hw _ (List.mem_of_getElem? (i := 9) rfl))) (by decide) (backOf (W := 1) (rmI0 l Z a0 hw [] (b1) (.null) ((0 : Int64)) ((0 : Int64)) ((0 : Int64)) ((0 : Int32)) (q1) ((9223372036854775807 : Int64)) h1 n0 Zn1 (A1) (F_taken_b1_1) (F_first_b1_1) (F_next_b1_1) (F_limit_b1_1) (F_ordered_b1_1) (g_b1)) hZ (hw _ (List.mem_of_getElem? (i := 9) rfl)) (hw _ (List.mem_of_getElem? (i := 2) rfl)) (by decide) (by decide)) (g := (mkF m 9 #[.val (.long q1), .second] [(.int (0 : Int32)), (.long (9223372036854775807 : Int64)), (.long q1), (.ref b1), (.ref b1)])) rfl (by rw [hml]; rfl) (Steps.refl _) (a := b1) (argsL := [(.long q1), (.long (9223372036854775807 : Int64)), (.int (0 : Int32))]) (rest := [(.ref b1)]) (lenOf own_pd7 rfl) rfl (by show 2 * 0 + _ ≤ _; exact Nat.le_of_eq rfl) (hb hby own_d_prog_50_method_3_9) (fun _ _ => ⟨rfl, e1, (by decide : 1 + 2 ≤ _), (by decide : 5 + 9 ≤ _)⟩)
  dsimp only [Pt.U, Pt.locs, Pt.cells, Pt.slots] at X2 l2 y2 z2 st2 hQ2
  subst l2 y2 z2
  have X2 : Stand p l e R_rmU s m _ below meth c T2 _ 3 14 := X2
  obtain ⟨h2, e2⟩ : ∃ z, T2.heap = z := ⟨_, rfl⟩
  rw [e2] at hQ2
  obtain ⟨rfl, Nq2, Kc2, G2x0, G2x1, G2x2, G2x3⟩ := hQ2
  have N2 := Fr.app N0 Nq2
  have A1_2 : Exa Z h2 b1 "com/example/crisp_relay/crisprelay/session/RequestIds" := A1.keep Kc2
  have Zn2 : n0 ≤ h2.size := Nat.le_trans Zn1 Kc2.1
  have K2 : Keep h0 h2 [] := K1.trans Kc2 (allS (Or.inr sz_b1) all0)
  refine OGo.st (T' := T2) (g' := (mkF m 12 #[.val (.long q1), .second] [(.ref b1)])) (fun _ k => st2.trans k) ?_
  exact OGo.ret X2 hx hlk Bd.returns rfl (own_rR rfl rfl) (hb hby own_d_prog_50_method_3_12) (by decide) (by decide) e2 (⟨b1, rfl, N2, K2, sz_b1, A1_2, G2x0, G2x1, G2x2, G2x3⟩)
theorem own_ef_rmG0 (m : MethodId) (x0 : Addr) (x1 : Int64) : entryFrame m #[(.ref x0), (.long x1)] 3 = mkF m 0 #[.val (.ref x0), .val (.long x1), .second] [] := by first | (simp [entryFrame, mkF, argsToLocals, Value.category]; done) | rfl
def R_rmG0 : Room := { frames := 0, cells := 0, slots := 0, locals := 0 }
def Q_rmG0 (Z : State) (a : Addr) (a_next : Int64) (a_limit : Int64) (q1 : Int64) (h0 : Heap) (n0 : Nat) (v : Option Value) (h : Heap) (L : List Loc) : Prop := v = some (.long a_limit) ∧ Fr n0 L ∧ h = h0
set_option maxRecDepth 65536 in
set_option maxHeartbeats 40000000 in
theorem rmG0 (l : Launch) (Z : State) (a0 : Array Value) (hw : ∀ d ∈ tables_1, d.before a0 Z = true) (ws : List Jvm.Cond) (a : Addr) (a_next : Int64) (a_limit : Int64) (q1 : Int64) (h0 : Heap) (n0 : Nat) (Z0 : n0 ≤ h0.size) (F_a_next : Fld Z h0 a "com/example/crisp_relay/crisprelay/session/RequestIds" "next" "J" (.long a_next)) (F_a_limit : Fld Z h0 a "com/example/crisp_relay/crisprelay/session/RequestIds" "limit" "J" (.long a_limit)) (F_a_ordered : Fld Z h0 a "com/example/crisp_relay/crisprelay/session/RequestIds" "ordered" "Z" (.int (0 : Int32))) :
    MetFree l (⟨"com/example/crisp_relay/crisprelay/session/RequestIds", "grant", "(J)J"⟩ : MethodName) (head1 (Jvm.Cond.code (⟨"com/example/crisp_relay/crisprelay/session/RequestIds", "grant", "(J)J"⟩ : MethodName) prog_50_method_10_code 3 (some .long) :: ws) R_rmG0) (fun vs_ U => vs_ = #[(.ref a), (.long q1)] ∧ Z.Warmed39 U.vm ∧ U.heap = h0) (fun _ _ _ _ _ => True) (fun _ U o U' => ∃ v L, o = .returned v ∧ Q_rmG0 Z a a_next a_limit q1 h0 n0 v U'.heap L ∧ FrameEnd U o U' L R_rmG0.cells R_rmG0.slots) := by
  refine MetFree.of_bodySF (plainFor_of_name own_pn0) hisR ?_
  intro p e s m args below meth c s₁ Bd hml0 hP hK
  obtain ⟨rfl, hZ, hh⟩ := hP
  have hx := Bd.exec
  have hby := Bd.bytes
  have hml : c.maxLocals = 3 := hml0
  have hown : s.vm.findClass "com/example/crisp_relay/crisprelay/session/RequestIds" = some m.cls := findClass_of_methodNamed Bd.named
  have hnm := (name_of_methodNamed Bd.named Bd.method).1
  have hlk : meth.locks = false := BodyLoose.notSynchronized Bd
  have X0 : Stand p l e R_rmG0 s m #[(.ref a), (.long q1)] below meth c s₁ [] 0 0 := Stand.of_body Bd
  have e0 : s₁.heap = h0 := by rw [← hh, Bd.state]; rfl
  have N0 := Fr.nil n0
  refine OGo.en (Q := Q_rmG0 Z a a_next a_limit q1 h0 n0) (C := R_rmG0.cells) (S := R_rmG0.slots) (own_ef_rmG0 m a q1) ?_
  refine OGo.st (T' := s₁) (g' := (mkF m 1 #[.val (.ref a), .val (.long q1), .second] [(.ref a)])) (fun _ k => (XS.aloadN X0.here hx rfl (hb hby own_d_prog_50_method_10_0) rfl rfl k)) ?_
  obtain ⟨T1, X1, e1, st1⟩ := getF X0 hx hZ hown (host := "") (Or.inl (hw _ (List.mem_of_getElem? (i := 59) rfl))) Via.refl e0 F_a_ordered (g := (mkF m 1 #[.val (.ref a), .val (.long q1), .second] [(.ref a)])) rfl rfl (hb hby own_d_prog_50_method_10_1)
  refine OGo.st (T' := T1) (g' := (mkF m 4 #[.val (.ref a), .val (.long q1), .second] [(.int (0 : Int32))])) (fun _ k => st1 _ k) ?_
  refine OGo.st (T' := T1) (g' := (mkF m 8 #[.val (.ref a), .val (.long q1), .second] [(.ref a)])) (fun _ k => (XS.ifNo X1.here hx rfl (hb hby own_d_prog_50_method_10_4) rfl ((if0 _ _).trans (teq (by decide : (0 : Int32) = (0 : Int32))).2) (XS.aloadN X1.here hx rfl (hb hby own_d_prog_50_method_10_7) rfl rfl k))) ?_
  obtain ⟨T2, X2, e2, st2⟩ := getF X1 hx hZ hown (host := "") (Or.inl (hw _ (List.mem_of_getElem? (i := 57) rfl))) Via.refl e1 F_a_limit (g := (mkF m 8 #[.val (.ref a), .val (.long q1), .second] [(.ref a)])) rfl rfl (hb hby own_d_prog_50_method_10_8)
  refine OGo.st (T' := T2) (g' := (mkF m 11 #[.val (.ref a), .val (.long q1), .second] [(.long a_limit)])) (fun _ k => st2 _ k) ?_
  exact OGo.ret X2 hx hlk Bd.returns rfl own_rJ (hb hby own_d_prog_50_method_10_11) (by decide) (by decide) e2 (⟨rfl, N0, rfl⟩)
theorem own_ef_rmG1 (m : MethodId) (x0 : Addr) (x1 : Int64) : entryFrame m #[(.ref x0), (.long x1)] 3 = mkF m 0 #[.val (.ref x0), .val (.long x1), .second] [] := by first | (simp [entryFrame, mkF, argsToLocals, Value.category]; done) | rfl
def R_rmG1 : Room := { frames := 0, cells := 0, slots := 0, locals := 0 }
def Q_rmG1 (Z : State) (a : Addr) (a_next : Int64) (a_limit : Int64) (q1 : Int64) (h0 : Heap) (n0 : Nat) (v : Option Value) (h : Heap) (L : List Loc) : Prop := v = some (.long ((a_limit + q1) + q1)) ∧ Fr n0 L ∧ Keep h0 h [a] ∧ Fld Z h a "com/example/crisp_relay/crisprelay/session/RequestIds" "next" "J" (.long a_next) ∧ Fld Z h a "com/example/crisp_relay/crisprelay/session/RequestIds" "limit" "J" (.long ((a_limit + q1) + q1)) ∧ Fld Z h a "com/example/crisp_relay/crisprelay/session/RequestIds" "ordered" "Z" (.int (1 : Int32))
set_option maxRecDepth 65536 in
set_option maxHeartbeats 40000000 in
theorem rmG1 (l : Launch) (Z : State) (a0 : Array Value) (hw : ∀ d ∈ tables_1, d.before a0 Z = true) (ws : List Jvm.Cond) (a : Addr) (a_next : Int64) (a_limit : Int64) (q1 : Int64) (h0 : Heap) (n0 : Nat) (Z0 : n0 ≤ h0.size) (E_a : Exa Z h0 a "com/example/crisp_relay/crisprelay/session/RequestIds") (F_a_next : Fld Z h0 a "com/example/crisp_relay/crisprelay/session/RequestIds" "next" "J" (.long a_next)) (F_a_limit : Fld Z h0 a "com/example/crisp_relay/crisprelay/session/RequestIds" "limit" "J" (.long a_limit)) (F_a_ordered : Fld Z h0 a "com/example/crisp_relay/crisprelay/session/RequestIds" "ordered" "Z" (.int (1 : Int32))) (g_a : n0 ≤ a) :
    MetFree l (⟨"com/example/crisp_relay/crisprelay/session/RequestIds", "grant", "(J)J"⟩ : MethodName) (head1 (Jvm.Cond.code (⟨"com/example/crisp_relay/crisprelay/session/RequestIds", "grant", "(J)J"⟩ : MethodName) prog_50_method_10_code 3 (some .long) :: ws) R_rmG1) (fun vs_ U => vs_ = #[(.ref a), (.long q1)] ∧ Z.Warmed39 U.vm ∧ U.heap = h0) (fun _ _ _ _ _ => True) (fun _ U o U' => ∃ v L, o = .returned v ∧ Q_rmG1 Z a a_next a_limit q1 h0 n0 v U'.heap L ∧ FrameEnd U o U' L R_rmG1.cells R_rmG1.slots) := by
  refine MetFree.of_bodySF (plainFor_of_name own_pn0) hisR ?_
  intro p e s m args below meth c s₁ Bd hml0 hP hK
  obtain ⟨rfl, hZ, hh⟩ := hP
  have hx := Bd.exec
  have hby := Bd.bytes
  have hml : c.maxLocals = 3 := hml0
  have hown : s.vm.findClass "com/example/crisp_relay/crisprelay/session/RequestIds" = some m.cls := findClass_of_methodNamed Bd.named
  have hnm := (name_of_methodNamed Bd.named Bd.method).1
  have hlk : meth.locks = false := BodyLoose.notSynchronized Bd
  have X0 : Stand p l e R_rmG1 s m #[(.ref a), (.long q1)] below meth c s₁ [] 0 0 := Stand.of_body Bd
  have e0 : s₁.heap = h0 := by rw [← hh, Bd.state]; rfl
  have N0 := Fr.nil n0
  have K0 : Keep h0 h0 [a] := Keep.refl _ _
  refine OGo.en (Q := Q_rmG1 Z a a_next a_limit q1 h0 n0) (C := R_rmG1.cells) (S := R_rmG1.slots) (own_ef_rmG1 m a q1) ?_
  refine OGo.st (T' := s₁) (g' := (mkF m 1 #[.val (.ref a), .val (.long q1), .second] [(.ref a)])) (fun _ k => (XS.aloadN X0.here hx rfl (hb hby own_d_prog_50_method_10_0) rfl rfl k)) ?_
  obtain ⟨T1, X1, e1, st1⟩ := getF X0 hx hZ hown (host := "") (Or.inl (hw _ (List.mem_of_getElem? (i := 59) rfl))) Via.refl e0 F_a_ordered (g := (mkF m 1 #[.val (.ref a), .val (.long q1), .second] [(.ref a)])) rfl rfl (hb hby own_d_prog_50_method_10_1)
  refine OGo.st (T' := T1) (g' := (mkF m 4 #[.val (.ref a), .val (.long q1), .second] [(.int (1 : Int32))])) (fun _ k => st1 _ k) ?_
  refine OGo.st (T' := T1) (g' := (mkF m 14 #[.val (.ref a), .val (.long q1), .second] [(.ref a), (.ref a)])) (fun _ k => (XS.ifYes X1.here hx rfl (pc0 := 4) (pc' := 12) rfl (hb hby own_d_prog_50_method_10_4) rfl ((if0 _ _).trans (feq (by decide : ¬ ((1 : Int32) = (0 : Int32)))).2) (by decide) (by decide) (XS.aloadN X1.here hx rfl (hb hby own_d_prog_50_method_10_12) rfl rfl (XS.dup X1.here hx rfl (hb hby own_d_prog_50_method_10_13) rfl rfl k)))) ?_
  obtain ⟨T2, X2, e2, st2⟩ := getF X1 hx hZ hown (host := "") (Or.inl (hw _ (List.mem_of_getElem? (i := 57) rfl))) Via.refl e1 F_a_limit (g := (mkF m 14 #[.val (.ref a), .val (.long q1), .second] [(.ref a), (.ref a)])) rfl rfl (hb hby own_d_prog_50_method_10_14)
  refine OGo.st (T' := T2) (g' := (mkF m 17 #[.val (.ref a), .val (.long q1), .second] [(.long a_limit), (.ref a)])) (fun _ k => st2 _ k) ?_
  refine OGo.st (T' := T2) (g' := (mkF m 23 #[.val (.ref a), .val (.long q1), .second] [(.long (a_limit + ((2 : Int64) * q1))), (.ref a)])) (fun _ k => (X2.ldc2Long hx hown (mvT hZ (hw _ (List.mem_of_getElem? (i := 81) rfl))) (g := (mkF m 17 #[.val (.ref a), .val (.long q1), .second] [(.long a_limit), (.ref a)])) rfl (hb hby own_d_prog_50_method_10_17) _ (XS.lloadN X2.here hx rfl (hb hby own_d_prog_50_method_10_20) rfl (XS.lmul X2.here hx rfl (hb hby own_d_prog_50_method_10_21) rfl (XS.ladd X2.here hx rfl (hb hby own_d_prog_50_method_10_22) rfl k))))) ?_
  rw [show (a_limit + ((2 : Int64) * q1)) = ((a_limit + q1) + q1) from own_dbl _ _]
  obtain ⟨T3, h3, X3, e3, W3, st3⟩ := putF X2 hx hZ hown (host := "") (Or.inl (hw _ (List.mem_of_getElem? (i := 57) rfl))) Via.refl e2 F_a_limit E_a (Or.inl (hw _ (List.mem_of_getElem? (i := 58) rfl))) (hw _ (List.mem_of_getElem? (i := 5) rfl)) (ty := .long) (by decide) rfl rfl (g := (mkF m 23 #[.val (.ref a), .val (.long q1), .second] [(.long ((a_limit + q1) + q1)), (.ref a)])) rfl rfl (hb hby own_d_prog_50_method_10_23)
  have F_a_limit_3 : Fld Z h3 a "com/example/crisp_relay/crisprelay/session/RequestIds" "limit" "J" (.long ((a_limit + q1) + q1)) := F_a_limit.same W3
  have N3 := Fr.snoc X3 N0 g_a
  have E_a_3 : Exa Z h3 a "com/example/crisp_relay/crisprelay/session/RequestIds" := E_a.wr W3
  have F_a_next_3 : Fld Z h3 a "com/example/crisp_relay/crisprelay/session/RequestIds" "next" "J" (.long a_next) := F_a_next.other W3 (Or.inr (slot_ne (Or.inl (hw _ (List.mem_of_getElem? (i := 56) rfl))) (Or.inl (hw _ (List.mem_of_getElem? (i := 58) rfl))) (by decide) (t := .long) (t' := .long) (by decide) (by decide)))
  have F_a_ordered_3 : Fld Z h3 a "com/example/crisp_relay/crisprelay/session/RequestIds" "ordered" "Z" (.int (1 : Int32)) := F_a_ordered.other W3 (Or.inr (slot_ne (Or.inr (hw _ (List.mem_of_getElem? (i := 60) rfl))) (Or.inl (hw _ (List.mem_of_getElem? (i := 58) rfl))) (by decide) (t := .boolean) (t' := .long) (by decide) (by decide)))
  have Zn3 : n0 ≤ h3.size := Nat.le_trans Z0 (Nat.le_of_eq W3.size.symm)
  have K3 : Keep h0 h3 [a] := K0.wr W3 (Or.inl (List.mem_of_getElem? (i := 0) rfl))
  refine OGo.st (T' := T3) (g' := (mkF m 26 #[.val (.ref a), .val (.long q1), .second] [])) (fun _ k => st3 _ k) ?_
  refine OGo.st (T' := T3) (g' := (mkF m 27 #[.val (.ref a), .val (.long q1), .second] [(.ref a)])) (fun _ k => (XS.aloadN X3.here hx rfl (hb hby own_d_prog_50_method_10_26) rfl rfl k)) ?_
  obtain ⟨T4, X4, e4, st4⟩ := getF X3 hx hZ hown (host := "") (Or.inl (hw _ (List.mem_of_getElem? (i := 57) rfl))) Via.refl e3 F_a_limit_3 (g := (mkF m 27 #[.val (.ref a), .val (.long q1), .second] [(.ref a)])) rfl rfl (hb hby own_d_prog_50_method_10_27)
  refine OGo.st (T' := T4) (g' := (mkF m 30 #[.val (.ref a), .val (.long q1), .second] [(.long ((a_limit + q1) + q1))])) (fun _ k => st4 _ k) ?_
  exact OGo.ret X4 hx hlk Bd.returns rfl own_rJ (hb hby own_d_prog_50_method_10_30) (by decide) (by decide) e4 (⟨rfl, N3, K3, F_a_next_3, F_a_limit_3, F_a_ordered_3⟩)
theorem own_ef_rmAv (m : MethodId) (x0 : Addr) : entryFrame m #[(.ref x0)] 1 = mkF m 0 #[.val (.ref x0)] [] := by first | (simp [entryFrame, mkF, argsToLocals, Value.category]; done) | rfl
def R_rmAv : Room := { frames := 0, cells := 0, slots := 0, locals := 0 }
def Q_rmAv (Z : State) (a : Addr) (a_next : Int64) (a_limit : Int64) (h0 : Heap) (n0 : Nat) (v : Option Value) (h : Heap) (L : List Loc) : Prop := v = some (.int (own_ltJ a_next a_limit)) ∧ Fr n0 L ∧ h = h0
set_option maxRecDepth 65536 in
set_option maxHeartbeats 40000000 in
theorem rmAv (l : Launch) (Z : State) (a0 : Array Value) (hw : ∀ d ∈ tables_1, d.before a0 Z = true) (ws : List Jvm.Cond) (a : Addr) (a_next : Int64) (a_limit : Int64) (h0 : Heap) (n0 : Nat) (Z0 : n0 ≤ h0.size) (F_a_next : Fld Z h0 a "com/example/crisp_relay/crisprelay/session/RequestIds" "next" "J" (.long a_next)) (F_a_limit : Fld Z h0 a "com/example/crisp_relay/crisprelay/session/RequestIds" "limit" "J" (.long a_limit)) :
    MetFree l (⟨"com/example/crisp_relay/crisprelay/session/RequestIds", "available", "()Z"⟩ : MethodName) (head1 (Jvm.Cond.code (⟨"com/example/crisp_relay/crisprelay/session/RequestIds", "available", "()Z"⟩ : MethodName) prog_50_method_6_code 1 (some .boolean) :: ws) R_rmAv) (fun vs_ U => vs_ = #[(.ref a)] ∧ Z.Warmed39 U.vm ∧ U.heap = h0) (fun _ _ _ _ _ => True) (fun _ U o U' => ∃ v L, o = .returned v ∧ Q_rmAv Z a a_next a_limit h0 n0 v U'.heap L ∧ FrameEnd U o U' L R_rmAv.cells R_rmAv.slots) := by
  refine MetFree.of_bodySF (plainFor_of_name own_pn0) hisR ?_
  intro p e s m args below meth c s₁ Bd hml0 hP hK
  obtain ⟨rfl, hZ, hh⟩ := hP
  have hx := Bd.exec
  have hby := Bd.bytes
  have hml : c.maxLocals = 1 := hml0
  have hown : s.vm.findClass "com/example/crisp_relay/crisprelay/session/RequestIds" = some m.cls := findClass_of_methodNamed Bd.named
  have hnm := (name_of_methodNamed Bd.named Bd.method).1
  have hlk : meth.locks = false := BodyLoose.notSynchronized Bd
  have X0 : Stand p l e R_rmAv s m #[(.ref a)] below meth c s₁ [] 0 0 := Stand.of_body Bd
  have e0 : s₁.heap = h0 := by rw [← hh, Bd.state]; rfl
  have N0 := Fr.nil n0
  refine OGo.en (Q := Q_rmAv Z a a_next a_limit h0 n0) (C := R_rmAv.cells) (S := R_rmAv.slots) (own_ef_rmAv m a) ?_
  refine OGo.st (T' := s₁) (g' := (mkF m 1 #[.val (.ref a)] [(.ref a)])) (fun _ k => (XS.aloadN X0.here hx rfl (hb hby own_d_prog_50_method_6_0) rfl rfl k)) ?_
  obtain ⟨T1, X1, e1, st1⟩ := getF X0 hx hZ hown (host := "") (Or.inl (hw _ (List.mem_of_getElem? (i := 55) rfl))) Via.refl e0 F_a_next (g := (mkF m 1 #[.val (.ref a)] [(.ref a)])) rfl rfl (hb hby own_d_prog_50_method_6_1)
  refine OGo.st (T' := T1) (g' := (mkF m 4 #[.val (.ref a)] [(.long a_next)])) (fun _ k => st1 _ k) ?_
  refine OGo.st (T' := T1) (g' := (mkF m 5 #[.val (.ref a)] [(.ref a), (.long a_next)])) (fun _ k => (XS.aloadN X1.here hx rfl (hb hby own_d_prog_50_method_6_4) rfl rfl k)) ?_
  obtain ⟨T2, X2, e2, st2⟩ := getF X1 hx hZ hown (host := "") (Or.inl (hw _ (List.mem_of_getElem? (i := 57) rfl))) Via.refl e1 F_a_limit (g := (mkF m 5 #[.val (.ref a)] [(.ref a), (.long a_next)])) rfl rfl (hb hby own_d_prog_50_method_6_5)
  refine OGo.st (T' := T2) (g' := (mkF m 8 #[.val (.ref a)] [(.long a_limit), (.long a_next)])) (fun _ k => st2 _ k) ?_
  refine OGo.st (T' := T2) (g' := (mkF m 9 #[.val (.ref a)] [(.int (lcmpW a_next a_limit))])) (fun _ k => (XS.lcmp X2.here hx rfl (hb hby own_d_prog_50_method_6_8) rfl k)) ?_
  by_cases hc3 : a_next < a_limit
  · refine OGo.st (T' := T2) (g' := (mkF m 17 #[.val (.ref a)] [(.int (1 : Int32))])) (fun _ k => (XS.ifNo X2.here hx rfl (hb hby own_d_prog_50_method_6_9) rfl ((if0 _ _).trans (tlt ((lw_lt a_next a_limit).mpr hc3)).2.1) (XS.iconst X2.here hx rfl (hb hby own_d_prog_50_method_6_12) (XS.goto X2.here hx rfl (pc0 := 13) (pc' := 17) rfl (hb hby own_d_prog_50_method_6_13) (by decide) (by decide) k)))) ?_
    exact OGo.ret X2 hx hlk Bd.returns rfl (own_rI (Or.inr (Or.inl rfl))) (hb hby own_d_prog_50_method_6_17) (by decide) (by decide) e2 (⟨congrArg (fun z => some (Value.int z)) (own_ltJ_1 hc3).symm, N0, rfl⟩)
  · refine OGo.st (T' := T2) (g' := (mkF m 17 #[.val (.ref a)] [(.int (0 : Int32))])) (fun _ k => (XS.ifYes X2.here hx rfl (pc0 := 9) (pc' := 16) rfl (hb hby own_d_prog_50_method_6_9) rfl ((if0 _ _).trans (flt (fun q => (hc3) ((lw_lt a_next a_limit).mp q))).2.1) (by decide) (by decide) (XS.iconst X2.here hx rfl (hb hby own_d_prog_50_method_6_16) k))) ?_
    exact OGo.ret X2 hx hlk Bd.returns rfl (own_rI (Or.inr (Or.inl rfl))) (hb hby own_d_prog_50_method_6_17) (by decide) (by decide) e2 (⟨congrArg (fun z => some (Value.int z)) (own_ltJ_0 hc3).symm, N0, rfl⟩)
theorem own_ef_rmL (m : MethodId) (x0 : Addr) : entryFrame m #[(.ref x0)] 1 = mkF m 0 #[.val (.ref x0)] [] := by first | (simp [entryFrame, mkF, argsToLocals, Value.category]; done) | rfl
def R_rmL : Room := { frames := 0, cells := 0, slots := 0, locals := 0 }
def Q_rmL (Z : State) (a : Addr) (a_limit : Int64) (h0 : Heap) (n0 : Nat) (v : Option Value) (h : Heap) (L : List Loc) : Prop := v = some (.long a_limit) ∧ Fr n0 L ∧ h = h0
set_option maxRecDepth 65536 in
set_option maxHeartbeats 40000000 in
theorem rmL (l : Launch) (Z : State) (a0 : Array Value) (hw : ∀ d ∈ tables_1, d.before a0 Z = true) (ws : List Jvm.Cond) (a : Addr) (a_limit : Int64) (h0 : Heap) (n0 : Nat) (Z0 : n0 ≤ h0.size) (F_a_limit : Fld Z h0 a "com/example/crisp_relay/crisprelay/session/RequestIds" "limit" "J" (.long a_limit)) :
    MetFree l (⟨"com/example/crisp_relay/crisprelay/session/RequestIds", "limit", "()J"⟩ : MethodName) (head1 (Jvm.Cond.code (⟨"com/example/crisp_relay/crisprelay/session/RequestIds", "limit", "()J"⟩ : MethodName) prog_50_method_5_code 1 (some .long) :: ws) R_rmL) (fun vs_ U => vs_ = #[(.ref a)] ∧ Z.Warmed39 U.vm ∧ U.heap = h0) (fun _ _ _ _ _ => True) (fun _ U o U' => ∃ v L, o = .returned v ∧ Q_rmL Z a a_limit h0 n0 v U'.heap L ∧ FrameEnd U o U' L R_rmL.cells R_rmL.slots) := by
  refine MetFree.of_bodySF (plainFor_of_name own_pn0) hisR ?_
  intro p e s m args below meth c s₁ Bd hml0 hP hK
  obtain ⟨rfl, hZ, hh⟩ := hP
  have hx := Bd.exec
  have hby := Bd.bytes
  have hml : c.maxLocals = 1 := hml0
  have hown : s.vm.findClass "com/example/crisp_relay/crisprelay/session/RequestIds" = some m.cls := findClass_of_methodNamed Bd.named
  have hnm := (name_of_methodNamed Bd.named Bd.method).1
  have hlk : meth.locks = false := BodyLoose.notSynchronized Bd
  have X0 : Stand p l e R_rmL s m #[(.ref a)] below meth c s₁ [] 0 0 := Stand.of_body Bd
  have e0 : s₁.heap = h0 := by rw [← hh, Bd.state]; rfl
  have N0 := Fr.nil n0
  refine OGo.en (Q := Q_rmL Z a a_limit h0 n0) (C := R_rmL.cells) (S := R_rmL.slots) (own_ef_rmL m a) ?_
  refine OGo.st (T' := s₁) (g' := (mkF m 1 #[.val (.ref a)] [(.ref a)])) (fun _ k => (XS.aloadN X0.here hx rfl (hb hby own_d_prog_50_method_5_0) rfl rfl k)) ?_
  obtain ⟨T1, X1, e1, st1⟩ := getF X0 hx hZ hown (host := "") (Or.inl (hw _ (List.mem_of_getElem? (i := 57) rfl))) Via.refl e0 F_a_limit (g := (mkF m 1 #[.val (.ref a)] [(.ref a)])) rfl rfl (hb hby own_d_prog_50_method_5_1)
  refine OGo.st (T' := T1) (g' := (mkF m 4 #[.val (.ref a)] [(.long a_limit)])) (fun _ k => st1 _ k) ?_
  exact OGo.ret X1 hx hlk Bd.returns rfl own_rJ (hb hby own_d_prog_50_method_5_4) (by decide) (by decide) e1 (⟨rfl, N0, rfl⟩)
theorem own_ef_rmN (m : MethodId) (x0 : Addr) : entryFrame m #[(.ref x0)] 1 = mkF m 0 #[.val (.ref x0)] [] := by first | (simp [entryFrame, mkF, argsToLocals, Value.category]; done) | rfl
def R_rmN : Room := { frames := 0, cells := 0, slots := 0, locals := 0 }
def Q_rmN (Z : State) (a : Addr) (a_next : Int64) (h0 : Heap) (n0 : Nat) (v : Option Value) (h : Heap) (L : List Loc) : Prop := v = some (.long a_next) ∧ Fr n0 L ∧ h = h0
set_option maxRecDepth 65536 in
set_option maxHeartbeats 40000000 in
theorem rmN (l : Launch) (Z : State) (a0 : Array Value) (hw : ∀ d ∈ tables_1, d.before a0 Z = true) (ws : List Jvm.Cond) (a : Addr) (a_next : Int64) (h0 : Heap) (n0 : Nat) (Z0 : n0 ≤ h0.size) (F_a_next : Fld Z h0 a "com/example/crisp_relay/crisprelay/session/RequestIds" "next" "J" (.long a_next)) :
    MetFree l (⟨"com/example/crisp_relay/crisprelay/session/RequestIds", "next", "()J"⟩ : MethodName) (head1 (Jvm.Cond.code (⟨"com/example/crisp_relay/crisprelay/session/RequestIds", "next", "()J"⟩ : MethodName) prog_50_method_4_code 1 (some .long) :: ws) R_rmN) (fun vs_ U => vs_ = #[(.ref a)] ∧ Z.Warmed39 U.vm ∧ U.heap = h0) (fun _ _ _ _ _ => True) (fun _ U o U' => ∃ v L, o = .returned v ∧ Q_rmN Z a a_next h0 n0 v U'.heap L ∧ FrameEnd U o U' L R_rmN.cells R_rmN.slots) := by
  refine MetFree.of_bodySF (plainFor_of_name own_pn0) hisR ?_
  intro p e s m args below meth c s₁ Bd hml0 hP hK
  obtain ⟨rfl, hZ, hh⟩ := hP
  have hx := Bd.exec
  have hby := Bd.bytes
  have hml : c.maxLocals = 1 := hml0
  have hown : s.vm.findClass "com/example/crisp_relay/crisprelay/session/RequestIds" = some m.cls := findClass_of_methodNamed Bd.named
  have hnm := (name_of_methodNamed Bd.named Bd.method).1
  have hlk : meth.locks = false := BodyLoose.notSynchronized Bd
  have X0 : Stand p l e R_rmN s m #[(.ref a)] below meth c s₁ [] 0 0 := Stand.of_body Bd
  have e0 : s₁.heap = h0 := by rw [← hh, Bd.state]; rfl
  have N0 := Fr.nil n0
  refine OGo.en (Q := Q_rmN Z a a_next h0 n0) (C := R_rmN.cells) (S := R_rmN.slots) (own_ef_rmN m a) ?_
  refine OGo.st (T' := s₁) (g' := (mkF m 1 #[.val (.ref a)] [(.ref a)])) (fun _ k => (XS.aloadN X0.here hx rfl (hb hby own_d_prog_50_method_4_0) rfl rfl k)) ?_
  obtain ⟨T1, X1, e1, st1⟩ := getF X0 hx hZ hown (host := "") (Or.inl (hw _ (List.mem_of_getElem? (i := 55) rfl))) Via.refl e0 F_a_next (g := (mkF m 1 #[.val (.ref a)] [(.ref a)])) rfl rfl (hb hby own_d_prog_50_method_4_1)
  refine OGo.st (T' := T1) (g' := (mkF m 4 #[.val (.ref a)] [(.long a_next)])) (fun _ k => st1 _ k) ?_
  exact OGo.ret X1 hx hlk Bd.returns rfl own_rJ (hb hby own_d_prog_50_method_4_4) (by decide) (by decide) e1 (⟨rfl, N0, rfl⟩)
theorem own_ef_rm0 (m : MethodId) (x0 : Int64) (x1 : Int64) (x2 : Int64) (x3 : Int64) (x4 : Int32) : entryFrame m #[(.long x0), (.long x1), (.long x2), (.long x3), (.int x4)] maxLocals = mkF m 0 #[.val (.long x0), .second, .val (.long x1), .second, .val (.long x2), .second, .val (.long x3), .second, .val (.int x4), .unset, .unset, .unset, .unset, .unset, .unset, .unset, .unset, .unset, .unset, .unset] [] := by first | (simp [entryFrame, mkF, argsToLocals, Value.category, maxLocals]; done) | rfl
def Q_rm0 (Z : State) (p0 : Int64) (p1 : Int64) (p2 : Int64) (p3 : Int64) (p4 : Int32) (h0 : Heap) (n0 : Nat) (v : Option Value) (h : Heap) (L : List Loc) : Prop := v = some (.int 1) ∧ Fr n0 L
set_option maxRecDepth 65536 in
set_option maxHeartbeats 40000000 in
theorem rm0 (l : Launch) (Z : State) (a0 : Array Value) (hw : ∀ d ∈ tables_1, d.before a0 Z = true) (ws : List Jvm.Cond) (p0 : Int64) (p1 : Int64) (p2 : Int64) (p3 : Int64) (p4 : Int32) (h0 : Heap) (n0 : Nat) (Z0 : n0 ≤ h0.size) :
    MetFree l x (head1 (Jvm.Cond.code x code maxLocals ret :: ws) room_1) (fun vs_ U => vs_ = #[(.long p0), (.long p1), (.long p2), (.long p3), (.int p4)] ∧ Z.Warmed39 U.vm ∧ U.heap = h0) (fun _ _ _ _ _ => True) (fun _ U o U' => ∃ v L, o = .returned v ∧ Q_rm0 Z p0 p1 p2 p3 p4 h0 n0 v U'.heap L ∧ FrameEnd U o U' L 16 128) := by
  refine MetFree.of_bodySF (plainFor_of_name own_pn1) hisR ?_
  intro p e s m args below meth c s₁ Bd hml0 hP hK
  obtain ⟨rfl, hZ, hh⟩ := hP
  have hx := Bd.exec
  have hby := Bd.bytes
  have hml : c.maxLocals = 20 := hml0
  have hown : s.vm.findClass "com/example/crisp_relay/crisprelay/session/RequestIdsGrantPinLaw" = some m.cls := findClass_of_methodNamed Bd.named
  have hnm := (name_of_methodNamed Bd.named Bd.method).1
  have hlk : meth.locks = false := BodyLoose.notSynchronized Bd
  have X0 : Stand p l e room_1 s m #[(.long p0), (.long p1), (.long p2), (.long p3), (.int p4)] below meth c s₁ [] 0 0 := Stand.of_body Bd
  have e0 : s₁.heap = h0 := by rw [← hh, Bd.state]; rfl
  have N0 := Fr.nil n0
  refine OGo.en (Q := Q_rm0 Z p0 p1 p2 p3 p4 h0 n0) (C := 16) (S := 128) (own_ef_rm0 m p0 p1 p2 p3 p4) ?_
  refine OGo.st (T' := s₁) (g' := (mkF m 4 #[.val (.long p0), .second, .val (.long p1), .second, .val (.long p2), .second, .val (.long p3), .second, .val (.int p4), .unset, .unset, .unset, .unset, .unset, .unset, .unset, .unset, .unset, .unset, .unset] [(.int (p4 &&& (1 : Int32)))])) (fun _ k => (XS.iload X0.here hx rfl (hb hby at_0) rfl (XS.iconst X0.here hx rfl (hb hby at_2) (XS.iand X0.here hx rfl (hb hby at_3) rfl k)))) ?_
  by_cases hc1 : (p4 &&& (1 : Int32)) = (0 : Int32)
  · refine OGo.st (T' := s₁) (g' := (mkF m 59 #[.val (.long p0), .second, .val (.long p1), .second, .val (.long p2), .second, .val (.long p3), .second, .val (.int p4), .unset, .unset, .unset, .unset, .unset, .unset, .unset, .unset, .unset, .unset, .unset] [])) (fun _ k => (XS.ifYes X0.here hx rfl (pc0 := 4) (pc' := 59) rfl (hb hby at_4) rfl ((if0 _ _).trans (teq hc1).1) (by decide) (by decide) k)) ?_
    obtain ⟨T2, h2, X2, e2, E2, A2, D2, -, st2⟩ := newO X0 hx hZ hown (hw _ (List.mem_of_getElem? (i := 77) rfl)) (hw _ (List.mem_of_getElem? (i := 5) rfl)) (hw _ (List.mem_of_getElem? (i := 2) rfl)) e0 (g := (mkF m 59 #[.val (.long p0), .second, .val (.long p1), .second, .val (.long p2), .second, .val (.long p3), .second, .val (.int p4), .unset, .unset, .unset, .unset, .unset, .unset, .unset, .unset, .unset, .unset, .unset] [])) rfl (hb hby at_59) (by decide) (by decide)
    obtain ⟨b2, g2⟩ : ∃ z, z = h0.size := ⟨_, rfl⟩
    rw [← g2] at A2 D2 st2
    have g_b2 : n0 ≤ b2 := Nat.le_trans Z0 (Nat.le_of_eq g2.symm)
    have F_taken_b2_2 : Fld Z h2 b2 "com/example/crisp_relay/crisprelay/session/RequestIds" "taken" "Ljava/util/Set;" .null := D2 (Or.inr (hw _ (List.mem_of_getElem? (i := 52) rfl))) (ty := (.object "java/util/Set")) (by decide)
    have F_first_b2_2 : Fld Z h2 b2 "com/example/crisp_relay/crisprelay/session/RequestIds" "first" "J" (.long (0 : Int64)) := D2 (Or.inr (hw _ (List.mem_of_getElem? (i := 54) rfl))) (ty := .long) (by decide)
    have F_next_b2_2 : Fld Z h2 b2 "com/example/crisp_relay/crisprelay/session/RequestIds" "next" "J" (.long (0 : Int64)) := D2 (Or.inl (hw _ (List.mem_of_getElem? (i := 56) rfl))) (ty := .long) (by decide)
    have F_limit_b2_2 : Fld Z h2 b2 "com/example/crisp_relay/crisprelay/session/RequestIds" "limit" "J" (.long (0 : Int64)) := D2 (Or.inl (hw _ (List.mem_of_getElem? (i := 58) rfl))) (ty := .long) (by decide)
    have F_ordered_b2_2 : Fld Z h2 b2 "com/example/crisp_relay/crisprelay/session/RequestIds" "ordered" "Z" (.int (0 : Int32)) := D2 (Or.inr (hw _ (List.mem_of_getElem? (i := 60) rfl))) (ty := .boolean) (by decide)
    have Zn2 : n0 ≤ h2.size := Nat.le_trans Z0 E2.1
    have X2 : Stand p l e room_1 s m _ below meth c T2 _ 1 5 := X2
    refine OGo.st (T' := T2) (g' := (mkF m 62 #[.val (.long p0), .second, .val (.long p1), .second, .val (.long p2), .second, .val (.long p3), .second, .val (.int p4), .unset, .unset, .unset, .unset, .unset, .unset, .unset, .unset, .unset, .unset, .unset] [(.ref b2)])) (fun _ k => st2 _ k) ?_
    refine OGo.st (T' := T2) (g' := (mkF m 65 #[.val (.long p0), .second, .val (.long p1), .second, .val (.long p2), .second, .val (.long p3), .second, .val (.int p4), .unset, .unset, .unset, .unset, .unset, .unset, .unset, .unset, .unset, .unset, .unset] [(.long p1), (.long p0), (.ref b2), (.ref b2)])) (fun _ k => (XS.dup X2.here hx rfl (hb hby at_62) rfl rfl (XS.lloadN X2.here hx rfl (hb hby at_63) rfl (XS.lloadN X2.here hx rfl (hb hby at_64) rfl k)))) ?_
    obtain ⟨_, _, ⟨T3, L3, k3, n3⟩, -, X3, ⟨Lc3, hQ3, l3, y3, z3⟩, st3⟩ := X2.specialBack hx (y := (⟨"com/example/crisp_relay/crisprelay/session/RequestIds", "<init>", "(JJ)V"⟩ : MethodName)) rfl hown (mvT hZ (hw _ (List.mem_of_getElem? (i := 78) rfl))) (mvT hZ (hw _ (List.mem_of_getElem? (i := 79) rfl))) (mvT hZ (hw _ (List.mem_of_getElem? (i := 80) rfl))) (by decide) (backOf (W := 1) (rmJ l Z a0 hw [] (b2) (.null) ((0 : Int64)) ((0 : Int64)) ((0 : Int64)) ((0 : Int32)) (p0) (p1) h2 n0 Zn2 (A2) (F_taken_b2_2) (F_first_b2_2) (F_next_b2_2) (F_limit_b2_2) (F_ordered_b2_2) (g_b2)) hZ (hw _ (List.mem_of_getElem? (i := 80) rfl)) (hw _ (List.mem_of_getElem? (i := 2) rfl)) (by decide) (by decide)) (g := (mkF m 65 #[.val (.long p0), .second, .val (.long p1), .second, .val (.long p2), .second, .val (.long p3), .second, .val (.int p4), .unset, .unset, .unset, .unset, .unset, .unset, .unset, .unset, .unset, .unset, .unset] [(.long p1), (.long p0), (.ref b2), (.ref b2)])) rfl (by rw [hml]; rfl) (Steps.refl _) (a := b2) (argsL := [(.long p0), (.long p1)]) (rest := [(.ref b2)]) (lenOf own_pd5 rfl) rfl (by show 2 * 0 + _ ≤ _; exact Nat.le_of_eq rfl) (hb hby at_65) (fun _ _ => ⟨rfl, e2, (by decide : 1 + 2 ≤ _), (by decide : 5 + 9 ≤ _)⟩)
    dsimp only [Pt.U, Pt.locs, Pt.cells, Pt.slots] at X3 l3 y3 z3 st3 hQ3
    subst l3 y3 z3
    have X3 : Stand p l e room_1 s m _ below meth c T3 _ 3 14 := X3
    obtain ⟨h3, e3⟩ : ∃ z, T3.heap = z := ⟨_, rfl⟩
    rw [e3] at hQ3
    obtain ⟨rfl, Nq3, Kc3, G3x0, G3x1, G3x2, G3x3⟩ := hQ3
    have N3 := Fr.app N0 Nq3
    have A2_3 : Exa Z h3 b2 "com/example/crisp_relay/crisprelay/session/RequestIds" := A2.keep Kc3
    have Zn3 : n0 ≤ h3.size := Nat.le_trans Zn2 Kc3.1
    refine OGo.st (T' := T3) (g' := (mkF m 68 #[.val (.long p0), .second, .val (.long p1), .second, .val (.long p2), .second, .val (.long p3), .second, .val (.int p4), .unset, .unset, .unset, .unset, .unset, .unset, .unset, .unset, .unset, .unset, .unset] [(.ref b2)])) (fun _ k => st3.trans k) ?_
    refine OGo.st (T' := T3) (g' := (mkF m 74 #[.val (.long p0), .second, .val (.long p1), .second, .val (.long p2), .second, .val (.long p3), .second, .val (.int p4), .val (.ref b2), .unset, .unset, .unset, .unset, .unset, .unset, .unset, .unset, .unset, .unset] [(.long p2), (.ref b2)])) (fun _ k => (XS.astore X3.here hx rfl (hb hby at_68) rfl rfl (l' := #[.val (.long p0), .second, .val (.long p1), .second, .val (.long p2), .second, .val (.long p3), .second, .val (.int p4), .val (.ref b2), .unset, .unset, .unset, .unset, .unset, .unset, .unset, .unset, .unset, .unset]) rfl (XS.aload X3.here hx rfl (hb hby at_70) rfl rfl (XS.lload X3.here hx rfl (hb hby at_72) rfl k)))) ?_
    obtain ⟨cq4, kq4, q4a, q4b, q4c⟩ := isOf hZ e3 A2_3
    obtain ⟨_, _, ⟨T4, L4, k4, n4⟩, -, X4, ⟨Lc4, hQ4, l4, y4, z4⟩, st4⟩ := X3.virtualBack hx (y := (⟨"com/example/crisp_relay/crisprelay/session/RequestIds", "grant", "(J)J"⟩ : MethodName)) (z := (⟨"com/example/crisp_relay/crisprelay/session/RequestIds", "grant", "(J)J"⟩ : MethodName)) hown (mvT hZ (hw _ (List.mem_of_getElem? (i := 61) rfl))) (mvT hZ (hw _ (List.mem_of_getElem? (i := 62) rfl))) (notFace_of_selects (args := #[]) (mvT hZ (hw _ (List.mem_of_getElem? (i := 64) rfl)))) (mvT hZ (hw _ (List.mem_of_getElem? (i := 64) rfl))) (mvT hZ (hw _ (List.mem_of_getElem? (i := 63) rfl))) (by decide) (backOf (W := 0) (rmG1 l Z a0 hw [] (b2) (p0) (p1) (p2) h3 n0 Zn3 (A2_3) (G3x1) (G3x2) (G3x3) (g_b2)) hZ (hw _ (List.mem_of_getElem? (i := 65) rfl)) (hw _ (List.mem_of_getElem? (i := 2) rfl)) (by decide) (by decide)) q4a q4c (g := (mkF m 74 #[.val (.long p0), .second, .val (.long p1), .second, .val (.long p2), .second, .val (.long p3), .second, .val (.int p4), .val (.ref b2), .unset, .unset, .unset, .unset, .unset, .unset, .unset, .unset, .unset, .unset] [(.long p2), (.ref b2)])) rfl (by rw [hml]; rfl) (Steps.refl _) (argsL := [(.long p2)]) (rest := []) (lenOf own_pd3 rfl) rfl (by show 2 * 0 + _ ≤ _; exact Nat.le_of_eq rfl) (hb hby at_74) (fun _ _ => ⟨rfl, e3, (by decide : 3 + 0 ≤ _), (by decide : 14 + 0 ≤ _)⟩)
    dsimp only [Pt.U, Pt.locs, Pt.cells, Pt.slots] at X4 l4 y4 z4 st4 hQ4
    subst l4 y4 z4
    have X4 : Stand p l e room_1 s m _ below meth c T4 _ 3 14 := X4
    obtain ⟨h4, e4⟩ : ∃ z, T4.heap = z := ⟨_, rfl⟩
    rw [e4] at hQ4
    obtain ⟨rfl, Nq4, Kc4, G4x0, G4x1, G4x2⟩ := hQ4
    have N4 := Fr.app N3 Nq4
    have A2_4 : Exa Z h4 b2 "com/example/crisp_relay/crisprelay/session/RequestIds" := A2_3.keep Kc4
    have Zn4 : n0 ≤ h4.size := Nat.le_trans Zn3 Kc4.1
    refine OGo.st (T' := T4) (g' := (mkF m 77 #[.val (.long p0), .second, .val (.long p1), .second, .val (.long p2), .second, .val (.long p3), .second, .val (.int p4), .val (.ref b2), .unset, .unset, .unset, .unset, .unset, .unset, .unset, .unset, .unset, .unset] [(.long ((p1 + p2) + p2))])) (fun _ k => st4.trans k) ?_
    refine OGo.st (T' := T4) (g' := (mkF m 81 #[.val (.long p0), .second, .val (.long p1), .second, .val (.long p2), .second, .val (.long p3), .second, .val (.int p4), .val (.ref b2), .val (.long ((p1 + p2) + p2)), .second, .unset, .unset, .unset, .unset, .unset, .unset, .unset, .unset] [(.ref b2)])) (fun _ k => (XS.lstore X4.here hx rfl (hb hby at_77) rfl (l' := #[.val (.long p0), .second, .val (.long p1), .second, .val (.long p2), .second, .val (.long p3), .second, .val (.int p4), .val (.ref b2), .val (.long ((p1 + p2) + p2)), .second, .unset, .unset, .unset, .unset, .unset, .unset, .unset, .unset]) rfl (XS.aload X4.here hx rfl (hb hby at_79) rfl rfl k))) ?_
    obtain ⟨cq5, kq5, q5a, q5b, q5c⟩ := isOf hZ e4 A2_4
    obtain ⟨_, _, ⟨T5, L5, k5, n5⟩, -, X5, ⟨Lc5, hQ5, l5, y5, z5⟩, st5⟩ := X4.virtualBack hx (y := (⟨"com/example/crisp_relay/crisprelay/session/RequestIds", "limit", "()J"⟩ : MethodName)) (z := (⟨"com/example/crisp_relay/crisprelay/session/RequestIds", "limit", "()J"⟩ : MethodName)) hown (mvT hZ (hw _ (List.mem_of_getElem? (i := 67) rfl))) (mvT hZ (hw _ (List.mem_of_getElem? (i := 68) rfl))) (notFace_of_selects (args := #[]) (mvT hZ (hw _ (List.mem_of_getElem? (i := 70) rfl)))) (mvT hZ (hw _ (List.mem_of_getElem? (i := 70) rfl))) (mvT hZ (hw _ (List.mem_of_getElem? (i := 69) rfl))) (by decide) (backOf (W := 0) (rmL l Z a0 hw [] (b2) (((p1 + p2) + p2)) h4 n0 Zn4 (G4x1)) hZ (hw _ (List.mem_of_getElem? (i := 71) rfl)) (hw _ (List.mem_of_getElem? (i := 2) rfl)) (by decide) (by decide)) q5a q5c (g := (mkF m 81 #[.val (.long p0), .second, .val (.long p1), .second, .val (.long p2), .second, .val (.long p3), .second, .val (.int p4), .val (.ref b2), .val (.long ((p1 + p2) + p2)), .second, .unset, .unset, .unset, .unset, .unset, .unset, .unset, .unset] [(.ref b2)])) rfl (by rw [hml]; rfl) (Steps.refl _) (argsL := []) (rest := []) (lenOf own_pd0 rfl) rfl (by show 2 * 0 + _ ≤ _; exact Nat.le_of_eq rfl) (hb hby at_81) (fun _ _ => ⟨rfl, e4, (by decide : 3 + 0 ≤ _), (by decide : 14 + 0 ≤ _)⟩)
    dsimp only [Pt.U, Pt.locs, Pt.cells, Pt.slots] at X5 l5 y5 z5 st5 hQ5
    subst l5 y5 z5
    have X5 : Stand p l e room_1 s m _ below meth c T5 _ 3 14 := X5
    obtain ⟨rfl, Nq5, e5⟩ := hQ5
    have N5 := Fr.app N4 Nq5
    refine OGo.st (T' := T5) (g' := (mkF m 84 #[.val (.long p0), .second, .val (.long p1), .second, .val (.long p2), .second, .val (.long p3), .second, .val (.int p4), .val (.ref b2), .val (.long ((p1 + p2) + p2)), .second, .unset, .unset, .unset, .unset, .unset, .unset, .unset, .unset] [(.long ((p1 + p2) + p2))])) (fun _ k => st5.trans k) ?_
    refine OGo.st (T' := T5) (g' := (mkF m 90 #[.val (.long p0), .second, .val (.long p1), .second, .val (.long p2), .second, .val (.long p3), .second, .val (.int p4), .val (.ref b2), .val (.long ((p1 + p2) + p2)), .second, .val (.long ((p1 + p2) + p2)), .second, .unset, .unset, .unset, .unset, .unset, .unset] [(.long p3), (.ref b2)])) (fun _ k => (XS.lstore X5.here hx rfl (hb hby at_84) rfl (l' := #[.val (.long p0), .second, .val (.long p1), .second, .val (.long p2), .second, .val (.long p3), .second, .val (.int p4), .val (.ref b2), .val (.long ((p1 + p2) + p2)), .second, .val (.long ((p1 + p2) + p2)), .second, .unset, .unset, .unset, .unset, .unset, .unset]) rfl (XS.aload X5.here hx rfl (hb hby at_86) rfl rfl (XS.lload X5.here hx rfl (hb hby at_88) rfl k)))) ?_
    obtain ⟨cq6, kq6, q6a, q6b, q6c⟩ := isOf hZ e5 A2_4
    obtain ⟨_, _, ⟨T6, L6, k6, n6⟩, -, X6, ⟨Lc6, hQ6, l6, y6, z6⟩, st6⟩ := X5.virtualBack hx (y := (⟨"com/example/crisp_relay/crisprelay/session/RequestIds", "grant", "(J)J"⟩ : MethodName)) (z := (⟨"com/example/crisp_relay/crisprelay/session/RequestIds", "grant", "(J)J"⟩ : MethodName)) hown (mvT hZ (hw _ (List.mem_of_getElem? (i := 61) rfl))) (mvT hZ (hw _ (List.mem_of_getElem? (i := 62) rfl))) (notFace_of_selects (args := #[]) (mvT hZ (hw _ (List.mem_of_getElem? (i := 64) rfl)))) (mvT hZ (hw _ (List.mem_of_getElem? (i := 64) rfl))) (mvT hZ (hw _ (List.mem_of_getElem? (i := 63) rfl))) (by decide) (backOf (W := 0) (rmG1 l Z a0 hw [] (b2) (p0) (((p1 + p2) + p2)) (p3) h4 n0 Zn4 (A2_4) (G4x0) (G4x1) (G4x2) (g_b2)) hZ (hw _ (List.mem_of_getElem? (i := 65) rfl)) (hw _ (List.mem_of_getElem? (i := 2) rfl)) (by decide) (by decide)) q6a q6c (g := (mkF m 90 #[.val (.long p0), .second, .val (.long p1), .second, .val (.long p2), .second, .val (.long p3), .second, .val (.int p4), .val (.ref b2), .val (.long ((p1 + p2) + p2)), .second, .val (.long ((p1 + p2) + p2)), .second, .unset, .unset, .unset, .unset, .unset, .unset] [(.long p3), (.ref b2)])) rfl (by rw [hml]; rfl) (Steps.refl _) (argsL := [(.long p3)]) (rest := []) (lenOf own_pd3 rfl) rfl (by show 2 * 0 + _ ≤ _; exact Nat.le_of_eq rfl) (hb hby at_90) (fun _ _ => ⟨rfl, e5, (by decide : 3 + 0 ≤ _), (by decide : 14 + 0 ≤ _)⟩)
    dsimp only [Pt.U, Pt.locs, Pt.cells, Pt.slots] at X6 l6 y6 z6 st6 hQ6
    subst l6 y6 z6
    have X6 : Stand p l e room_1 s m _ below meth c T6 _ 3 14 := X6
    obtain ⟨h6, e6⟩ : ∃ z, T6.heap = z := ⟨_, rfl⟩
    rw [e6] at hQ6
    obtain ⟨rfl, Nq6, Kc6, G6x0, G6x1, G6x2⟩ := hQ6
    have N6 := Fr.app N5 Nq6
    have A2_6 : Exa Z h6 b2 "com/example/crisp_relay/crisprelay/session/RequestIds" := A2_4.keep Kc6
    have Zn6 : n0 ≤ h6.size := Nat.le_trans Zn4 Kc6.1
    refine OGo.st (T' := T6) (g' := (mkF m 93 #[.val (.long p0), .second, .val (.long p1), .second, .val (.long p2), .second, .val (.long p3), .second, .val (.int p4), .val (.ref b2), .val (.long ((p1 + p2) + p2)), .second, .val (.long ((p1 + p2) + p2)), .second, .unset, .unset, .unset, .unset, .unset, .unset] [(.long ((((p1 + p2) + p2) + p3) + p3))])) (fun _ k => st6.trans k) ?_
    refine OGo.st (T' := T6) (g' := (mkF m 102 #[.val (.long p0), .second, .val (.long p1), .second, .val (.long p2), .second, .val (.long p3), .second, .val (.int p4), .val (.ref b2), .val (.long ((p1 + p2) + p2)), .second, .val (.long ((p1 + p2) + p2)), .second, .val (.long ((((p1 + p2) + p2) + p3) + p3)), .second, .unset, .unset, .unset, .unset] [(.long ((p1 + p2) + p2))])) (fun _ k => (XS.lstore X6.here hx rfl (hb hby at_93) rfl (l' := #[.val (.long p0), .second, .val (.long p1), .second, .val (.long p2), .second, .val (.long p3), .second, .val (.int p4), .val (.ref b2), .val (.long ((p1 + p2) + p2)), .second, .val (.long ((p1 + p2) + p2)), .second, .val (.long ((((p1 + p2) + p2) + p3) + p3)), .second, .unset, .unset, .unset, .unset]) rfl (XS.lloadN X6.here hx rfl (hb hby at_95) rfl (XS.lload X6.here hx rfl (hb hby at_96) rfl (XS.ladd X6.here hx rfl (hb hby at_98) rfl (XS.lload X6.here hx rfl (hb hby at_99) rfl (XS.ladd X6.here hx rfl (hb hby at_101) rfl k))))))) ?_
    refine OGo.st (T' := T6) (g' := (mkF m 112 #[.val (.long p0), .second, .val (.long p1), .second, .val (.long p2), .second, .val (.long p3), .second, .val (.int p4), .val (.ref b2), .val (.long ((p1 + p2) + p2)), .second, .val (.long ((p1 + p2) + p2)), .second, .val (.long ((((p1 + p2) + p2) + p3) + p3)), .second, .val (.long ((p1 + p2) + p2)), .second, .unset, .unset] [(.long ((((p1 + p2) + p2) + p3) + p3))])) (fun _ k => (XS.lstore X6.here hx rfl (hb hby at_102) rfl (l' := #[.val (.long p0), .second, .val (.long p1), .second, .val (.long p2), .second, .val (.long p3), .second, .val (.int p4), .val (.ref b2), .val (.long ((p1 + p2) + p2)), .second, .val (.long ((p1 + p2) + p2)), .second, .val (.long ((((p1 + p2) + p2) + p3) + p3)), .second, .val (.long ((p1 + p2) + p2)), .second, .unset, .unset]) rfl (XS.lload X6.here hx rfl (hb hby at_104) rfl (XS.lload X6.here hx rfl (hb hby at_106) rfl (XS.ladd X6.here hx rfl (hb hby at_108) rfl (XS.lload X6.here hx rfl (hb hby at_109) rfl (XS.ladd X6.here hx rfl (hb hby at_111) rfl k))))))) ?_
    refine OGo.st (T' := T6) (g' := (mkF m 124 #[.val (.long p0), .second, .val (.long p1), .second, .val (.long p2), .second, .val (.long p3), .second, .val (.int p4), .val (.ref b2), .val (.long ((p1 + p2) + p2)), .second, .val (.long ((p1 + p2) + p2)), .second, .val (.long ((((p1 + p2) + p2) + p3) + p3)), .second, .val (.long ((p1 + p2) + p2)), .second, .val (.long ((((p1 + p2) + p2) + p3) + p3)), .second] [(.long ((p1 + p2) + p2))])) (fun _ k => (XS.lstore X6.here hx rfl (hb hby at_112) rfl (l' := #[.val (.long p0), .second, .val (.long p1), .second, .val (.long p2), .second, .val (.long p3), .second, .val (.int p4), .val (.ref b2), .val (.long ((p1 + p2) + p2)), .second, .val (.long ((p1 + p2) + p2)), .second, .val (.long ((((p1 + p2) + p2) + p3) + p3)), .second, .val (.long ((p1 + p2) + p2)), .second, .val (.long ((((p1 + p2) + p2) + p3) + p3)), .second]) rfl (XS.lload X6.here hx rfl (hb hby at_114) rfl (XS.lload X6.here hx rfl (hb hby at_116) rfl (XS.lcmp X6.here hx rfl (hb hby at_118) rfl (XS.ifNo X6.here hx rfl (hb hby at_119) rfl ((if0 _ _).trans (teq ((lw_eq ((p1 + p2) + p2) ((p1 + p2) + p2)).mpr (rfl : ((p1 + p2) + p2) = ((p1 + p2) + p2)))).2) (XS.lload X6.here hx rfl (hb hby at_122) rfl k))))))) ?_
    refine OGo.st (T' := T6) (g' := (mkF m 135 #[.val (.long p0), .second, .val (.long p1), .second, .val (.long p2), .second, .val (.long p3), .second, .val (.int p4), .val (.ref b2), .val (.long ((p1 + p2) + p2)), .second, .val (.long ((p1 + p2) + p2)), .second, .val (.long ((((p1 + p2) + p2) + p3) + p3)), .second, .val (.long ((p1 + p2) + p2)), .second, .val (.long ((((p1 + p2) + p2) + p3) + p3)), .second] [(.int (lcmpW ((((p1 + p2) + p2) + p3) + p3) ((((p1 + p2) + p2) + p3) + p3)))])) (fun _ k => (XS.lload X6.here hx rfl (hb hby at_124) rfl (XS.lcmp X6.here hx rfl (hb hby at_126) rfl (XS.ifNo X6.here hx rfl (hb hby at_127) rfl ((if0 _ _).trans (teq ((lw_eq ((p1 + p2) + p2) ((p1 + p2) + p2)).mpr (rfl : ((p1 + p2) + p2) = ((p1 + p2) + p2)))).2) (XS.lload X6.here hx rfl (hb hby at_130) rfl (XS.lload X6.here hx rfl (hb hby at_132) rfl (XS.lcmp X6.here hx rfl (hb hby at_134) rfl k))))))) ?_
    refine OGo.st (T' := T6) (g' := (mkF m 140 #[.val (.long p0), .second, .val (.long p1), .second, .val (.long p2), .second, .val (.long p3), .second, .val (.int p4), .val (.ref b2), .val (.long ((p1 + p2) + p2)), .second, .val (.long ((p1 + p2) + p2)), .second, .val (.long ((((p1 + p2) + p2) + p3) + p3)), .second, .val (.long ((p1 + p2) + p2)), .second, .val (.long ((((p1 + p2) + p2) + p3) + p3)), .second] [(.ref b2)])) (fun _ k => (XS.ifNo X6.here hx rfl (hb hby at_135) rfl ((if0 _ _).trans (teq ((lw_eq ((((p1 + p2) + p2) + p3) + p3) ((((p1 + p2) + p2) + p3) + p3)).mpr (rfl : ((((p1 + p2) + p2) + p3) + p3) = ((((p1 + p2) + p2) + p3) + p3)))).2) (XS.aload X6.here hx rfl (hb hby at_138) rfl rfl k))) ?_
    obtain ⟨cq7, kq7, q7a, q7b, q7c⟩ := isOf hZ e6 A2_6
    obtain ⟨_, _, ⟨T7, L7, k7, n7⟩, -, X7, ⟨Lc7, hQ7, l7, y7, z7⟩, st7⟩ := X6.virtualBack hx (y := (⟨"com/example/crisp_relay/crisprelay/session/RequestIds", "limit", "()J"⟩ : MethodName)) (z := (⟨"com/example/crisp_relay/crisprelay/session/RequestIds", "limit", "()J"⟩ : MethodName)) hown (mvT hZ (hw _ (List.mem_of_getElem? (i := 67) rfl))) (mvT hZ (hw _ (List.mem_of_getElem? (i := 68) rfl))) (notFace_of_selects (args := #[]) (mvT hZ (hw _ (List.mem_of_getElem? (i := 70) rfl)))) (mvT hZ (hw _ (List.mem_of_getElem? (i := 70) rfl))) (mvT hZ (hw _ (List.mem_of_getElem? (i := 69) rfl))) (by decide) (backOf (W := 0) (rmL l Z a0 hw [] (b2) (((((p1 + p2) + p2) + p3) + p3)) h6 n0 Zn6 (G6x1)) hZ (hw _ (List.mem_of_getElem? (i := 71) rfl)) (hw _ (List.mem_of_getElem? (i := 2) rfl)) (by decide) (by decide)) q7a q7c (g := (mkF m 140 #[.val (.long p0), .second, .val (.long p1), .second, .val (.long p2), .second, .val (.long p3), .second, .val (.int p4), .val (.ref b2), .val (.long ((p1 + p2) + p2)), .second, .val (.long ((p1 + p2) + p2)), .second, .val (.long ((((p1 + p2) + p2) + p3) + p3)), .second, .val (.long ((p1 + p2) + p2)), .second, .val (.long ((((p1 + p2) + p2) + p3) + p3)), .second] [(.ref b2)])) rfl (by rw [hml]; rfl) (Steps.refl _) (argsL := []) (rest := []) (lenOf own_pd0 rfl) rfl (by show 2 * 0 + _ ≤ _; exact Nat.le_of_eq rfl) (hb hby at_140) (fun _ _ => ⟨rfl, e6, (by decide : 3 + 0 ≤ _), (by decide : 14 + 0 ≤ _)⟩)
    dsimp only [Pt.U, Pt.locs, Pt.cells, Pt.slots] at X7 l7 y7 z7 st7 hQ7
    subst l7 y7 z7
    have X7 : Stand p l e room_1 s m _ below meth c T7 _ 3 14 := X7
    obtain ⟨rfl, Nq7, e7⟩ := hQ7
    have N7 := Fr.app N6 Nq7
    refine OGo.st (T' := T7) (g' := (mkF m 143 #[.val (.long p0), .second, .val (.long p1), .second, .val (.long p2), .second, .val (.long p3), .second, .val (.int p4), .val (.ref b2), .val (.long ((p1 + p2) + p2)), .second, .val (.long ((p1 + p2) + p2)), .second, .val (.long ((((p1 + p2) + p2) + p3) + p3)), .second, .val (.long ((p1 + p2) + p2)), .second, .val (.long ((((p1 + p2) + p2) + p3) + p3)), .second] [(.long ((((p1 + p2) + p2) + p3) + p3))])) (fun _ k => st7.trans k) ?_
    refine OGo.st (T' := T7) (g' := (mkF m 151 #[.val (.long p0), .second, .val (.long p1), .second, .val (.long p2), .second, .val (.long p3), .second, .val (.int p4), .val (.ref b2), .val (.long ((p1 + p2) + p2)), .second, .val (.long ((p1 + p2) + p2)), .second, .val (.long ((((p1 + p2) + p2) + p3) + p3)), .second, .val (.long ((p1 + p2) + p2)), .second, .val (.long ((((p1 + p2) + p2) + p3) + p3)), .second] [(.ref b2)])) (fun _ k => (XS.lload X7.here hx rfl (hb hby at_143) rfl (XS.lcmp X7.here hx rfl (hb hby at_145) rfl (XS.ifNo X7.here hx rfl (hb hby at_146) rfl ((if0 _ _).trans (teq ((lw_eq ((((p1 + p2) + p2) + p3) + p3) ((((p1 + p2) + p2) + p3) + p3)).mpr (rfl : ((((p1 + p2) + p2) + p3) + p3) = ((((p1 + p2) + p2) + p3) + p3)))).2) (XS.aload X7.here hx rfl (hb hby at_149) rfl rfl k))))) ?_
    obtain ⟨cq8, kq8, q8a, q8b, q8c⟩ := isOf hZ e7 A2_6
    obtain ⟨_, _, ⟨T8, L8, k8, n8⟩, -, X8, ⟨Lc8, hQ8, l8, y8, z8⟩, st8⟩ := X7.virtualBack hx (y := (⟨"com/example/crisp_relay/crisprelay/session/RequestIds", "next", "()J"⟩ : MethodName)) (z := (⟨"com/example/crisp_relay/crisprelay/session/RequestIds", "next", "()J"⟩ : MethodName)) hown (mvT hZ (hw _ (List.mem_of_getElem? (i := 72) rfl))) (mvT hZ (hw _ (List.mem_of_getElem? (i := 73) rfl))) (notFace_of_selects (args := #[]) (mvT hZ (hw _ (List.mem_of_getElem? (i := 75) rfl)))) (mvT hZ (hw _ (List.mem_of_getElem? (i := 75) rfl))) (mvT hZ (hw _ (List.mem_of_getElem? (i := 74) rfl))) (by decide) (backOf (W := 0) (rmN l Z a0 hw [] (b2) (p0) h6 n0 Zn6 (G6x0)) hZ (hw _ (List.mem_of_getElem? (i := 76) rfl)) (hw _ (List.mem_of_getElem? (i := 2) rfl)) (by decide) (by decide)) q8a q8c (g := (mkF m 151 #[.val (.long p0), .second, .val (.long p1), .second, .val (.long p2), .second, .val (.long p3), .second, .val (.int p4), .val (.ref b2), .val (.long ((p1 + p2) + p2)), .second, .val (.long ((p1 + p2) + p2)), .second, .val (.long ((((p1 + p2) + p2) + p3) + p3)), .second, .val (.long ((p1 + p2) + p2)), .second, .val (.long ((((p1 + p2) + p2) + p3) + p3)), .second] [(.ref b2)])) rfl (by rw [hml]; rfl) (Steps.refl _) (argsL := []) (rest := []) (lenOf own_pd0 rfl) rfl (by show 2 * 0 + _ ≤ _; exact Nat.le_of_eq rfl) (hb hby at_151) (fun _ _ => ⟨rfl, e7, (by decide : 3 + 0 ≤ _), (by decide : 14 + 0 ≤ _)⟩)
    dsimp only [Pt.U, Pt.locs, Pt.cells, Pt.slots] at X8 l8 y8 z8 st8 hQ8
    subst l8 y8 z8
    have X8 : Stand p l e room_1 s m _ below meth c T8 _ 3 14 := X8
    obtain ⟨rfl, Nq8, e8⟩ := hQ8
    have N8 := Fr.app N7 Nq8
    refine OGo.st (T' := T8) (g' := (mkF m 154 #[.val (.long p0), .second, .val (.long p1), .second, .val (.long p2), .second, .val (.long p3), .second, .val (.int p4), .val (.ref b2), .val (.long ((p1 + p2) + p2)), .second, .val (.long ((p1 + p2) + p2)), .second, .val (.long ((((p1 + p2) + p2) + p3) + p3)), .second, .val (.long ((p1 + p2) + p2)), .second, .val (.long ((((p1 + p2) + p2) + p3) + p3)), .second] [(.long p0)])) (fun _ k => st8.trans k) ?_
    refine OGo.st (T' := T8) (g' := (mkF m 161 #[.val (.long p0), .second, .val (.long p1), .second, .val (.long p2), .second, .val (.long p3), .second, .val (.int p4), .val (.ref b2), .val (.long ((p1 + p2) + p2)), .second, .val (.long ((p1 + p2) + p2)), .second, .val (.long ((((p1 + p2) + p2) + p3) + p3)), .second, .val (.long ((p1 + p2) + p2)), .second, .val (.long ((((p1 + p2) + p2) + p3) + p3)), .second] [(.ref b2)])) (fun _ k => (XS.lloadN X8.here hx rfl (hb hby at_154) rfl (XS.lcmp X8.here hx rfl (hb hby at_155) rfl (XS.ifNo X8.here hx rfl (hb hby at_156) rfl ((if0 _ _).trans (teq ((lw_eq p0 p0).mpr (rfl : p0 = p0))).2) (XS.aload X8.here hx rfl (hb hby at_159) rfl rfl k))))) ?_
    obtain ⟨cq9, kq9, q9a, q9b, q9c⟩ := isOf hZ e8 A2_6
    obtain ⟨_, _, ⟨T9, L9, k9, n9⟩, -, X9, ⟨Lc9, hQ9, l9, y9, z9⟩, st9⟩ := X8.virtualBack hx (y := (⟨"com/example/crisp_relay/crisprelay/session/RequestIds", "available", "()Z"⟩ : MethodName)) (z := (⟨"com/example/crisp_relay/crisprelay/session/RequestIds", "available", "()Z"⟩ : MethodName)) hown (mvT hZ (hw _ (List.mem_of_getElem? (i := 82) rfl))) (mvT hZ (hw _ (List.mem_of_getElem? (i := 83) rfl))) (notFace_of_selects (args := #[]) (mvT hZ (hw _ (List.mem_of_getElem? (i := 85) rfl)))) (mvT hZ (hw _ (List.mem_of_getElem? (i := 85) rfl))) (mvT hZ (hw _ (List.mem_of_getElem? (i := 84) rfl))) (by decide) (backOf (W := 0) (rmAv l Z a0 hw [] (b2) (p0) (((((p1 + p2) + p2) + p3) + p3)) h6 n0 Zn6 (G6x0) (G6x1)) hZ (hw _ (List.mem_of_getElem? (i := 86) rfl)) (hw _ (List.mem_of_getElem? (i := 2) rfl)) (by decide) (by decide)) q9a q9c (g := (mkF m 161 #[.val (.long p0), .second, .val (.long p1), .second, .val (.long p2), .second, .val (.long p3), .second, .val (.int p4), .val (.ref b2), .val (.long ((p1 + p2) + p2)), .second, .val (.long ((p1 + p2) + p2)), .second, .val (.long ((((p1 + p2) + p2) + p3) + p3)), .second, .val (.long ((p1 + p2) + p2)), .second, .val (.long ((((p1 + p2) + p2) + p3) + p3)), .second] [(.ref b2)])) rfl (by rw [hml]; rfl) (Steps.refl _) (argsL := []) (rest := []) (lenOf own_pd2 rfl) rfl (by show 2 * 0 + _ ≤ _; exact Nat.le_of_eq rfl) (hb hby at_161) (fun _ _ => ⟨rfl, e8, (by decide : 3 + 0 ≤ _), (by decide : 14 + 0 ≤ _)⟩)
    dsimp only [Pt.U, Pt.locs, Pt.cells, Pt.slots] at X9 l9 y9 z9 st9 hQ9
    subst l9 y9 z9
    have X9 : Stand p l e room_1 s m _ below meth c T9 _ 3 14 := X9
    obtain ⟨rfl, Nq9, e9⟩ := hQ9
    have N9 := Fr.app N8 Nq9
    refine OGo.st (T' := T9) (g' := (mkF m 164 #[.val (.long p0), .second, .val (.long p1), .second, .val (.long p2), .second, .val (.long p3), .second, .val (.int p4), .val (.ref b2), .val (.long ((p1 + p2) + p2)), .second, .val (.long ((p1 + p2) + p2)), .second, .val (.long ((((p1 + p2) + p2) + p3) + p3)), .second, .val (.long ((p1 + p2) + p2)), .second, .val (.long ((((p1 + p2) + p2) + p3) + p3)), .second] [(.int (own_ltJ p0 ((((p1 + p2) + p2) + p3) + p3)))])) (fun _ k => st9.trans k) ?_
    refine OGo.st (T' := T9) (g' := (mkF m 168 #[.val (.long p0), .second, .val (.long p1), .second, .val (.long p2), .second, .val (.long p3), .second, .val (.int p4), .val (.ref b2), .val (.long ((p1 + p2) + p2)), .second, .val (.long ((p1 + p2) + p2)), .second, .val (.long ((((p1 + p2) + p2) + p3) + p3)), .second, .val (.long ((p1 + p2) + p2)), .second, .val (.long ((((p1 + p2) + p2) + p3) + p3)), .second] [(.int (lcmpW p0 ((((p1 + p2) + p2) + p3) + p3))), (.int (own_ltJ p0 ((((p1 + p2) + p2) + p3) + p3)))])) (fun _ k => (XS.lloadN X9.here hx rfl (hb hby at_164) rfl (XS.lload X9.here hx rfl (hb hby at_165) rfl (XS.lcmp X9.here hx rfl (hb hby at_167) rfl k)))) ?_
    by_cases hc10 : p0 < ((((p1 + p2) + p2) + p3) + p3)
    · refine OGo.st (T' := T9) (g' := (mkF m 184 #[.val (.long p0), .second, .val (.long p1), .second, .val (.long p2), .second, .val (.long p3), .second, .val (.int p4), .val (.ref b2), .val (.long ((p1 + p2) + p2)), .second, .val (.long ((p1 + p2) + p2)), .second, .val (.long ((((p1 + p2) + p2) + p3) + p3)), .second, .val (.long ((p1 + p2) + p2)), .second, .val (.long ((((p1 + p2) + p2) + p3) + p3)), .second] [(.int (1 : Int32))])) (fun _ k => (XS.ifNo X9.here hx rfl (hb hby at_168) rfl ((if0 _ _).trans (tlt ((lw_lt p0 ((((p1 + p2) + p2) + p3) + p3)).mpr hc10)).2.1) (XS.iconst X9.here hx rfl (hb hby at_171) (XS.goto X9.here hx rfl (pc0 := 172) (pc' := 176) rfl (hb hby at_172) (by decide) (by decide) (XS.icmpNo X9.here hx rfl (hb hby at_176) rfl (teq (own_ltJ_1 hc10 : (own_ltJ p0 ((((p1 + p2) + p2) + p3) + p3)) = (1 : Int32))).2 (XS.iconst X9.here hx rfl (hb hby at_179) (XS.goto X9.here hx rfl (pc0 := 180) (pc' := 184) rfl (hb hby at_180) (by decide) (by decide) k))))))) ?_
      exact OGo.ret X9 hx hlk Bd.returns rfl (own_rI (Or.inr (Or.inl rfl))) (hb hby at_184) (by decide) (by decide) e9 (⟨rfl, N9⟩)
    · refine OGo.st (T' := T9) (g' := (mkF m 184 #[.val (.long p0), .second, .val (.long p1), .second, .val (.long p2), .second, .val (.long p3), .second, .val (.int p4), .val (.ref b2), .val (.long ((p1 + p2) + p2)), .second, .val (.long ((p1 + p2) + p2)), .second, .val (.long ((((p1 + p2) + p2) + p3) + p3)), .second, .val (.long ((p1 + p2) + p2)), .second, .val (.long ((((p1 + p2) + p2) + p3) + p3)), .second] [(.int (1 : Int32))])) (fun _ k => (XS.ifYes X9.here hx rfl (pc0 := 168) (pc' := 175) rfl (hb hby at_168) rfl ((if0 _ _).trans (flt (fun q => (hc10) ((lw_lt p0 ((((p1 + p2) + p2) + p3) + p3)).mp q))).2.1) (by decide) (by decide) (XS.iconst X9.here hx rfl (hb hby at_175) (XS.icmpNo X9.here hx rfl (hb hby at_176) rfl (teq (own_ltJ_0 hc10 : (own_ltJ p0 ((((p1 + p2) + p2) + p3) + p3)) = (0 : Int32))).2 (XS.iconst X9.here hx rfl (hb hby at_179) (XS.goto X9.here hx rfl (pc0 := 180) (pc' := 184) rfl (hb hby at_180) (by decide) (by decide) k)))))) ?_
      exact OGo.ret X9 hx hlk Bd.returns rfl (own_rI (Or.inr (Or.inl rfl))) (hb hby at_184) (by decide) (by decide) e9 (⟨rfl, N9⟩)
  · refine OGo.st (T' := s₁) (g' := (mkF m 8 #[.val (.long p0), .second, .val (.long p1), .second, .val (.long p2), .second, .val (.long p3), .second, .val (.int p4), .unset, .unset, .unset, .unset, .unset, .unset, .unset, .unset, .unset, .unset, .unset] [(.long p0)])) (fun _ k => (XS.ifNo X0.here hx rfl (hb hby at_4) rfl ((if0 _ _).trans (feq hc1).1) (XS.lloadN X0.here hx rfl (hb hby at_7) rfl k))) ?_
    obtain ⟨_, _, ⟨T11, L11, k11, n11⟩, -, X11, ⟨Lc11, hQ11, l11, y11, z11⟩, st11⟩ := Jvm.LawKit.callS X0 hx (y := (⟨"com/example/crisp_relay/crisprelay/session/RequestIds", "unordered", "(J)Lcom/example/crisp_relay/crisprelay/session/RequestIds;"⟩ : MethodName)) hown (mvT hZ (hw _ (List.mem_of_getElem? (i := 0) rfl))) (mvT hZ (hw _ (List.mem_of_getElem? (i := 1) rfl))) (mvT hZ (hw _ (List.mem_of_getElem? (i := 2) rfl))) (mvT hZ (hw _ (List.mem_of_getElem? (i := 3) rfl))) (by decide) (backOf (W := 0) (rmU l Z a0 hw [] (p0) h0 n0 Z0 ) hZ (hw _ (List.mem_of_getElem? (i := 3) rfl)) (hw _ (List.mem_of_getElem? (i := 2) rfl)) (by decide) (by decide)) (g := (mkF m 8 #[.val (.long p0), .second, .val (.long p1), .second, .val (.long p2), .second, .val (.long p3), .second, .val (.int p4), .unset, .unset, .unset, .unset, .unset, .unset, .unset, .unset, .unset, .unset, .unset] [(.long p0)])) rfl (by rw [hml]; rfl) (argsL := [(.long p0)]) (rest := []) (lenOf own_pd4 rfl) rfl (by show 2 * 0 + _ ≤ _; exact Nat.le_of_eq rfl) (hb hby at_8) (fun _ _ => ⟨rfl, e0, (by decide : 0 + 3 ≤ _), (by decide : 0 + 14 ≤ _)⟩)
    dsimp only [Pt.U, Pt.locs, Pt.cells, Pt.slots] at X11 l11 y11 z11 st11 hQ11
    subst l11 y11 z11
    have X11 : Stand p l e room_1 s m _ below meth c T11 _ 3 14 := X11
    obtain ⟨h11, e11⟩ : ∃ z, T11.heap = z := ⟨_, rfl⟩
    rw [e11] at hQ11
    obtain ⟨b11, rfl, Nq11, Kc11, sz_b11, G11x0, G11x1, G11x2, G11x3, G11x4⟩ := hQ11
    have N11 := Fr.app N0 Nq11
    have g_b11 : n0 ≤ b11 := Nat.le_trans Z0 sz_b11
    have Zn11 : n0 ≤ h11.size := Nat.le_trans Z0 Kc11.1
    refine OGo.st (T' := T11) (g' := (mkF m 11 #[.val (.long p0), .second, .val (.long p1), .second, .val (.long p2), .second, .val (.long p3), .second, .val (.int p4), .unset, .unset, .unset, .unset, .unset, .unset, .unset, .unset, .unset, .unset, .unset] [(.ref b11)])) (fun _ k => st11 _ k) ?_
    refine OGo.st (T' := T11) (g' := (mkF m 17 #[.val (.long p0), .second, .val (.long p1), .second, .val (.long p2), .second, .val (.long p3), .second, .val (.int p4), .val (.ref b11), .unset, .unset, .unset, .unset, .unset, .unset, .unset, .unset, .unset, .unset] [(.long p2), (.ref b11)])) (fun _ k => (XS.astore X11.here hx rfl (hb hby at_11) rfl rfl (l' := #[.val (.long p0), .second, .val (.long p1), .second, .val (.long p2), .second, .val (.long p3), .second, .val (.int p4), .val (.ref b11), .unset, .unset, .unset, .unset, .unset, .unset, .unset, .unset, .unset, .unset]) rfl (XS.aload X11.here hx rfl (hb hby at_13) rfl rfl (XS.lload X11.here hx rfl (hb hby at_15) rfl k)))) ?_
    obtain ⟨cq12, kq12, q12a, q12b, q12c⟩ := isOf hZ e11 G11x0
    obtain ⟨_, _, ⟨T12, L12, k12, n12⟩, -, X12, ⟨Lc12, hQ12, l12, y12, z12⟩, st12⟩ := X11.virtualBack hx (y := (⟨"com/example/crisp_relay/crisprelay/session/RequestIds", "grant", "(J)J"⟩ : MethodName)) (z := (⟨"com/example/crisp_relay/crisprelay/session/RequestIds", "grant", "(J)J"⟩ : MethodName)) hown (mvT hZ (hw _ (List.mem_of_getElem? (i := 61) rfl))) (mvT hZ (hw _ (List.mem_of_getElem? (i := 62) rfl))) (notFace_of_selects (args := #[]) (mvT hZ (hw _ (List.mem_of_getElem? (i := 64) rfl)))) (mvT hZ (hw _ (List.mem_of_getElem? (i := 64) rfl))) (mvT hZ (hw _ (List.mem_of_getElem? (i := 63) rfl))) (by decide) (backOf (W := 0) (rmG0 l Z a0 hw [] (b11) (p0) ((9223372036854775807 : Int64)) (p2) h11 n0 Zn11 (G11x2) (G11x3) (G11x4)) hZ (hw _ (List.mem_of_getElem? (i := 65) rfl)) (hw _ (List.mem_of_getElem? (i := 2) rfl)) (by decide) (by decide)) q12a q12c (g := (mkF m 17 #[.val (.long p0), .second, .val (.long p1), .second, .val (.long p2), .second, .val (.long p3), .second, .val (.int p4), .val (.ref b11), .unset, .unset, .unset, .unset, .unset, .unset, .unset, .unset, .unset, .unset] [(.long p2), (.ref b11)])) rfl (by rw [hml]; rfl) (Steps.refl _) (argsL := [(.long p2)]) (rest := []) (lenOf own_pd3 rfl) rfl (by show 2 * 0 + _ ≤ _; exact Nat.le_of_eq rfl) (hb hby at_17) (fun _ _ => ⟨rfl, e11, (by decide : 3 + 0 ≤ _), (by decide : 14 + 0 ≤ _)⟩)
    dsimp only [Pt.U, Pt.locs, Pt.cells, Pt.slots] at X12 l12 y12 z12 st12 hQ12
    subst l12 y12 z12
    have X12 : Stand p l e room_1 s m _ below meth c T12 _ 3 14 := X12
    obtain ⟨rfl, Nq12, e12⟩ := hQ12
    have N12 := Fr.app N11 Nq12
    refine OGo.st (T' := T12) (g' := (mkF m 20 #[.val (.long p0), .second, .val (.long p1), .second, .val (.long p2), .second, .val (.long p3), .second, .val (.int p4), .val (.ref b11), .unset, .unset, .unset, .unset, .unset, .unset, .unset, .unset, .unset, .unset] [(.long (9223372036854775807 : Int64))])) (fun _ k => st12.trans k) ?_
    refine OGo.st (T' := T12) (g' := (mkF m 33 #[.val (.long p0), .second, .val (.long p1), .second, .val (.long p2), .second, .val (.long p3), .second, .val (.int p4), .val (.ref b11), .val (.long (9223372036854775807 : Int64)), .second, .unset, .unset, .unset, .unset, .unset, .unset, .unset, .unset] [(.ref b11)])) (fun _ k => (XS.lstore X12.here hx rfl (hb hby at_20) rfl (l' := #[.val (.long p0), .second, .val (.long p1), .second, .val (.long p2), .second, .val (.long p3), .second, .val (.int p4), .val (.ref b11), .val (.long (9223372036854775807 : Int64)), .second, .unset, .unset, .unset, .unset, .unset, .unset, .unset, .unset]) rfl (XS.lload X12.here hx rfl (hb hby at_22) rfl (X12.ldc2Long hx hown (mvT hZ (hw _ (List.mem_of_getElem? (i := 66) rfl))) (g := (mkF m 24 #[.val (.long p0), .second, .val (.long p1), .second, .val (.long p2), .second, .val (.long p3), .second, .val (.int p4), .val (.ref b11), .val (.long (9223372036854775807 : Int64)), .second, .unset, .unset, .unset, .unset, .unset, .unset, .unset, .unset] [(.long (9223372036854775807 : Int64))])) rfl (hb hby at_24) _ (XS.lcmp X12.here hx rfl (hb hby at_27) rfl (XS.ifNo X12.here hx rfl (hb hby at_28) rfl ((if0 _ _).trans (teq ((lw_eq (9223372036854775807 : Int64) (9223372036854775807 : Int64)).mpr (by decide : (9223372036854775807 : Int64) = (9223372036854775807 : Int64)))).2) (XS.aload X12.here hx rfl (hb hby at_31) rfl rfl k))))))) ?_
    obtain ⟨cq13, kq13, q13a, q13b, q13c⟩ := isOf hZ e12 G11x0
    obtain ⟨_, _, ⟨T13, L13, k13, n13⟩, -, X13, ⟨Lc13, hQ13, l13, y13, z13⟩, st13⟩ := X12.virtualBack hx (y := (⟨"com/example/crisp_relay/crisprelay/session/RequestIds", "limit", "()J"⟩ : MethodName)) (z := (⟨"com/example/crisp_relay/crisprelay/session/RequestIds", "limit", "()J"⟩ : MethodName)) hown (mvT hZ (hw _ (List.mem_of_getElem? (i := 67) rfl))) (mvT hZ (hw _ (List.mem_of_getElem? (i := 68) rfl))) (notFace_of_selects (args := #[]) (mvT hZ (hw _ (List.mem_of_getElem? (i := 70) rfl)))) (mvT hZ (hw _ (List.mem_of_getElem? (i := 70) rfl))) (mvT hZ (hw _ (List.mem_of_getElem? (i := 69) rfl))) (by decide) (backOf (W := 0) (rmL l Z a0 hw [] (b11) ((9223372036854775807 : Int64)) h11 n0 Zn11 (G11x3)) hZ (hw _ (List.mem_of_getElem? (i := 71) rfl)) (hw _ (List.mem_of_getElem? (i := 2) rfl)) (by decide) (by decide)) q13a q13c (g := (mkF m 33 #[.val (.long p0), .second, .val (.long p1), .second, .val (.long p2), .second, .val (.long p3), .second, .val (.int p4), .val (.ref b11), .val (.long (9223372036854775807 : Int64)), .second, .unset, .unset, .unset, .unset, .unset, .unset, .unset, .unset] [(.ref b11)])) rfl (by rw [hml]; rfl) (Steps.refl _) (argsL := []) (rest := []) (lenOf own_pd0 rfl) rfl (by show 2 * 0 + _ ≤ _; exact Nat.le_of_eq rfl) (hb hby at_33) (fun _ _ => ⟨rfl, e12, (by decide : 3 + 0 ≤ _), (by decide : 14 + 0 ≤ _)⟩)
    dsimp only [Pt.U, Pt.locs, Pt.cells, Pt.slots] at X13 l13 y13 z13 st13 hQ13
    subst l13 y13 z13
    have X13 : Stand p l e room_1 s m _ below meth c T13 _ 3 14 := X13
    obtain ⟨rfl, Nq13, e13⟩ := hQ13
    have N13 := Fr.app N12 Nq13
    refine OGo.st (T' := T13) (g' := (mkF m 36 #[.val (.long p0), .second, .val (.long p1), .second, .val (.long p2), .second, .val (.long p3), .second, .val (.int p4), .val (.ref b11), .val (.long (9223372036854775807 : Int64)), .second, .unset, .unset, .unset, .unset, .unset, .unset, .unset, .unset] [(.long (9223372036854775807 : Int64))])) (fun _ k => st13.trans k) ?_
    refine OGo.st (T' := T13) (g' := (mkF m 45 #[.val (.long p0), .second, .val (.long p1), .second, .val (.long p2), .second, .val (.long p3), .second, .val (.int p4), .val (.ref b11), .val (.long (9223372036854775807 : Int64)), .second, .unset, .unset, .unset, .unset, .unset, .unset, .unset, .unset] [(.ref b11)])) (fun _ k => (X13.ldc2Long hx hown (mvT hZ (hw _ (List.mem_of_getElem? (i := 66) rfl))) (g := (mkF m 36 #[.val (.long p0), .second, .val (.long p1), .second, .val (.long p2), .second, .val (.long p3), .second, .val (.int p4), .val (.ref b11), .val (.long (9223372036854775807 : Int64)), .second, .unset, .unset, .unset, .unset, .unset, .unset, .unset, .unset] [(.long (9223372036854775807 : Int64))])) rfl (hb hby at_36) _ (XS.lcmp X13.here hx rfl (hb hby at_39) rfl (XS.ifNo X13.here hx rfl (hb hby at_40) rfl ((if0 _ _).trans (teq ((lw_eq (9223372036854775807 : Int64) (9223372036854775807 : Int64)).mpr (by decide : (9223372036854775807 : Int64) = (9223372036854775807 : Int64)))).2) (XS.aload X13.here hx rfl (hb hby at_43) rfl rfl k))))) ?_
    obtain ⟨cq14, kq14, q14a, q14b, q14c⟩ := isOf hZ e13 G11x0
    obtain ⟨_, _, ⟨T14, L14, k14, n14⟩, -, X14, ⟨Lc14, hQ14, l14, y14, z14⟩, st14⟩ := X13.virtualBack hx (y := (⟨"com/example/crisp_relay/crisprelay/session/RequestIds", "next", "()J"⟩ : MethodName)) (z := (⟨"com/example/crisp_relay/crisprelay/session/RequestIds", "next", "()J"⟩ : MethodName)) hown (mvT hZ (hw _ (List.mem_of_getElem? (i := 72) rfl))) (mvT hZ (hw _ (List.mem_of_getElem? (i := 73) rfl))) (notFace_of_selects (args := #[]) (mvT hZ (hw _ (List.mem_of_getElem? (i := 75) rfl)))) (mvT hZ (hw _ (List.mem_of_getElem? (i := 75) rfl))) (mvT hZ (hw _ (List.mem_of_getElem? (i := 74) rfl))) (by decide) (backOf (W := 0) (rmN l Z a0 hw [] (b11) (p0) h11 n0 Zn11 (G11x2)) hZ (hw _ (List.mem_of_getElem? (i := 76) rfl)) (hw _ (List.mem_of_getElem? (i := 2) rfl)) (by decide) (by decide)) q14a q14c (g := (mkF m 45 #[.val (.long p0), .second, .val (.long p1), .second, .val (.long p2), .second, .val (.long p3), .second, .val (.int p4), .val (.ref b11), .val (.long (9223372036854775807 : Int64)), .second, .unset, .unset, .unset, .unset, .unset, .unset, .unset, .unset] [(.ref b11)])) rfl (by rw [hml]; rfl) (Steps.refl _) (argsL := []) (rest := []) (lenOf own_pd0 rfl) rfl (by show 2 * 0 + _ ≤ _; exact Nat.le_of_eq rfl) (hb hby at_45) (fun _ _ => ⟨rfl, e13, (by decide : 3 + 0 ≤ _), (by decide : 14 + 0 ≤ _)⟩)
    dsimp only [Pt.U, Pt.locs, Pt.cells, Pt.slots] at X14 l14 y14 z14 st14 hQ14
    subst l14 y14 z14
    have X14 : Stand p l e room_1 s m _ below meth c T14 _ 3 14 := X14
    obtain ⟨rfl, Nq14, e14⟩ := hQ14
    have N14 := Fr.app N13 Nq14
    refine OGo.st (T' := T14) (g' := (mkF m 48 #[.val (.long p0), .second, .val (.long p1), .second, .val (.long p2), .second, .val (.long p3), .second, .val (.int p4), .val (.ref b11), .val (.long (9223372036854775807 : Int64)), .second, .unset, .unset, .unset, .unset, .unset, .unset, .unset, .unset] [(.long p0)])) (fun _ k => st14.trans k) ?_
    refine OGo.st (T' := T14) (g' := (mkF m 58 #[.val (.long p0), .second, .val (.long p1), .second, .val (.long p2), .second, .val (.long p3), .second, .val (.int p4), .val (.ref b11), .val (.long (9223372036854775807 : Int64)), .second, .unset, .unset, .unset, .unset, .unset, .unset, .unset, .unset] [(.int (1 : Int32))])) (fun _ k => (XS.lloadN X14.here hx rfl (hb hby at_48) rfl (XS.lcmp X14.here hx rfl (hb hby at_49) rfl (XS.ifNo X14.here hx rfl (hb hby at_50) rfl ((if0 _ _).trans (teq ((lw_eq p0 p0).mpr (rfl : p0 = p0))).2) (XS.iconst X14.here hx rfl (hb hby at_53) (XS.goto X14.here hx rfl (pc0 := 54) (pc' := 58) rfl (hb hby at_54) (by decide) (by decide) k)))))) ?_
    exact OGo.ret X14 hx hlk Bd.returns rfl (own_rI (Or.inr (Or.inl rfl))) (hb hby at_58) (by decide) (by decide) e14 (⟨rfl, N14⟩)
set_option maxRecDepth 65536 in
set_option maxHeartbeats 40000000 in
theorem comes_1 {Post : Tables → Env → Array Value → State → Outcome → State → Prop} (hpost : ∀ tb e args s v u, (limb_1_1.after args s (.returned v) u = true ∧ limb_1_2.after args s (.returned v) u = true ∧ True) → FrameEnd s (.returned v) u (Jvm.fieldLocs frame_1_writes args s ++ Jvm.arrayLocs frame_1_arrays args s ++ Jvm.staticLocs frame_1_statics s) 16 128 → Post tb e args s (.returned v) u) :
    ArmFor flags0 classFile x code maxLocals ret World_1 tables_1 room_1 Calls_1 rest_1 Pre_1 Post := by
  intro l hfl _ _ p e ha hc hk s m args below hf hA hF happ hP
  obtain ⟨hcalls, hrest, hpre⟩ := hP
  obtain ⟨-, -, -, hnamed, -, -, -, hat⟩ := (Spec.applies_iff hf).mp happ
  obtain ⟨hg, hn⟩ := and_e (Cond.before_iff.mp (show (Jvm.Cond.and given_1 narrow_1).before args s = true from hpre))
  obtain ⟨q0, r0⟩ := and_e hg
  obtain ⟨q1, r1⟩ := and_e r0
  obtain ⟨q2, r2⟩ := and_e r1
  obtain ⟨q3, r3⟩ := and_e r2
  obtain ⟨q4, r4⟩ := and_e r3
  obtain ⟨w0, w1, w2, w3, w4, rfl⟩ : ∃ w0 w1 w2 w3 w4 : Value, args = #[w0, w1, w2, w3, w4] := by
    have hs : args.size = 5 := by simpa [Cond.value, given_1] using q0
    obtain ⟨L⟩ := args
    match L, hs with
    | [w0, w1, w2, w3, w4], _ => exact ⟨w0, w1, w2, w3, w4, rfl⟩
  have hw := fun d (hd : d ∈ tables_1) => atoms_spec (ws := Jvm.Cond.code x code maxLocals ret :: tables_1) hat d (List.mem_cons_of_mem _ hd)
  obtain ⟨i0, ei0⟩ := isL_v q1
  obtain rfl : w0 = (.long i0) := Option.some.inj ei0
  obtain ⟨i1, ei1⟩ := isL_v q2
  obtain rfl : w1 = (.long i1) := Option.some.inj ei1
  obtain ⟨i2, ei2⟩ := isL_v q3
  obtain rfl : w2 = (.long i2) := Option.some.inj ei2
  obtain ⟨i3, ei3⟩ := isL_v q4
  obtain rfl : w3 = (.long i3) := Option.some.inj ei3
  obtain ⟨i4, ei4⟩ := is_v r4
  obtain rfl : w4 = (.int i4) := Option.some.inj ei4
  obtain ⟨n, o, h1, h2, h3, _, L, rfl, ⟨rfl, N⟩, hq⟩ := rm0 l s _ hw tables_1 i0 i1 i2 i3 i4 s.heap s.heap.size (Nat.le_refl _) p e ha hc hk s m _ below hf ((Spec.applies_iff_loose hf).mp happ).1 ⟨rfl, State.Warmed39.refl s, rfl⟩ trivial
  refine ⟨n, _, h1, h2, h3, hpost _ _ _ _ _ _ ⟨Cond.after_iff.mpr rfl, Cond.after_iff.mpr (eq_i res_at (Term.int_eval (1)) rfl), trivial⟩ ⟨hq.1, hq.2.1, (hq.2.2.sift fun y hy => Or.inr (N y hy)).mono (by decide) (by decide)⟩⟩
theorem main_1_1 : Claimed_1_1 := comes_1 fun _ _ _ _ _ _ h hF => ⟨h.1, hF⟩
theorem main_1_2 : Claimed_1_2 := comes_1 fun _ _ _ _ _ _ h hF => ⟨h.2.1, hF⟩
end Jvm.Pilot.@@N@@
namespace Jvm.Pilot.@@N@@
open Jvm Jvm.ClassFile Sem Op Lib Jvm.Free Jvm.Stand Jvm.Pilot.@@N@@.Jvm.D
/-! MADE BY PROGRAM (witnessworld.py) out of the Statement's table words and the real class files: 18 classes; the members and pool entries that the words name. The judged class is class 1, her method 1. -/
namespace start1
open Jvm.ClassFile
def u (s : String) : CpInfo := .utf8 (stringToUtf16 s)
/-- a pool by its gaps: so many unusable entries, then the entry; so many at the end -/
def gap : Nat → List CpInfo → List CpInfo
  | 0, r => r
  | n + 1, r => .unusable :: gap n r
def poolList (es : List (Nat × CpInfo)) (last : Nat) : List CpInfo := es.foldr (fun e r => gap e.1 (e.2 :: r)) (gap last [])
def pool (es : List (Nat × CpInfo)) (last : Nat) : Array CpInfo := ⟨poolList es last⟩
def fileOf (pool : Array CpInfo) (this : Nat) (attrs : Array Attribute := #[]) (ms : Array MethodInfo := #[]) (fl : Nat := 33) (sup : Nat := 0) (ifs : Array Nat := #[]) (fds : Array FieldInfo := #[]) : ClassFile where
  minorVersion := 0
  majorVersion := 65
  constantPool := pool
  accessFlags := fl
  thisClass := this
  superClass := sup
  interfaces := ifs
  fields := fds
  methods := ms
  attributes := attrs
def plain (name : String) (sup : Option ClassId) : Class where
  name := name
  kind := .ordinary
  loader := none
  accessFlags := 33
  super := sup
  interfaces := #[]
  cf := none
  fields := #[]
  methods := #[]
  instanceTypes := #[]
  staticTypes := #[]
  resolved := #[]
  callSites := []
  init := .initialized
  statics := none
  mirror := none

def pool0 : Array CpInfo := pool [(5, u "<init>"), (0, u "()V"), (1, .class_ 10), (1, u "java/lang/Object")] 113

def k0c0 : Code := { maxStack := 0, maxLocals := 1, code := object_method_1_code, exceptionTable := #[], attributes := #[] }
def k0m0 : Method := { name := "<init>", desc := "()V", sig := { parameters := [], returnType := none }, accessFlags := 1, code := some k0c0 }
/-- java/lang/Object -/
def k0 : Class := { plain "java/lang/Object" none with
  accessFlags := 33
  interfaces := #[]
  cf := some (fileOf pool0 8 #[] #[{ accessFlags := 1, nameIndex := 5, descriptorIndex := 6, attributes := #[] }] 33 0 #[] #[])
  fields := #[]
  methods := #[k0m0]
  instanceTypes := #[]
  staticTypes := #[]
  resolved := Array.replicate 124 none
  statics := none }

def pool1 : Array CpInfo := pool [(2, .class_ 4), (1, u "java/lang/Object"), (0, u "<init>"), (0, u "()V"), (0, .methodref 8 9), (0, .class_ 10), (0, .nameAndType 11 12), (0, u "com/example/crisp_relay/crisprelay/session/RequestIds"), (0, u "unordered"), (0, u "(J)Lcom/example/crisp_relay/crisprelay/session/RequestIds;"), (0, .methodref 8 14), (0, .nameAndType 15 16), (0, u "grant"), (0, u "(J)J"), (2, .long 9223372036854775807), (1, .methodref 8 22), (0, .nameAndType 23 24), (0, u "limit"), (0, u "()J"), (0, .methodref 8 26), (0, .nameAndType 27 24), (0, u "next"), (0, .methodref 8 29), (0, .nameAndType 5 30), (0, u "(JJ)V"), (0, .methodref 8 32), (0, .nameAndType 33 34), (0, u "available"), (0, u "()Z"), (0, .class_ 36), (0, u "com/example/crisp_relay/crisprelay/session/RequestIdsGrantPinLaw"), (2, u "law"), (0, u "(JJJJI)Z")] 3

def k1m0 : Method := { name := "<init>", desc := "()V", sig := { parameters := [], returnType := none }, accessFlags := 1, code := none }
def k1c1 : Code := { maxStack := 6, maxLocals := 20, code := code, exceptionTable := #[], attributes := #[] }
def k1m1 : Method := { name := "law", desc := "(JJJJI)Z", sig := { parameters := [.long, .long, .long, .long, .int], returnType := some .boolean }, accessFlags := 9, code := some k1c1 }
/-- com/example/crisp_relay/crisprelay/session/RequestIdsGrantPinLaw -/
def k1 : Class := { plain "com/example/crisp_relay/crisprelay/session/RequestIdsGrantPinLaw" (some 0) with
  accessFlags := 49
  interfaces := #[]
  cf := some (fileOf pool1 35 #[] #[{ accessFlags := 1, nameIndex := 5, descriptorIndex := 6, attributes := #[] }, { accessFlags := 9, nameIndex := 39, descriptorIndex := 40, attributes := #[] }] 49 2 #[] #[])
  fields := #[]
  methods := #[k1m0, k1m1]
  instanceTypes := #[]
  staticTypes := #[]
  resolved := Array.replicate 44 none
  statics := none }

def pool2 : Array CpInfo := pool [(1, .methodref 2 3), (0, .class_ 4), (0, .nameAndType 5 6), (0, u "com/example/crisp_relay/crisprelay/session/RequestIds"), (0, u "<init>"), (0, u "(JJZ)V"), (0, .methodref 8 9), (0, .class_ 10), (0, .nameAndType 5 11), (0, u "java/lang/Object"), (0, u "()V"), (0, .class_ 13), (0, u "java/util/HashSet"), (0, .methodref 12 9), (0, .fieldref 2 16), (0, .nameAndType 17 18), (0, u "taken"), (0, u "Ljava/util/Set;"), (0, .fieldref 2 20), (0, .nameAndType 21 22), (0, u "first"), (0, u "J"), (0, .fieldref 2 24), (0, .nameAndType 25 22), (0, u "next"), (0, .fieldref 2 27), (0, .nameAndType 28 22), (0, u "limit"), (0, .fieldref 2 30), (0, .nameAndType 31 32), (0, u "ordered"), (0, u "Z"), (2, .long 9223372036854775807), (3, u "available"), (0, u "()Z"), (9, .long 2), (59, u "(JJ)V"), (2, u "unordered"), (0, u "(J)Lcom/example/crisp_relay/crisprelay/session/RequestIds;"), (0, u "()J"), (4, u "grant"), (0, u "(J)J")] 28

def k2c0 : Code := { maxStack := 6, maxLocals := 5, code := prog_50_method_1_code, exceptionTable := #[], attributes := #[] }
def k2m0 : Method := { name := "<init>", desc := "(JJ)V", sig := { parameters := [.long, .long], returnType := none }, accessFlags := 0, code := some k2c0 }
def k2c1 : Code := { maxStack := 3, maxLocals := 6, code := prog_50_method_2_code, exceptionTable := #[], attributes := #[] }
def k2m1 : Method := { name := "<init>", desc := "(JJZ)V", sig := { parameters := [.long, .long, .boolean], returnType := none }, accessFlags := 2, code := some k2c1 }
def k2c2 : Code := { maxStack := 7, maxLocals := 2, code := prog_50_method_3_code, exceptionTable := #[], attributes := #[] }
def k2m2 : Method := { name := "unordered", desc := "(J)Lcom/example/crisp_relay/crisprelay/session/RequestIds;", sig := { parameters := [.long], returnType := some (.object "com/example/crisp_relay/crisprelay/session/RequestIds") }, accessFlags := 8, code := some k2c2 }
def k2c3 : Code := { maxStack := 2, maxLocals := 1, code := prog_50_method_4_code, exceptionTable := #[], attributes := #[] }
def k2m3 : Method := { name := "next", desc := "()J", sig := { parameters := [], returnType := some .long }, accessFlags := 0, code := some k2c3 }
def k2c4 : Code := { maxStack := 2, maxLocals := 1, code := prog_50_method_5_code, exceptionTable := #[], attributes := #[] }
def k2m4 : Method := { name := "limit", desc := "()J", sig := { parameters := [], returnType := some .long }, accessFlags := 0, code := some k2c4 }
def k2c5 : Code := { maxStack := 4, maxLocals := 1, code := prog_50_method_6_code, exceptionTable := #[], attributes := #[] }
def k2m5 : Method := { name := "available", desc := "()Z", sig := { parameters := [], returnType := some .boolean }, accessFlags := 0, code := some k2c5 }
def k2c6 : Code := { maxStack := 7, maxLocals := 3, code := prog_50_method_10_code, exceptionTable := #[], attributes := #[] }
def k2m6 : Method := { name := "grant", desc := "(J)J", sig := { parameters := [.long], returnType := some .long }, accessFlags := 0, code := some k2c6 }
/-- com/example/crisp_relay/crisprelay/session/RequestIds -/
def k2 : Class := { plain "com/example/crisp_relay/crisprelay/session/RequestIds" (some 0) with
  accessFlags := 32
  interfaces := #[]
  cf := some (fileOf pool2 2 #[] #[{ accessFlags := 0, nameIndex := 5, descriptorIndex := 110, attributes := #[] }, { accessFlags := 2, nameIndex := 5, descriptorIndex := 6, attributes := #[] }, { accessFlags := 8, nameIndex := 113, descriptorIndex := 114, attributes := #[] }, { accessFlags := 0, nameIndex := 25, descriptorIndex := 115, attributes := #[] }, { accessFlags := 0, nameIndex := 28, descriptorIndex := 115, attributes := #[] }, { accessFlags := 0, nameIndex := 39, descriptorIndex := 40, attributes := #[] }, { accessFlags := 0, nameIndex := 120, descriptorIndex := 121, attributes := #[] }] 32 8 #[] #[{ accessFlags := 18, nameIndex := 21, descriptorIndex := 22, attributes := #[] }, { accessFlags := 18, nameIndex := 31, descriptorIndex := 32, attributes := #[] }, { accessFlags := 2, nameIndex := 25, descriptorIndex := 22, attributes := #[] }, { accessFlags := 2, nameIndex := 28, descriptorIndex := 22, attributes := #[] }, { accessFlags := 18, nameIndex := 17, descriptorIndex := 18, attributes := #[] }])
  fields := #[{ name := "first", type := .long, accessFlags := 18, slot := 0, constantValue := 0 }, { name := "ordered", type := .boolean, accessFlags := 18, slot := 1, constantValue := 0 }, { name := "next", type := .long, accessFlags := 2, slot := 2, constantValue := 0 }, { name := "limit", type := .long, accessFlags := 2, slot := 3, constantValue := 0 }, { name := "taken", type := (.object "java/util/Set"), accessFlags := 18, slot := 4, constantValue := 0 }]
  methods := #[k2m0, k2m1, k2m2, k2m3, k2m4, k2m5, k2m6]
  instanceTypes := #[.long, .boolean, .long, .long, (.object "java/util/Set")]
  staticTypes := #[]
  resolved := Array.replicate 150 none
  statics := none }

def pool3 : Array CpInfo := pool [(8, .class_ 10), (1, u "java/lang/Iterable"), (24, .class_ 36), (0, u "java/lang/Object")] 25

/-- java/lang/Iterable -/
def k3 : Class := { plain "java/lang/Iterable" (some 0) with
  accessFlags := 1537
  interfaces := #[]
  cf := some (fileOf pool3 8 #[] #[] 1537 35 #[] #[])
  fields := #[]
  methods := #[]
  instanceTypes := #[]
  staticTypes := #[]
  resolved := Array.replicate 62 none
  statics := none }

def pool4 : Array CpInfo := pool [(10, .class_ 12), (1, u "java/util/Collection"), (47, .class_ 61), (0, u "java/lang/Object"), (0, .class_ 63), (0, u "java/lang/Iterable")] 51

/-- java/util/Collection -/
def k4 : Class := { plain "java/util/Collection" (some 0) with
  accessFlags := 1537
  interfaces := #[3]
  cf := some (fileOf pool4 10 #[] #[] 1537 60 #[62] #[])
  fields := #[]
  methods := #[]
  instanceTypes := #[]
  staticTypes := #[]
  resolved := Array.replicate 115 none
  statics := none }

def pool5 : Array CpInfo := pool [(1, .methodref 2 3), (0, .class_ 4), (0, .nameAndType 5 6), (0, u "java/lang/Object"), (0, u "<init>"), (0, u "()V"), (1, .class_ 10), (1, u "java/util/AbstractCollection"), (66, .class_ 78), (0, u "java/util/Collection")] 81

def k5c0 : Code := { maxStack := 1, maxLocals := 1, code := jdk_22_method_1_code, exceptionTable := #[], attributes := #[] }
def k5m0 : Method := { name := "<init>", desc := "()V", sig := { parameters := [], returnType := none }, accessFlags := 4, code := some k5c0 }
/-- java/util/AbstractCollection -/
def k5 : Class := { plain "java/util/AbstractCollection" (some 0) with
  accessFlags := 1057
  interfaces := #[4]
  cf := some (fileOf pool5 8 #[] #[{ accessFlags := 4, nameIndex := 5, descriptorIndex := 6, attributes := #[] }] 1057 2 #[77] #[])
  fields := #[]
  methods := #[k5m0]
  instanceTypes := #[]
  staticTypes := #[]
  resolved := Array.replicate 160 none
  statics := none }

def pool6 : Array CpInfo := pool [(26, .class_ 27), (0, u "java/lang/Object"), (5, .class_ 34), (0, u "java/util/Set"), (1, .class_ 38), (1, u "java/util/Collection")] 105

/-- java/util/Set -/
def k6 : Class := { plain "java/util/Set" (some 0) with
  accessFlags := 1537
  interfaces := #[4]
  cf := some (fileOf pool6 33 #[] #[] 1537 26 #[36] #[])
  fields := #[]
  methods := #[]
  instanceTypes := #[]
  staticTypes := #[]
  resolved := Array.replicate 144 none
  statics := none }

def pool7 : Array CpInfo := pool [(1, .methodref 2 3), (0, .class_ 4), (0, .nameAndType 5 6), (0, u "java/util/AbstractCollection"), (0, u "<init>"), (0, u "()V"), (0, .class_ 8), (0, u "java/util/Set"), (7, .class_ 17), (0, u "java/util/AbstractSet")] 78

def k7c0 : Code := { maxStack := 1, maxLocals := 1, code := jdk_91_method_1_code, exceptionTable := #[], attributes := #[] }
def k7m0 : Method := { name := "<init>", desc := "()V", sig := { parameters := [], returnType := none }, accessFlags := 4, code := some k7c0 }
/-- java/util/AbstractSet -/
def k7 : Class := { plain "java/util/AbstractSet" (some 5) with
  accessFlags := 1057
  interfaces := #[6]
  cf := some (fileOf pool7 16 #[] #[{ accessFlags := 4, nameIndex := 5, descriptorIndex := 6, attributes := #[] }] 1057 2 #[7] #[])
  fields := #[]
  methods := #[k7m0]
  instanceTypes := #[]
  staticTypes := #[]
  resolved := Array.replicate 96 none
  statics := none }

def pool8 : Array CpInfo := pool [(1, .class_ 2), (0, u "java/lang/Cloneable"), (0, .class_ 4), (0, u "java/lang/Object")] 2

/-- java/lang/Cloneable -/
def k8 : Class := { plain "java/lang/Cloneable" (some 0) with
  accessFlags := 1537
  interfaces := #[]
  cf := some (fileOf pool8 1 #[] #[] 1537 3 #[] #[])
  fields := #[]
  methods := #[]
  instanceTypes := #[]
  staticTypes := #[]
  resolved := Array.replicate 7 none
  statics := none }

def pool9 : Array CpInfo := pool [(1, .class_ 2), (0, u "java/io/Serializable"), (0, .class_ 4), (0, u "java/lang/Object")] 2

/-- java/io/Serializable -/
def k9 : Class := { plain "java/io/Serializable" (some 0) with
  accessFlags := 1537
  interfaces := #[]
  cf := some (fileOf pool9 1 #[] #[] 1537 3 #[] #[])
  fields := #[]
  methods := #[]
  instanceTypes := #[]
  staticTypes := #[]
  resolved := Array.replicate 7 none
  statics := none }

def pool10 : Array CpInfo := pool [(1, .methodref 2 3), (0, .class_ 4), (0, .nameAndType 5 6), (0, u "java/util/AbstractSet"), (0, u "<init>"), (0, u "()V"), (0, .class_ 8), (0, u "java/util/HashMap"), (0, .methodref 7 3), (0, .fieldref 11 12), (0, .class_ 13), (0, .nameAndType 14 15), (0, u "java/util/HashSet"), (0, u "map"), (0, u "Ljava/util/HashMap;"), (34, .class_ 52), (1, u "java/util/Set"), (13, u "PRESENT"), (0, u "Ljava/lang/Object;"), (158, .class_ 227), (0, u "java/lang/Cloneable"), (0, .class_ 229), (0, u "java/io/Serializable"), (0, u "serialVersionUID"), (0, u "J")] 71

def k10c0 : Code := { maxStack := 3, maxLocals := 1, code := jdk_93_method_1_code, exceptionTable := #[], attributes := #[] }
def k10m0 : Method := { name := "<init>", desc := "()V", sig := { parameters := [], returnType := none }, accessFlags := 1, code := some k10c0 }
/-- java/util/HashSet -/
def k10 : Class := { plain "java/util/HashSet" (some 7) with
  accessFlags := 33
  interfaces := #[6, 8, 9]
  cf := some (fileOf pool10 11 #[] #[{ accessFlags := 1, nameIndex := 5, descriptorIndex := 6, attributes := #[] }] 33 2 #[50, 226, 228] #[{ accessFlags := 24, nameIndex := 230, descriptorIndex := 231, attributes := #[] }, { accessFlags := 128, nameIndex := 14, descriptorIndex := 15, attributes := #[] }, { accessFlags := 24, nameIndex := 66, descriptorIndex := 67, attributes := #[] }])
  fields := #[{ name := "serialVersionUID", type := .long, accessFlags := 24, slot := 0, constantValue := 0 }, { name := "map", type := (.object "java/util/HashMap"), accessFlags := 128, slot := 0, constantValue := 0 }, { name := "PRESENT", type := (.object "java/lang/Object"), accessFlags := 24, slot := 1, constantValue := 0 }]
  methods := #[k10m0]
  instanceTypes := #[(.object "java/util/HashMap")]
  staticTypes := #[.long, (.object "java/lang/Object")]
  resolved := Array.replicate 303 none
  statics := none }

def pool11 : Array CpInfo := pool [(2, .class_ 4), (1, u "java/util/Map"), (31, .class_ 37), (0, u "java/util/Map$Entry"), (55, .class_ 94), (0, u "java/lang/Object")] 168

/-- java/util/Map -/
def k11 : Class := { plain "java/util/Map" (some 0) with
  accessFlags := 1537
  interfaces := #[]
  cf := some (fileOf pool11 2 #[.nestMembers #[36]] #[] 1537 93 #[] #[])
  fields := #[]
  methods := #[]
  instanceTypes := #[]
  staticTypes := #[]
  resolved := Array.replicate 263 none
  statics := none }

def pool12 : Array CpInfo := pool [(1, .methodref 2 3), (0, .class_ 4), (0, .nameAndType 5 6), (0, u "java/lang/Object"), (0, u "<init>"), (0, u "()V"), (1, .class_ 10), (1, u "java/util/AbstractMap"), (42, .class_ 54), (0, u "java/util/Map"), (9, u "keySet"), (0, u "Ljava/util/Set;"), (0, .class_ 67), (0, u "java/util/AbstractMap$1"), (5, u "values"), (0, u "Ljava/util/Collection;"), (0, .class_ 76), (0, u "java/util/AbstractMap$2"), (104, .class_ 182), (0, u "java/util/AbstractMap$ViewCollection"), (0, .class_ 184), (0, u "java/util/AbstractMap$SimpleImmutableEntry"), (0, .class_ 186), (0, u "java/util/AbstractMap$SimpleEntry"), (0, .class_ 188), (0, u "java/util/AbstractMap$2$1"), (0, .class_ 190), (0, u "java/util/AbstractMap$1$1")] 5

def k12c0 : Code := { maxStack := 1, maxLocals := 1, code := jdk_71_method_1_code, exceptionTable := #[], attributes := #[] }
def k12m0 : Method := { name := "<init>", desc := "()V", sig := { parameters := [], returnType := none }, accessFlags := 4, code := some k12c0 }
/-- java/util/AbstractMap -/
def k12 : Class := { plain "java/util/AbstractMap" (some 0) with
  accessFlags := 1057
  interfaces := #[11]
  cf := some (fileOf pool12 8 #[.nestMembers #[181, 183, 185, 75, 187, 66, 189]] #[{ accessFlags := 4, nameIndex := 5, descriptorIndex := 6, attributes := #[] }] 1057 2 #[53] #[{ accessFlags := 128, nameIndex := 64, descriptorIndex := 65, attributes := #[] }, { accessFlags := 128, nameIndex := 73, descriptorIndex := 74, attributes := #[] }])
  fields := #[{ name := "keySet", type := (.object "java/util/Set"), accessFlags := 128, slot := 0, constantValue := 0 }, { name := "values", type := (.object "java/util/Collection"), accessFlags := 128, slot := 1, constantValue := 0 }]
  methods := #[k12m0]
  instanceTypes := #[(.object "java/util/Set"), (.object "java/util/Collection")]
  staticTypes := #[]
  resolved := Array.replicate 196 none
  statics := none }

def pool13 : Array CpInfo := pool [(40, .class_ 41), (0, u "java/util/HashMap"), (1, .methodref 44 45), (0, .class_ 46), (0, .nameAndType 47 48), (0, u "java/util/AbstractMap"), (0, u "<init>"), (0, u "()V"), (32, .fieldref 40 82), (0, .nameAndType 83 84), (0, u "loadFactor"), (0, u "F"), (5, u "threshold"), (0, u "I"), (0, .float 1061158912), (8, .class_ 103), (1, u "java/util/Map"), (0, u "size"), (2, u "table"), (0, u "[Ljava/util/HashMap$Node;"), (14, u "entrySet"), (39, .class_ 165), (1, u "java/util/HashMap$Node"), (14, .class_ 181), (0, u "java/util/HashMap$TreeNode"), (22, u "modCount"), (37, u "Ljava/util/Set;"), (0, .class_ 244), (0, u "java/util/HashMap$KeySet"), (18, .class_ 264), (0, u "java/util/HashMap$Values"), (3, .class_ 269), (0, u "java/util/HashMap$EntrySet"), (76, .class_ 348), (1, u "java/util/HashMap$UnsafeHolder"), (43, .class_ 393), (0, u "java/lang/Cloneable"), (0, .class_ 395), (0, u "java/io/Serializable"), (0, u "serialVersionUID"), (0, u "J"), (3, u "DEFAULT_INITIAL_CAPACITY"), (1, u "MAXIMUM_CAPACITY"), (0, u "DEFAULT_LOAD_FACTOR"), (0, u "TREEIFY_THRESHOLD"), (1, u "UNTREEIFY_THRESHOLD"), (1, u "MIN_TREEIFY_CAPACITY"), (186, .class_ 597), (0, u "java/util/HashMap$EntrySpliterator"), (0, .class_ 599), (0, u "java/util/HashMap$ValueSpliterator"), (0, .class_ 601), (0, u "java/util/HashMap$KeySpliterator"), (0, .class_ 603), (0, u "java/util/HashMap$HashMapSpliterator"), (0, .class_ 605), (0, u "java/util/HashMap$EntryIterator"), (0, .class_ 607), (0, u "java/util/HashMap$ValueIterator"), (0, .class_ 609), (0, u "java/util/HashMap$KeyIterator"), (0, .class_ 611), (0, u "java/util/HashMap$HashIterator")] 17

def k13c0 : Code := { maxStack := 2, maxLocals := 1, code := jdk_69_method_7_code, exceptionTable := #[], attributes := #[] }
def k13m0 : Method := { name := "<init>", desc := "()V", sig := { parameters := [], returnType := none }, accessFlags := 1, code := some k13c0 }
/-- java/util/HashMap -/
def k13 : Class := { plain "java/util/HashMap" (some 12) with
  accessFlags := 33
  interfaces := #[11, 8, 9]
  cf := some (fileOf pool13 40 #[.nestMembers #[180, 596, 598, 600, 602, 604, 606, 608, 610, 346, 268, 263, 243, 163]] #[{ accessFlags := 1, nameIndex := 47, descriptorIndex := 48, attributes := #[] }] 33 44 #[101, 392, 394] #[{ accessFlags := 26, nameIndex := 396, descriptorIndex := 397, attributes := #[] }, { accessFlags := 24, nameIndex := 401, descriptorIndex := 91, attributes := #[] }, { accessFlags := 24, nameIndex := 403, descriptorIndex := 91, attributes := #[] }, { accessFlags := 24, nameIndex := 404, descriptorIndex := 84, attributes := #[] }, { accessFlags := 24, nameIndex := 405, descriptorIndex := 91, attributes := #[] }, { accessFlags := 24, nameIndex := 407, descriptorIndex := 91, attributes := #[] }, { accessFlags := 24, nameIndex := 409, descriptorIndex := 91, attributes := #[] }, { accessFlags := 128, nameIndex := 107, descriptorIndex := 108, attributes := #[] }, { accessFlags := 128, nameIndex := 123, descriptorIndex := 242, attributes := #[] }, { accessFlags := 128, nameIndex := 104, descriptorIndex := 91, attributes := #[] }, { accessFlags := 128, nameIndex := 204, descriptorIndex := 91, attributes := #[] }, { accessFlags := 0, nameIndex := 90, descriptorIndex := 91, attributes := #[] }, { accessFlags := 16, nameIndex := 83, descriptorIndex := 84, attributes := #[] }])
  fields := #[{ name := "serialVersionUID", type := .long, accessFlags := 26, slot := 0, constantValue := 0 }, { name := "DEFAULT_INITIAL_CAPACITY", type := .int, accessFlags := 24, slot := 1, constantValue := 0 }, { name := "MAXIMUM_CAPACITY", type := .int, accessFlags := 24, slot := 2, constantValue := 0 }, { name := "DEFAULT_LOAD_FACTOR", type := .float, accessFlags := 24, slot := 3, constantValue := 0 }, { name := "TREEIFY_THRESHOLD", type := .int, accessFlags := 24, slot := 4, constantValue := 0 }, { name := "UNTREEIFY_THRESHOLD", type := .int, accessFlags := 24, slot := 5, constantValue := 0 }, { name := "MIN_TREEIFY_CAPACITY", type := .int, accessFlags := 24, slot := 6, constantValue := 0 }, { name := "table", type := (.array (.object "java/util/HashMap$Node")), accessFlags := 128, slot := 2, constantValue := 0 }, { name := "entrySet", type := (.object "java/util/Set"), accessFlags := 128, slot := 3, constantValue := 0 }, { name := "size", type := .int, accessFlags := 128, slot := 4, constantValue := 0 }, { name := "modCount", type := .int, accessFlags := 128, slot := 5, constantValue := 0 }, { name := "threshold", type := .int, accessFlags := 0, slot := 6, constantValue := 0 }, { name := "loadFactor", type := .float, accessFlags := 16, slot := 7, constantValue := 0 }]
  methods := #[k13m0]
  instanceTypes := #[(.object "java/util/Set"), (.object "java/util/Collection"), (.array (.object "java/util/HashMap$Node")), (.object "java/util/Set"), .int, .int, .int, .float]
  staticTypes := #[.long, .int, .int, .float, .int, .int, .int]
  resolved := Array.replicate 629 none
  statics := none }

/-- the primitive byte -/
def k14 : Class := { plain "byte" none with kind := .primitive 'B', accessFlags := 0x411 }
/-- [B -/
def k15 : Class := { plain "[B" (some 0) with kind := .array 14 .byte, interfaces := #[8, 9], accessFlags := 1041 }

/-- the primitive int -/
def k16 : Class := { plain "int" none with kind := .primitive 'I', accessFlags := 0x411 }
/-- [I -/
def k17 : Class := { plain "[I" (some 0) with kind := .array 16 .int, interfaces := #[8, 9], accessFlags := 1041 }

def heap : Heap := #[]
def classes : Array Class := #[k0, k1, k2, k3, k4, k5, k6, k7, k8, k9, k10, k11, k12, k13, k14, k15, k16, k17]
def interned : List (Array UInt16 × Addr) := []
def slotsUsed : Nat := 0
def theMethod : MethodId := ⟨1, 1⟩
def args0 : Array Value := #[.long 5, .long 6, .long 7, .long 8, .int 9]
def aboutOver (below : List Frame) : State where
  vm := { classes := classes, interned := interned.toArray }
  heap := heap
  slotsUsed := slotsUsed
  threads := #[{ frames := .invoking theMethod args0 :: below }]
def below0 : List Frame := [.native { method := ⟨0, 0⟩, args := #[] }]
def about1 : State := aboutOver below0
def p0 : Program := .bare "" "" ""
def e0 : Env := launch0.env 0 0 0
theorem w_frames : about1.frames = Frame.invoking theMethod args0 :: below0 := rfl
set_option maxRecDepth 65536 in
theorem w_args : argsFit about1.vm theMethod args0 = true := by decide +kernel
set_option maxRecDepth 65536 in
theorem w_heap : heapFits about1 = true := by decide +kernel
set_option maxRecDepth 65536 in
theorem w_runnable : about1.curStatus? = some .runnable := by decide +kernel
set_option maxRecDepth 65536 in
theorem w_alone : about1.alone = true := by decide +kernel
set_option maxRecDepth 65536 in
theorem w_named : about1.methodNamed? x = some theMethod := by decide +kernel
set_option maxRecDepth 65536 in
theorem w_hears : about1.hears theMethod below0 = true := by decide +kernel
set_option maxRecDepth 65536 in
theorem w_ripe : about1.ripe theMethod args0 below0 = true := by decide +kernel
theorem w_running : about1.status = .running := rfl
set_option maxRecDepth 65536 in
theorem w_room : about1.hasRoom e0.platform room_1 = true :=
  launch0.hasRoom_least _ room_1 (by decide +kernel) (by decide +kernel) (by decide +kernel) (by decide +kernel) (by decide +kernel) (by decide +kernel)
theorem allAtoms_all (ts : List Jvm.Cond) (a : Array Jvm.Value) (st : Jvm.State) : (allAtoms ts).before a st = ts.all (fun c => c.before a st) := by
  induction ts with
  | nil => rfl
  | cons c t ih =>
    show (Jvm.Cond.and c (allAtoms t)).before a st = _
    rw [Jvm.Cond.before_and, ih, List.all_cons]
def words1 : List Jvm.Cond := Jvm.Cond.code x code maxLocals ret :: tables_1
/-- a 'code' word, met by the world's own term for the bytes: nothing is compared byte by byte -/
theorem code_word {y : MethodName} {bytes : ByteArray} {mx : Nat} {rt : Option FieldType} {a : Array Value} {s : State} {m : MethodId} {meth : Method} {c : Code} (h1 : s.methodNamed? y = some m) (h2 : s.vm.method? m = some meth) (h3 : meth.code = some c) (h4 : c.code = bytes)
    (h5 : (c.maxLocals == mx && c.exceptionTable.isEmpty && decide (c.maxStack ≤ mostOperands) && decide (meth.sig.returnType = rt) && !meth.locks && decide (parseMethodDescriptor y.desc = some meth.sig)) = true) : (Jvm.Cond.code y bytes mx rt).before a s = true := by
  simp only [Bool.and_eq_true, beq_iff_eq, Bool.not_eq_true', decide_eq_true_eq] at h5
  obtain ⟨⟨⟨⟨⟨g1, g2⟩, g3⟩, g4⟩, g5⟩, g6⟩ := h5
  simp [Cond.before, Cond.holds, Cond.value, h1, h2, h3, h4, g1, g2, g3, g4, g5, g6]
def isCode : Jvm.Cond → Bool
  | .code _ _ _ _ => true
  | _ => false
theorem all_split {L : List Jvm.Cond} {P : Jvm.Cond → Bool} (h1 : L.all (fun c => isCode c || P c) = true) (h2 : ∀ c ∈ L.filter isCode, P c = true) : L.all P = true := by
  refine List.all_eq_true.mpr fun c hc => ?_
  have h := List.all_eq_true.mp h1 c hc
  rcases Bool.eq_false_or_eq_true (isCode c) with hi | hi
  · exact h2 c (List.mem_filter.mpr ⟨hc, hi⟩)
  · simpa [hi] using h
set_option maxRecDepth 65536 in
theorem w_c0 : (Jvm.Cond.code x code maxLocals ret).before args0 about1 = true := code_word (m := ⟨1, 1⟩) (meth := k1m1) (c := k1c1) (by decide +kernel) rfl rfl rfl (by decide +kernel)
set_option maxRecDepth 65536 in
theorem w_c1 : (Jvm.Cond.code ({ cls := "com/example/crisp_relay/crisprelay/session/RequestIds", name := "unordered", desc := "(J)Lcom/example/crisp_relay/crisprelay/session/RequestIds;" } : Jvm.MethodName) prog_50_method_3_code (2 : Nat) (Option.some (Jvm.ClassFile.FieldType.object "com/example/crisp_relay/crisprelay/session/RequestIds"))).before args0 about1 = true := code_word (m := ⟨2, 2⟩) (meth := k2m2) (c := k2c2) (by decide +kernel) rfl rfl rfl (by decide +kernel)
set_option maxRecDepth 65536 in
theorem w_c2 : (Jvm.Cond.code ({ cls := "com/example/crisp_relay/crisprelay/session/RequestIds", name := "<init>", desc := "(JJZ)V" } : Jvm.MethodName) prog_50_method_2_code (6 : Nat) (Option.none : Option Jvm.ClassFile.FieldType)).before args0 about1 = true := code_word (m := ⟨2, 1⟩) (meth := k2m1) (c := k2c1) (by decide +kernel) rfl rfl rfl (by decide +kernel)
set_option maxRecDepth 65536 in
theorem w_c3 : (Jvm.Cond.code ({ cls := "java/lang/Object", name := "<init>", desc := "()V" } : Jvm.MethodName) object_method_1_code (1 : Nat) (Option.none : Option Jvm.ClassFile.FieldType)).before args0 about1 = true := code_word (m := ⟨0, 0⟩) (meth := k0m0) (c := k0c0) (by decide +kernel) rfl rfl rfl (by decide +kernel)
set_option maxRecDepth 65536 in
theorem w_c4 : (Jvm.Cond.code ({ cls := "java/util/HashSet", name := "<init>", desc := "()V" } : Jvm.MethodName) jdk_93_method_1_code (1 : Nat) (Option.none : Option Jvm.ClassFile.FieldType)).before args0 about1 = true := code_word (m := ⟨10, 0⟩) (meth := k10m0) (c := k10c0) (by decide +kernel) rfl rfl rfl (by decide +kernel)
set_option maxRecDepth 65536 in
theorem w_c5 : (Jvm.Cond.code ({ cls := "java/util/AbstractSet", name := "<init>", desc := "()V" } : Jvm.MethodName) jdk_91_method_1_code (1 : Nat) (Option.none : Option Jvm.ClassFile.FieldType)).before args0 about1 = true := code_word (m := ⟨7, 0⟩) (meth := k7m0) (c := k7c0) (by decide +kernel) rfl rfl rfl (by decide +kernel)
set_option maxRecDepth 65536 in
theorem w_c6 : (Jvm.Cond.code ({ cls := "java/util/AbstractCollection", name := "<init>", desc := "()V" } : Jvm.MethodName) jdk_22_method_1_code (1 : Nat) (Option.none : Option Jvm.ClassFile.FieldType)).before args0 about1 = true := code_word (m := ⟨5, 0⟩) (meth := k5m0) (c := k5c0) (by decide +kernel) rfl rfl rfl (by decide +kernel)
set_option maxRecDepth 65536 in
theorem w_c7 : (Jvm.Cond.code ({ cls := "java/util/HashMap", name := "<init>", desc := "()V" } : Jvm.MethodName) jdk_69_method_7_code (1 : Nat) (Option.none : Option Jvm.ClassFile.FieldType)).before args0 about1 = true := code_word (m := ⟨13, 0⟩) (meth := k13m0) (c := k13c0) (by decide +kernel) rfl rfl rfl (by decide +kernel)
set_option maxRecDepth 65536 in
theorem w_c8 : (Jvm.Cond.code ({ cls := "java/util/AbstractMap", name := "<init>", desc := "()V" } : Jvm.MethodName) jdk_71_method_1_code (1 : Nat) (Option.none : Option Jvm.ClassFile.FieldType)).before args0 about1 = true := code_word (m := ⟨12, 0⟩) (meth := k12m0) (c := k12c0) (by decide +kernel) rfl rfl rfl (by decide +kernel)
set_option maxRecDepth 65536 in
theorem w_c9 : (Jvm.Cond.code ({ cls := "com/example/crisp_relay/crisprelay/session/RequestIds", name := "grant", desc := "(J)J" } : Jvm.MethodName) prog_50_method_10_code (3 : Nat) (Option.some Jvm.ClassFile.FieldType.long)).before args0 about1 = true := code_word (m := ⟨2, 6⟩) (meth := k2m6) (c := k2c6) (by decide +kernel) rfl rfl rfl (by decide +kernel)
set_option maxRecDepth 65536 in
theorem w_c10 : (Jvm.Cond.code ({ cls := "com/example/crisp_relay/crisprelay/session/RequestIds", name := "limit", desc := "()J" } : Jvm.MethodName) prog_50_method_5_code (1 : Nat) (Option.some Jvm.ClassFile.FieldType.long)).before args0 about1 = true := code_word (m := ⟨2, 4⟩) (meth := k2m4) (c := k2c4) (by decide +kernel) rfl rfl rfl (by decide +kernel)
set_option maxRecDepth 65536 in
theorem w_c11 : (Jvm.Cond.code ({ cls := "com/example/crisp_relay/crisprelay/session/RequestIds", name := "next", desc := "()J" } : Jvm.MethodName) prog_50_method_4_code (1 : Nat) (Option.some Jvm.ClassFile.FieldType.long)).before args0 about1 = true := code_word (m := ⟨2, 3⟩) (meth := k2m3) (c := k2c3) (by decide +kernel) rfl rfl rfl (by decide +kernel)
set_option maxRecDepth 65536 in
theorem w_c12 : (Jvm.Cond.code ({ cls := "com/example/crisp_relay/crisprelay/session/RequestIds", name := "<init>", desc := "(JJ)V" } : Jvm.MethodName) prog_50_method_1_code (5 : Nat) (Option.none : Option Jvm.ClassFile.FieldType)).before args0 about1 = true := code_word (m := ⟨2, 0⟩) (meth := k2m0) (c := k2c0) (by decide +kernel) rfl rfl rfl (by decide +kernel)
set_option maxRecDepth 65536 in
theorem w_c13 : (Jvm.Cond.code ({ cls := "com/example/crisp_relay/crisprelay/session/RequestIds", name := "available", desc := "()Z" } : Jvm.MethodName) prog_50_method_6_code (1 : Nat) (Option.some Jvm.ClassFile.FieldType.boolean)).before args0 about1 = true := code_word (m := ⟨2, 5⟩) (meth := k2m5) (c := k2c5) (by decide +kernel) rfl rfl rfl (by decide +kernel)
def codes1 : List Jvm.Cond := [Jvm.Cond.code x code maxLocals ret, Jvm.Cond.code ({ cls := "com/example/crisp_relay/crisprelay/session/RequestIds", name := "unordered", desc := "(J)Lcom/example/crisp_relay/crisprelay/session/RequestIds;" } : Jvm.MethodName) prog_50_method_3_code (2 : Nat) (Option.some (Jvm.ClassFile.FieldType.object "com/example/crisp_relay/crisprelay/session/RequestIds")), Jvm.Cond.code ({ cls := "com/example/crisp_relay/crisprelay/session/RequestIds", name := "<init>", desc := "(JJZ)V" } : Jvm.MethodName) prog_50_method_2_code (6 : Nat) (Option.none : Option Jvm.ClassFile.FieldType), Jvm.Cond.code ({ cls := "java/lang/Object", name := "<init>", desc := "()V" } : Jvm.MethodName) object_method_1_code (1 : Nat) (Option.none : Option Jvm.ClassFile.FieldType), Jvm.Cond.code ({ cls := "java/util/HashSet", name := "<init>", desc := "()V" } : Jvm.MethodName) jdk_93_method_1_code (1 : Nat) (Option.none : Option Jvm.ClassFile.FieldType), Jvm.Cond.code ({ cls := "java/util/AbstractSet", name := "<init>", desc := "()V" } : Jvm.MethodName) jdk_91_method_1_code (1 : Nat) (Option.none : Option Jvm.ClassFile.FieldType), Jvm.Cond.code ({ cls := "java/util/AbstractCollection", name := "<init>", desc := "()V" } : Jvm.MethodName) jdk_22_method_1_code (1 : Nat) (Option.none : Option Jvm.ClassFile.FieldType), Jvm.Cond.code ({ cls := "java/util/HashMap", name := "<init>", desc := "()V" } : Jvm.MethodName) jdk_69_method_7_code (1 : Nat) (Option.none : Option Jvm.ClassFile.FieldType), Jvm.Cond.code ({ cls := "java/util/AbstractMap", name := "<init>", desc := "()V" } : Jvm.MethodName) jdk_71_method_1_code (1 : Nat) (Option.none : Option Jvm.ClassFile.FieldType), Jvm.Cond.code ({ cls := "com/example/crisp_relay/crisprelay/session/RequestIds", name := "grant", desc := "(J)J" } : Jvm.MethodName) prog_50_method_10_code (3 : Nat) (Option.some Jvm.ClassFile.FieldType.long), Jvm.Cond.code ({ cls := "com/example/crisp_relay/crisprelay/session/RequestIds", name := "limit", desc := "()J" } : Jvm.MethodName) prog_50_method_5_code (1 : Nat) (Option.some Jvm.ClassFile.FieldType.long), Jvm.Cond.code ({ cls := "com/example/crisp_relay/crisprelay/session/RequestIds", name := "next", desc := "()J" } : Jvm.MethodName) prog_50_method_4_code (1 : Nat) (Option.some Jvm.ClassFile.FieldType.long), Jvm.Cond.code ({ cls := "com/example/crisp_relay/crisprelay/session/RequestIds", name := "<init>", desc := "(JJ)V" } : Jvm.MethodName) prog_50_method_1_code (5 : Nat) (Option.none : Option Jvm.ClassFile.FieldType), Jvm.Cond.code ({ cls := "com/example/crisp_relay/crisprelay/session/RequestIds", name := "available", desc := "()Z" } : Jvm.MethodName) prog_50_method_6_code (1 : Nat) (Option.some Jvm.ClassFile.FieldType.boolean)]
set_option maxRecDepth 65536 in
theorem codes_eq : words1.filter isCode = codes1 := rfl
theorem w_codes : ∀ c ∈ words1.filter isCode, c.before args0 about1 = true := by
  rw [codes_eq]
  intro c hc
  simp only [codes1, List.mem_cons, List.not_mem_nil, or_false] at hc
  rcases hc with rfl | rfl | rfl | rfl | rfl | rfl | rfl | rfl | rfl | rfl | rfl | rfl | rfl | rfl
  · exact w_c0
  · exact w_c1
  · exact w_c2
  · exact w_c3
  · exact w_c4
  · exact w_c5
  · exact w_c6
  · exact w_c7
  · exact w_c8
  · exact w_c9
  · exact w_c10
  · exact w_c11
  · exact w_c12
  · exact w_c13
set_option maxRecDepth 65536 in
theorem w_t1 : (words1.take 24).all (fun c => isCode c || c.before args0 about1) = true := by decide +kernel
set_option maxRecDepth 65536 in
theorem w_t2 : ((words1.drop 24).take 24).all (fun c => isCode c || c.before args0 about1) = true := by decide +kernel
set_option maxRecDepth 65536 in
theorem w_t3 : (((words1.drop 24).drop 24).take 24).all (fun c => isCode c || c.before args0 about1) = true := by decide +kernel
set_option maxRecDepth 65536 in
theorem w_t4 : (((words1.drop 24).drop 24).drop 24).all (fun c => isCode c || c.before args0 about1) = true := by decide +kernel
theorem w_tables : (allAtoms (Jvm.Cond.code x code maxLocals ret :: tables_1)).before args0 about1 = true := by
  rw [allAtoms_all]
  show words1.all (fun c => c.before args0 about1) = true
  refine all_split ?_ w_codes
  rw [← List.take_append_drop 24 words1, List.all_append, w_t1, ← List.take_append_drop 24 (words1.drop 24), List.all_append, w_t2, ← List.take_append_drop 24 ((words1.drop 24).drop 24), List.all_append, w_t3, w_t4]
  rfl
set_option maxRecDepth 65536 in
theorem w_case : (Jvm.Cond.and given_1 narrow_1).before args0 about1 = true := by decide +kernel
theorem w_applies : (headSpec (Jvm.Cond.code x code maxLocals ret :: tables_1) room_1).applies x e0.platform about1 = true :=
  (Spec.applies_iff w_frames).mpr ⟨w_running, w_runnable, w_alone, w_named, w_hears, w_ripe, w_room, w_tables⟩
theorem atStart : AtStart classFile x code maxLocals ret World_1 tables_1 room_1 Calls_1 rest_1 Pre_1 launch0 p0 e0 about1 theMethod args0 below0 :=
  ⟨lists_1, trivial, launch0.admits_env _ _ _, launch0.least_env, fairChoices_fair.cas, fairChoices_fair.clock, w_frames, w_args, w_heap, w_applies, trivial, trivial, w_case⟩
end start1
theorem witness_1 : WitnessClaimed_1 := ⟨start1.p0, start1.e0, start1.about1, start1.theMethod, start1.args0, start1.below0, start1.atStart⟩
end Jvm.Pilot.@@N@@

import JvmDerived
import JvmDerived.Pilot.@@N@@Statement
import JvmDerived.Pilot.@@N@@Code
set_option linter.unusedVariables false
set_option linter.unusedSimpArgs false
namespace Jvm.Pilot.@@N@@
open Jvm Jvm.ClassFile Sem Op Lib Jvm.Free Jvm.Stand Jvm.LawKit Jvm.RoadKit Bundle Jvm.Pilot.@@N@@.Jvm.D
/-! own layer: forward walking in continuation style, arrays as functions -/
def own_R (tb : Tables) (e : Env) (below : List Frame) (P : State → Outcome → Prop) (st : State) : Prop := ∃ t o, Steps tb e below st t ∧ P t o
theorem own_fwd {tb : Tables} {e : Env} {below : List Frame} {P : State → Outcome → Prop} {st st' : State} (k : ∀ t, Steps tb e below st' t → Steps tb e below st t) (h : own_R tb e below P st') : own_R tb e below P st := by
  obtain ⟨t, o, h1, h2⟩ := h; exact ⟨t, o, k t h1, h2⟩
theorem own_trn {tb : Tables} {e : Env} {below : List Frame} {P : State → Outcome → Prop} {st st' : State} (k : Steps tb e below st st') (h : own_R tb e below P st') : own_R tb e below P st := own_fwd (fun _ q => k.trans q) h
theorem own_nm {tb : Tables} {e : Env} {below : List Frame} {P : State → Outcome → Prop} {st : State} (h : ∀ P' : State → Outcome → Prop, (∀ t o, P t o → P' t o) → own_R tb e below P' st) : own_R tb e below P st := h P fun _ _ q => q
/-- an array, n long, place i holds f i -/
def own_AV (Z : State) (h : Heap) (a : Addr) (ty : FieldType) (n : Nat) (f : Nat → Value) : Prop := ∃ c : Cell, Arr Z h a c ty ∧ c.slots.size = n ∧ n < 2 ^ 31 ∧ ∀ i, i < n → c.slots[i]? = some (f i)
abbrev own_AI (Z : State) (h : Heap) (a : Addr) (ty : FieldType) (n : Nat) (f : Nat → Int32) : Prop := own_AV Z h a ty n fun i => .int (f i)
abbrev own_AJ (Z : State) (h : Heap) (a : Addr) (n : Nat) (f : Nat → Int64) : Prop := own_AV Z h a .long n fun i => .long (f i)
def own_upd {α : Type} (f : Nat → α) (i : Nat) (x : α) : Nat → α := fun k => if k = i then x else f k
theorem own_upd_hit {α : Type} (f : Nat → α) (i : Nat) (x : α) : own_upd f i x i = x := if_pos rfl
theorem own_upd_miss {α : Type} (f : Nat → α) {i k : Nat} (x : α) (q : k ≠ i) : own_upd f i x k = f k := if_neg q
section Own
variable {p : Program} {l : Launch} {e : Env} {R : Room} {s : State} {m : MethodId} {args : Array Value} {below : List Frame} {meth : Method} {c : Code} {T : State} {locs : List Loc} {cells slots : Nat} {Z : State} {a0 : Array Value} {h h' : Heap} {a b : Addr} {ty : FieldType} {n : Nat} {f : Nat → Value} {v : Value} {sl : Nat}
theorem own_AV.lt (F : own_AV Z h a ty n f) : a < h.size := by obtain ⟨c, A, -⟩ := F; exact A.lt
theorem own_AV.bd (F : own_AV Z h a ty n f) : n < 2 ^ 31 := by obtain ⟨c, A, -, q, -⟩ := F; exact q
theorem own_AV.ext (F : own_AV Z h a ty n f) (E : Ext h h') : own_AV Z h' a ty n f := by obtain ⟨c, A, r⟩ := F; exact ⟨c, A.ext E, r⟩
theorem own_AV.other (F : own_AV Z h b ty n f) (W : Wr h h' a sl v) (q : b ≠ a) : own_AV Z h' b ty n f := by obtain ⟨c, A, r⟩ := F; exact ⟨c, A.other W q, r⟩
theorem own_AV.keep {ws : List Addr} (F : own_AV Z h a ty n f) (K : Keep h h' ws) (q : a ∉ ws) : own_AV Z h' a ty n f := by obtain ⟨c, A, r⟩ := F; exact ⟨c, ⟨K.2.1 a c A.1 q, A.2⟩, r⟩
theorem own_AV.cong {f' : Nat → Value} (F : own_AV Z h a ty n f) (q : ∀ i, i < n → f' i = f i) : own_AV Z h a ty n f' := by obtain ⟨c, A, r1, r2, r3⟩ := F; exact ⟨c, A, r1, r2, fun i hi => by rw [q i hi]; exact r3 i hi⟩
theorem own_clamp {j : Int32} {i : Nat} (hj : j.toInt = (i : Int)) : j.toNatClampNeg = i ∧ ¬ j < 0 := by
  have q0 : (0 : Int32).toInt = 0 := rfl
  exact ⟨by unfold Int32.toNatClampNeg; omega, by rw [Int32.lt_iff_toInt_lt]; omega⟩
theorem own_inb {cl : Cell} {j : Int32} {i : Nat} (hj : j.toInt = (i : Int)) (S : cl.slots.size = n) (hi : i < n) : ¬ (j < 0 ∨ cl.slots.size ≤ j.toNatClampNeg) := by
  obtain ⟨q1, q2⟩ := own_clamp hj
  rw [q1]; rintro (q | q)
  · exact q2 q
  · omega
theorem own_AV.new {k : ClassId} {z : Int32} (A : Arr Z h a (newA k ty z) ty) (hz : z.toInt = (n : Int)) : own_AV Z h a ty n (fun _ => defaultValue ty) := by
  obtain ⟨q1, q2⟩ := own_clamp hz
  have hb := z.toInt_lt
  refine ⟨_, A, by rw [sz_new]; exact q1, by omega, fun i hi => ?_⟩
  simp [newA, q1, hi]
theorem own_ldI (X : Stand p l e R s m args below meth c T locs cells slots) (hx : p.tables.exec = Jvm.exec) (hZ : Z.Warmed39 s.vm) (eT : T.heap = h) (F : own_AV Z h a .int n f) {j : Int32} (i : Nat) (hj : j.toInt = (i : Int)) (hi : i < n) {g : JFrame} (hg : g.method = m) {rest : List Value} (hs : g.stack = .int j :: .ref a :: rest) (hd : decode c.code g.pc = .ok (.iaload, 1)) :
    ∀ t, Steps p.tables e below (T.setTop { g with pc := g.pc + 1, stack := f i :: rest }) t → Steps p.tables e below (T.setTop g) t := fun t k => by
  obtain ⟨cl, A, S, -, H⟩ := F
  exact X.iaload hx (by rw [eT]; exact A.1) (State.isArrayOf_alike hZ.alike A.2.1) A.2.2 (own_inb hj S hi) (by rw [(own_clamp hj).1]; exact H i hi) hg hs hd t k
theorem own_ldS (X : Stand p l e R s m args below meth c T locs cells slots) (hx : p.tables.exec = Jvm.exec) (hZ : Z.Warmed39 s.vm) (eT : T.heap = h) (F : own_AV Z h a .short n f) {j : Int32} (i : Nat) (hj : j.toInt = (i : Int)) (hi : i < n) {g : JFrame} (hg : g.method = m) {rest : List Value} (hs : g.stack = .int j :: .ref a :: rest) (hd : decode c.code g.pc = .ok (.saload, 1)) :
    ∀ t, Steps p.tables e below (T.setTop { g with pc := g.pc + 1, stack := f i :: rest }) t → Steps p.tables e below (T.setTop g) t := fun t k => by
  obtain ⟨cl, A, S, -, H⟩ := F
  exact X.saload hx (by rw [eT]; exact A.1) (State.isArrayOf_alike hZ.alike A.2.1) A.2.2 (own_inb hj S hi) (by rw [(own_clamp hj).1]; exact H i hi) hg hs hd t k
theorem own_ldC (X : Stand p l e R s m args below meth c T locs cells slots) (hx : p.tables.exec = Jvm.exec) (hZ : Z.Warmed39 s.vm) (eT : T.heap = h) (F : own_AV Z h a .char n f) {j : Int32} (i : Nat) (hj : j.toInt = (i : Int)) (hi : i < n) {g : JFrame} (hg : g.method = m) {rest : List Value} (hs : g.stack = .int j :: .ref a :: rest) (hd : decode c.code g.pc = .ok (.caload, 1)) :
    ∀ t, Steps p.tables e below (T.setTop { g with pc := g.pc + 1, stack := f i :: rest }) t → Steps p.tables e below (T.setTop g) t := fun t k => by
  obtain ⟨cl, A, S, -, H⟩ := F
  exact X.caload hx (by rw [eT]; exact A.1) (State.isArrayOf_alike hZ.alike A.2.1) A.2.2 (own_inb hj S hi) (by rw [(own_clamp hj).1]; exact H i hi) hg hs hd t k
theorem own_ldJ (X : Stand p l e R s m args below meth c T locs cells slots) (hx : p.tables.exec = Jvm.exec) (hZ : Z.Warmed39 s.vm) (eT : T.heap = h) (F : own_AV Z h a .long n f) {j : Int32} (i : Nat) (hj : j.toInt = (i : Int)) (hi : i < n) {g : JFrame} (hg : g.method = m) {rest : List Value} (hs : g.stack = .int j :: .ref a :: rest) (hd : decode c.code g.pc = .ok (.laload, 1)) :
    ∀ t, Steps p.tables e below (T.setTop { g with pc := g.pc + 1, stack := f i :: rest }) t → Steps p.tables e below (T.setTop g) t := fun t k => by
  obtain ⟨cl, A, S, -, H⟩ := F
  exact X.laload hx (by rw [eT]; exact A.1) (State.isArrayOf_alike hZ.alike A.2.1) A.2.2 (own_inb hj S hi) (by rw [(own_clamp hj).1]; exact H i hi) hg hs hd t k
theorem own_len (X : Stand p l e R s m args below meth c T locs cells slots) (hx : p.tables.exec = Jvm.exec) (hZ : Z.Warmed39 s.vm) (eT : T.heap = h) (F : own_AV Z h a ty n f) (z : Int32) (hz : z.toInt = (n : Int)) {g : JFrame} (hg : g.method = m) {rest : List Value} (hs : g.stack = .ref a :: rest) (hd : decode c.code g.pc = .ok (.arraylength, 1)) :
    ∀ t, Steps p.tables e below (T.setTop { g with pc := g.pc + 1, stack := .int z :: rest }) t → Steps p.tables e below (T.setTop g) t := fun t k => by
  obtain ⟨cl, A, S, q, H⟩ := F
  have e1 : cl.slots.size.toInt32 = z := by
    rw [S]; apply Int32.toInt_inj.mp; rw [hz]; exact len_toInt q
  refine X.arraylength hx (by rw [eT]; exact A.1) (State.isArrayOf_alike hZ.alike A.2.1) hg hs hd t ?_
  rw [e1]; exact k
theorem own_AV.set {h' : Heap} {cl : Cell} {j : Int32} {i : Nat} {w : Value} (A : Arr Z h a cl ty) (S : cl.slots.size = n) (q : n < 2 ^ 31) (H : ∀ i, i < n → cl.slots[i]? = some (f i)) (hj : j.toInt = (i : Int)) (hi : i < n) (W : Wr h h' a j.toNatClampNeg w) : own_AV Z h' a ty n (own_upd f i w) := by
  rw [(own_clamp hj).1] at W
  refine ⟨_, A.same W, by rw [sz_set]; exact S, q, fun k hk => ?_⟩
  by_cases e : k = i
  · subst e; rw [own_upd_hit]; simp [Cell.setSlot, S, hi]
  · rw [own_upd_miss _ _ e]; simp only [Cell.setSlot]; rw [Array.getElem?_setIfInBounds_ne (Ne.symm e)]; exact H k hk
theorem own_stI {g0 : Nat → Int32} (X : Stand p l e R s m args below meth c T locs cells slots) (hx : p.tables.exec = Jvm.exec) (hZ : Z.Warmed39 s.vm) (eT : T.heap = h) (F : own_AI Z h a .int n g0) {j x : Int32} (i : Nat) (hj : j.toInt = (i : Int)) (hi : i < n) {g : JFrame} (hg : g.method = m) {rest : List Value} (hs : g.stack = .int x :: .int j :: .ref a :: rest) (hd : decode c.code g.pc = .ok (.iastore, 1)) :
    ∃ T' h', Stand p l e R s m args below meth c T' (locs ++ [⟨a, j.toNatClampNeg⟩]) cells slots ∧ T'.heap = h' ∧ Wr h h' a j.toNatClampNeg (.int x) ∧ own_AI Z h' a .int n (own_upd g0 i x) ∧ ∀ t, Steps p.tables e below (T'.setTop { g with pc := g.pc + 1, stack := rest }) t → Steps p.tables e below (T.setTop g) t := by
  obtain ⟨cl, A, S, q, H⟩ := F
  obtain ⟨T', h', X', e', W, st⟩ := stI X hx hZ eT A (own_inb hj S hi) hg hs hd
  exact ⟨T', h', X', e', W, (own_AV.set A S q H hj hi W).cong fun k _ => by simp only [own_upd]; split <;> rfl, st⟩
theorem own_stS {g0 : Nat → Int32} (X : Stand p l e R s m args below meth c T locs cells slots) (hx : p.tables.exec = Jvm.exec) (hZ : Z.Warmed39 s.vm) (eT : T.heap = h) (F : own_AI Z h a .short n g0) {j x : Int32} (i : Nat) (hj : j.toInt = (i : Int)) (hi : i < n) {g : JFrame} (hg : g.method = m) {rest : List Value} (hs : g.stack = .int x :: .int j :: .ref a :: rest) (hd : decode c.code g.pc = .ok (.sastore, 1)) :
    ∃ T' h', Stand p l e R s m args below meth c T' (locs ++ [⟨a, j.toNatClampNeg⟩]) cells slots ∧ T'.heap = h' ∧ Wr h h' a j.toNatClampNeg (.int (nar .short x)) ∧ own_AI Z h' a .short n (own_upd g0 i (nar .short x)) ∧ ∀ t, Steps p.tables e below (T'.setTop { g with pc := g.pc + 1, stack := rest }) t → Steps p.tables e below (T.setTop g) t := by
  obtain ⟨cl, A, S, q, H⟩ := F
  obtain ⟨T', h', X', e', W, st⟩ := stS X hx hZ eT A (own_inb hj S hi) hg hs hd
  exact ⟨T', h', X', e', W, (own_AV.set A S q H hj hi W).cong fun k _ => by simp only [own_upd]; split <;> rfl, st⟩
theorem own_stC {g0 : Nat → Int32} (X : Stand p l e R s m args below meth c T locs cells slots) (hx : p.tables.exec = Jvm.exec) (hZ : Z.Warmed39 s.vm) (eT : T.heap = h) (F : own_AI Z h a .char n g0) {j x : Int32} (i : Nat) (hj : j.toInt = (i : Int)) (hi : i < n) {g : JFrame} (hg : g.method = m) {rest : List Value} (hs : g.stack = .int x :: .int j :: .ref a :: rest) (hd : decode c.code g.pc = .ok (.castore, 1)) :
    ∃ T' h', Stand p l e R s m args below meth c T' (locs ++ [⟨a, j.toNatClampNeg⟩]) cells slots ∧ T'.heap = h' ∧ Wr h h' a j.toNatClampNeg (.int (nar .char x)) ∧ own_AI Z h' a .char n (own_upd g0 i (nar .char x)) ∧ ∀ t, Steps p.tables e below (T'.setTop { g with pc := g.pc + 1, stack := rest }) t → Steps p.tables e below (T.setTop g) t := by
  obtain ⟨cl, A, S, q, H⟩ := F
  obtain ⟨T', h', X', e', W, st⟩ := stC X hx hZ eT A (own_inb hj S hi) hg hs hd
  exact ⟨T', h', X', e', W, (own_AV.set A S q H hj hi W).cong fun k _ => by simp only [own_upd]; split <;> rfl, st⟩
theorem own_stJ {g0 : Nat → Int64} (X : Stand p l e R s m args below meth c T locs cells slots) (hx : p.tables.exec = Jvm.exec) (hZ : Z.Warmed39 s.vm) (eT : T.heap = h) (F : own_AJ Z h a n g0) {j : Int32} {x : Int64} (i : Nat) (hj : j.toInt = (i : Int)) (hi : i < n) {g : JFrame} (hg : g.method = m) {rest : List Value} (hs : g.stack = .long x :: .int j :: .ref a :: rest) (hd : decode c.code g.pc = .ok (.lastore, 1)) :
    ∃ T' h', Stand p l e R s m args below meth c T' (locs ++ [⟨a, j.toNatClampNeg⟩]) cells slots ∧ T'.heap = h' ∧ Wr h h' a j.toNatClampNeg (.long x) ∧ own_AJ Z h' a n (own_upd g0 i x) ∧ ∀ t, Steps p.tables e below (T'.setTop { g with pc := g.pc + 1, stack := rest }) t → Steps p.tables e below (T.setTop g) t := by
  obtain ⟨cl, A, S, q, H⟩ := F
  obtain ⟨T', h', X', e', W, st⟩ := stJ X hx hZ eT A (own_inb hj S hi) hg hs hd
  exact ⟨T', h', X', e', W, (own_AV.set A S q H hj hi W).cong fun k _ => by simp only [own_upd]; split <;> rfl, st⟩
theorem own_newA (X : Stand p l e R s m args below meth c T locs cells slots) (hx : p.tables.exec = Jvm.exec) (hZ : Z.Warmed39 s.vm) {aty : ArrayType} (w : (Cond.arrayClass (newarray.typeOf aty)).before a0 Z = true) (eT : T.heap = h) {z : Int32} (hz : z.toInt = (n : Int)) {cap : Nat} (hcap : n ≤ cap) {g : JFrame} (hg : g.method = m) (hd : decode c.code g.pc = .ok (.newarray aty, 2)) {rest : List Value} (hs : g.stack = .int z :: rest)
    (hb : cap * 8 ≤ 536870912) (hc : cells + 1 ≤ R.cells) (hl : slots + cap ≤ R.slots) {ad : String} (had : "[" ++ (newarray.typeOf aty).toString = ad) :
    ∃ T' h' b, b = h.size ∧ Stand p l e R s m args below meth c T' locs (cells + 1) (slots + cap) ∧ T'.heap = h' ∧ Ext h h' ∧ own_AV Z h' b (newarray.typeOf aty) n (fun _ => defaultValue (newarray.typeOf aty)) ∧ Exa Z h' b ad ∧
      ∀ t, Steps p.tables e below (T'.setTop { g with pc := g.pc + 2, stack := .ref b :: rest }) t → Steps p.tables e below (T.setTop g) t := by
  obtain ⟨q1, q2⟩ := own_clamp hz
  obtain ⟨T', h', k, X', e', E, A, Ea, st⟩ := newPE X hx hZ w eT hg hd hs q2 (by rw [q1]; exact hcap) hb hc hl had
  exact ⟨T', h', _, rfl, X', e', E, own_AV.new A hz, Ea, st⟩
end Own
def own_two {α : Type} (x y : α) : Nat → α
  | 0 => x
  | _ => y
theorem own_two_0 {α : Type} (x y : α) : own_two x y 0 = x := rfl
theorem own_two_1 {α : Type} (x y : α) : own_two x y 1 = y := rfl
theorem own_nlt {i n : Nat} (hi : i < n) (hn : n < 2 ^ 31) : i.toInt32 < n.toInt32 := by
  rw [Int32.lt_iff_toInt_lt, len_toInt hn, len_toInt (by omega)]; omega
theorem own_nge {i n : Nat} (hi : n ≤ i) (hn : i < 2 ^ 31) : ¬ i.toInt32 < n.toInt32 := by
  rw [Int32.lt_iff_toInt_lt, len_toInt hn, len_toInt (by omega)]; omega
theorem own_nsucc {i : Nat} (hn : i + 1 < 2 ^ 31) : i.toInt32 + (1 : Int32) = (i + 1).toInt32 := by
  have e1 : (1 : Int32).toInt = 1 := rfl
  have h1 := c_iadd i.toInt32 1
  have h2 := rng32 (i.toInt32 + 1)
  rw [← Int32.toInt_inj, len_toInt hn]
  rw [len_toInt (by omega), e1] at h1
  omega
theorem own_and3 (x : Int32) : (x &&& (3 : Int32)) = 0 ∨ (x &&& (3 : Int32)) = 1 ∨ (x &&& (3 : Int32)) = 2 ∨ (x &&& (3 : Int32)) = 3 := by
  have h := c_mask x 3 2 (by decide) (by decide)
  have e : ((2 ^ 2 : Nat) : Int) = 4 := by decide
  rw [e] at h
  have e0 : (0 : Int32).toInt = 0 := rfl
  have e1 : (1 : Int32).toInt = 1 := rfl
  have e2 : (2 : Int32).toInt = 2 := rfl
  have e3 : (3 : Int32).toInt = 3 := rfl
  simp only [← Int32.toInt_inj]
  omega
theorem own_i0 : (0 : Int32).toInt = 0 := rfl
theorem own_i1 : (1 : Int32).toInt = 1 := rfl
theorem own_add {a b : Int32} {i j : Nat} (ha : a.toInt = (i : Int)) (hb : b.toInt = (j : Int)) (h : i + j < 2 ^ 31) : (a + b).toInt = ((i + j : Nat) : Int) := by
  have a1 := c_iadd a b
  have r := rng32 (a + b)
  omega
abbrev own_PS : String := "com/example/erpctl/erpctl/core/model/PaymentStatus"
abbrev own_PD : String := "Lcom/example/erpctl/erpctl/core/model/PaymentStatus;"
/-- the constant f of the enum: its word's bytes -/
def own_St (Z : State) (h : Heap) (f : String) (n : Nat) (g : Nat → Int32) : Prop := ∃ st w v, Sta Z h own_PS f own_PD (.ref st) ∧ Exa Z h st own_PS ∧ Fld Z h st own_PS "word" "Ljava/lang/String;" (.ref w) ∧ Exa Z h w "java/lang/String" ∧ Fld Z h w "java/lang/String" "coder" "B" (.int (0 : Int32)) ∧ Fld Z h w "java/lang/String" "value" "[B" (.ref v) ∧ own_AI Z h v .byte n g
def own_tS (f : String) : Term := .static own_PS f own_PD
def own_tW (f : String) : Term := .field (own_tS f) own_PS "word" "Ljava/lang/String;"
def own_tV (f : String) : Term := .field (own_tW f) "java/lang/String" "value" "[B"
theorem own_len_v {args : Array Value} {s : State} {t : Term} {z : Int32} (h : (Cond.eq (.length t) (.int z)).value args s none s [] = some true) {x : Addr} (ht : t.eval args s none [] s = some (.ref x)) {cl : Cell} (hc : s.heap[x]? = some cl) : cl.slots.size < 2 ^ 31 ∧ cl.slots.size.toInt32 = z := by
  obtain ⟨u, y, e1, e2, k1, k2⟩ := cmp_v (Or.inl h)
  cases e2
  obtain ⟨x', cell, q1, q2, q3⟩ := Term.length_spec e1
  cases ht.symm.trans q1
  subst q3
  have q4 : cell = cl := by
    have q5 := q2
    simp only [State.arrayAt?, hc, Option.bind_eq_bind, Option.bind_some, Option.bind_eq_some_iff] at q5
    obtain ⟨k, -, q6⟩ := q5
    split at q6
    · cases q6
    · split at q6
      · cases q6; rfl
      · cases q6
  subst q4
  refine ⟨?_, ?_⟩
  · have e1' := e1
    simp only [Term.eval, ht] at e1'
    by_cases b : cell.slots.size < 2147483648
    · exact b
    · exfalso
      have q7 : (s.arrayAt? x).bind (fun y : Cell => if y.slots.size < 2147483648 then some (Value.int y.slots.size.toInt32) else none) = some (Value.int cell.slots.size.toInt32) := e1'
      rw [q2, Option.bind_some, if_neg b] at q7
      cases q7
  · exact gotT (Cond.eq_ints e1 (Term.int_eval z)) h
theorem own_elem_v {args : Array Value} {s : State} {t : Term} {j z : Int32} (h : (Cond.eq (.elem t (.int j)) (.int z)).value args s none s [] = some true) {x : Addr} (ht : t.eval args s none [] s = some (.ref x)) {cl : Cell} (hc : s.heap[x]? = some cl) : cl.slots[j.toNatClampNeg]? = some (.int z) := by
  obtain ⟨u, y, e1, e2, k1, k2⟩ := cmp_v (Or.inl h)
  cases e2
  obtain ⟨zz, rfl⟩ : ∃ q, u = .int q := k2
  have q := gotT (Cond.eq_ints e1 (Term.int_eval z)) h
  subst q
  exact (elem_in e1 ht (Term.int_eval j) hc).2
theorem own_st0 {s : State} {args : Array Value} {f : String} {n : Nat} {g : Nat → Int32} (wl : (Cond.laysStatic own_PS f own_PD).before args s = true) (wi : (Cond.initialized own_PS).before args s = true)
    (c1 : (Cond.exactly (own_tS f) own_PS).value args s none s [] = some true) (c2 : (Cond.exactly (own_tW f) "java/lang/String").value args s none s [] = some true) (c3 : (Cond.eq (.field (own_tW f) "java/lang/String" "coder" "B") (.int (0 : Int32))).value args s none s [] = some true) (c4 : (Cond.arrayOf (own_tV f) .byte).value args s none s [] = some true)
    (c5 : (Cond.eq (.length (own_tV f)) (.int (Int32.ofNat n))).value args s none s [] = some true) (hn : n < 100) (c6 : ∀ i, i < n → (Cond.eq (.elem (own_tV f) (.int (Int32.ofNat i))) (.int (g i))).value args s none s [] = some true) : own_St s s.heap f n g := by
  obtain ⟨st, e1⟩ := exa_v c1
  obtain ⟨w, e2⟩ := exa_v c2
  obtain ⟨v, e3⟩ := arr_v c4
  obtain ⟨cl, A⟩ := Arr.start e3 c4
  obtain ⟨b, e5⟩ := own_len_v c5 e3 A.1
  have sz : cl.slots.size = n := by
    have q := congrArg Int32.toInt e5
    rw [len_toInt b, show (Int32.ofNat n).toInt = (n : Int) from len_toInt (by omega)] at q
    omega
  refine ⟨st, w, v, Sta.start e1 (Or.inr ⟨wi, wl⟩), Exa.start e1 c1, Fld.start (by rw [← fld_at e1]; exact e2), Exa.start e2 c2, Fld.start ?_, Fld.start (by rw [← fld_at e2]; exact e3), cl, A, sz, by omega, fun i hi => ?_⟩
  · obtain ⟨u, y, q1, q2, k1, k2⟩ := cmp_v (Or.inl c3)
    cases q2
    obtain ⟨zz, rfl⟩ : ∃ q, u = .int q := k2
    have q := gotT (Cond.eq_ints q1 (Term.int_eval 0)) c3
    subst q
    rw [← fld_at e2]; exact q1
  · have q := own_elem_v (c6 i hi) e3 A.1
    rw [(own_clamp (show (Int32.ofNat i).toInt = (i : Int) from len_toInt (by omega))).1] at q
    exact q
theorem own_of_arv {Z : State} {h : Heap} {a : Addr} {k : ClassId} {z : Int32} {L : List Int32} {n : Nat} (F : Arv Z h a k .byte z (L.map Value.int) (.int 0)) (hz : z.toInt = (n : Int)) : own_AI Z h a .byte n (fun i => L.getD i 0) := by
  obtain ⟨c, A, -, S, -, H, -⟩ := F
  have hb := z.toInt_lt
  refine ⟨c, A, by rw [S, (own_clamp hz).1], by omega, fun i hi => ?_⟩
  rw [H i (by rw [S, (own_clamp hz).1]; exact hi)]
  congr 1
  simp only [List.getD, List.getElem?_map]
  cases L[i]? <;> rfl
theorem own_ldB {p : Program} {l : Launch} {e : Env} {R : Room} {s : State} {m : MethodId} {args : Array Value} {below : List Frame} {meth : Method} {c : Code} {T : State} {locs : List Loc} {cells slots : Nat} {Z : State} {h : Heap} {a : Addr} {n : Nat} {f : Nat → Value} (X : Stand p l e R s m args below meth c T locs cells slots) (hx : p.tables.exec = Jvm.exec) (hZ : Z.Warmed39 s.vm) (eT : T.heap = h) (F : own_AV Z h a .byte n f) {j : Int32} (i : Nat) (hj : j.toInt = (i : Int)) (hi : i < n) {g : JFrame} (hg : g.method = m) {rest : List Value} (hs : g.stack = .int j :: .ref a :: rest) (hd : decode c.code g.pc = .ok (.baload, 1)) :
    ∀ t, Steps p.tables e below (T.setTop { g with pc := g.pc + 1, stack := f i :: rest }) t → Steps p.tables e below (T.setTop g) t := fun t k => by
  obtain ⟨cl, A, S, -, H⟩ := F
  exact X.baloadBytes hx (by rw [eT]; exact A.1) (State.isArrayOf_alike hZ.alike A.2.1) A.2.2 (own_inb hj S hi) (by rw [(own_clamp hj).1]; exact H i hi) hg hs hd t k
theorem own_sel (x : Int32) : ((x &&& (2147483647 : Int32)) % (5 : Int32)) = 0 ∨ ((x &&& (2147483647 : Int32)) % (5 : Int32)) = 1 ∨ ((x &&& (2147483647 : Int32)) % (5 : Int32)) = 2 ∨ ((x &&& (2147483647 : Int32)) % (5 : Int32)) = 3 ∨ ((x &&& (2147483647 : Int32)) % (5 : Int32)) = 4 := by
  have h := (c_andS x 2147483647).2.2 (by decide)
  have k := (c_irem (x &&& (2147483647 : Int32)) 5 5 rfl).1 h
  have e2 : (2 : Int32).toInt = 2 := rfl
  have e3 : (3 : Int32).toInt = 3 := rfl
  have e4 : (4 : Int32).toInt = 4 := rfl
  simp only [← Int32.toInt_inj, own_i0, own_i1, e2, e3, e4]
  omega
theorem own_d2_0 : decode prog_12_method_4_code 0 = .ok (.aload_n 0, 1) := by decide +kernel
theorem own_d2_1 : decode prog_12_method_4_code 1 = .ok (.getfield 35, 3) := by decide +kernel
theorem own_d2_4 : decode prog_12_method_4_code 4 = .ok (.areturn, 1) := by decide +kernel
theorem own_pn0 : plainName "com/example/erpctl/erpctl/core/model/PaymentStatus" = true := by first | (simp [plainName, overriddenIn]; done) | decide +kernel
theorem own_ef2 (m : MethodId) (a1 : Addr) : entryFrame m #[(.ref a1)] 1 = mkF m 0 #[.val (.ref a1)] [] := by first | (simp [entryFrame, mkF, argsToLocals, Value.category]; done) | rfl
def own_Q2 (Z : State) (a1 u : Addr) (h0 : Heap) (n0 : Nat) (v : Option Value) (h : Heap) (L : List Loc) : Prop := v = some (.ref u) ∧ Fr n0 L ∧ h = h0
set_option maxRecDepth 65536 in
set_option maxHeartbeats 40000000 in
theorem own_rm2 (l : Launch) (Z : State) (a0 : Array Value) (hw : ∀ d ∈ tables_1, d.before a0 Z = true) (ws : List Jvm.Cond) (a1 u : Addr) (h0 : Heap) (n0 : Nat) (Z0 : n0 ≤ h0.size) (pF : Fld Z h0 a1 "com/example/erpctl/erpctl/core/model/PaymentStatus" "word" "Ljava/lang/String;" (.ref u)) :
    MetFree l (⟨"com/example/erpctl/erpctl/core/model/PaymentStatus", "word", "()Ljava/lang/String;"⟩ : MethodName) (head1 (Jvm.Cond.code (⟨"com/example/erpctl/erpctl/core/model/PaymentStatus", "word", "()Ljava/lang/String;"⟩ : MethodName) prog_12_method_4_code 1 (some (.object "java/lang/String")) :: ws) ({ frames := 0, cells := 0, slots := 0, locals := 0 } : Room)) (fun a U => a = #[(.ref a1)] ∧ Z.Warmed39 U.vm ∧ U.heap = h0) (fun _ _ _ _ _ => True) (fun _ U o U' => ∃ v L, o = .returned v ∧ own_Q2 Z a1 u h0 n0 v U'.heap L ∧ FrameEnd U o U' L ({ frames := 0, cells := 0, slots := 0, locals := 0 } : Room).cells ({ frames := 0, cells := 0, slots := 0, locals := 0 } : Room).slots) := by
  refine MetFree.of_bodySF (plainFor_of_name own_pn0) hisR ?_
  intro p e s m args below meth c s₁ Bd hml0 hP hK
  obtain ⟨rfl, hZ, hh⟩ := hP
  have hx := Bd.exec
  have hby := Bd.bytes
  have hml : c.maxLocals = 1 := hml0
  have hown : s.vm.findClass "com/example/erpctl/erpctl/core/model/PaymentStatus" = some m.cls := findClass_of_methodNamed Bd.named
  have hnm := (name_of_methodNamed Bd.named Bd.method).1
  have X0 : Stand p l e ({ frames := 0, cells := 0, slots := 0, locals := 0 } : Room) s m #[(.ref a1)] below meth c s₁ [] 0 0 := Stand.of_body Bd
  have e0 : s₁.heap = h0 := by rw [← hh, Bd.state]; rfl
  have N0 := Fr.nil n0
  refine own_nm (st := s₁.setTop (entryFrame m #[(.ref a1)] 1)) fun P fin => ?_
  refine own_fwd (fun tt kt => castTop (own_ef2 m a1) kt) ?_
  show own_R p.tables e below P (s₁.setTop (mkF m 0 #[.val (.ref a1)] []))
  refine own_fwd (fun tt kt => XS.aloadN X0.here hx rfl (hb hby own_d2_0) rfl rfl kt) ?_
  show own_R p.tables e below P (s₁.setTop (mkF m 1 #[.val (.ref a1)] [(.ref a1)]))
  obtain ⟨T1, X1, e1, st1⟩ := getF X0 hx hZ hown (host := "") (Or.inl (hw _ (List.mem_of_getElem? (i := 20) rfl))) Via.refl e0 pF (g := (mkF m 1 #[.val (.ref a1)] [(.ref a1)])) rfl rfl (hb hby own_d2_1)
  refine own_fwd st1 ?_
  show own_R p.tables e below P (T1.setTop (mkF m 4 #[.val (.ref a1)] [(.ref u)]))
  obtain ⟨fs2, hr2, hrun2, hended2, hW2, hsame2⟩ := X1.leave (v := some (.ref u)) (fun h => by rw [Bd.returns] at h; cases h)
  refine ⟨_, _, X1.areturnOut hx rfl Bd.returns rfl (hb hby own_d2_4) hr2, fin _ _ ⟨hrun2, hended2, _, _, rfl, ?_, ⟨_, rfl⟩, hW2, hsame2.mono (by decide) (by decide)⟩⟩
  show own_Q2 Z a1 u h0 n0 _ T1.heap _
  rw [e1]
  exact ⟨rfl, N0, rfl⟩
theorem own_d1_0 : decode prog_12_method_5_code 0 = .ok (.aload_n 0, 1) := by decide +kernel
theorem own_d1_1 : decode prog_12_method_5_code 1 = .ok (.ifnonnull 7, 3) := by decide +kernel
theorem own_d1_4 : decode prog_12_method_5_code 4 = .ok (.aconst_null, 1) := by decide +kernel
theorem own_d1_5 : decode prog_12_method_5_code 5 = .ok (.goto 7, 3) := by decide +kernel
theorem own_d1_8 : decode prog_12_method_5_code 8 = .ok (.aload_n 0, 1) := by decide +kernel
theorem own_d1_9 : decode prog_12_method_5_code 9 = .ok (.invokevirtual 39, 3) := by decide +kernel
theorem own_d1_12 : decode prog_12_method_5_code 12 = .ok (.areturn, 1) := by decide +kernel
theorem own_pd0 : parseMethodDescriptor "()Ljava/lang/String;" = some ⟨[], some (.object "java/lang/String")⟩ := by decide +kernel
theorem own_ef1 (m : MethodId) (a1 : Addr) : entryFrame m #[(.ref a1)] 1 = mkF m 0 #[.val (.ref a1)] [] := by first | (simp [entryFrame, mkF, argsToLocals, Value.category]; done) | rfl
def own_Q1 (Z : State) (a1 u : Addr) (h0 : Heap) (n0 : Nat) (v : Option Value) (h : Heap) (L : List Loc) : Prop := v = some (.ref u) ∧ Fr n0 L ∧ h = h0
set_option maxRecDepth 65536 in
set_option maxHeartbeats 40000000 in
theorem own_rm1 (l : Launch) (Z : State) (a0 : Array Value) (hw : ∀ d ∈ tables_1, d.before a0 Z = true) (ws : List Jvm.Cond) (a1 u : Addr) (h0 : Heap) (n0 : Nat) (Z0 : n0 ≤ h0.size) (pE : Exa Z h0 a1 "com/example/erpctl/erpctl/core/model/PaymentStatus") (pF : Fld Z h0 a1 "com/example/erpctl/erpctl/core/model/PaymentStatus" "word" "Ljava/lang/String;" (.ref u)) :
    MetFree l (⟨"com/example/erpctl/erpctl/core/model/PaymentStatus", "wordOf", "(Lcom/example/erpctl/erpctl/core/model/PaymentStatus;)Ljava/lang/String;"⟩ : MethodName) (head1 (Jvm.Cond.code (⟨"com/example/erpctl/erpctl/core/model/PaymentStatus", "wordOf", "(Lcom/example/erpctl/erpctl/core/model/PaymentStatus;)Ljava/lang/String;"⟩ : MethodName) prog_12_method_5_code 1 (some (.object "java/lang/String")) :: ws) ({ frames := 1, cells := 0, slots := 0, locals := 12 } : Room)) (fun a U => a = #[(.ref a1)] ∧ Z.Warmed39 U.vm ∧ U.heap = h0) (fun _ _ _ _ _ => True) (fun _ U o U' => ∃ v L, o = .returned v ∧ own_Q1 Z a1 u h0 n0 v U'.heap L ∧ FrameEnd U o U' L ({ frames := 1, cells := 0, slots := 0, locals := 12 } : Room).cells ({ frames := 1, cells := 0, slots := 0, locals := 12 } : Room).slots) := by
  refine MetFree.of_bodySF (plainFor_of_name own_pn0) hisR ?_
  intro p e s m args below meth c s₁ Bd hml0 hP hK
  obtain ⟨rfl, hZ, hh⟩ := hP
  have hx := Bd.exec
  have hby := Bd.bytes
  have hml : c.maxLocals = 1 := hml0
  have hown : s.vm.findClass "com/example/erpctl/erpctl/core/model/PaymentStatus" = some m.cls := findClass_of_methodNamed Bd.named
  have hnm := (name_of_methodNamed Bd.named Bd.method).1
  have X0 : Stand p l e ({ frames := 1, cells := 0, slots := 0, locals := 12 } : Room) s m #[(.ref a1)] below meth c s₁ [] 0 0 := Stand.of_body Bd
  have e0 : s₁.heap = h0 := by rw [← hh, Bd.state]; rfl
  have N0 := Fr.nil n0
  refine own_nm (st := s₁.setTop (entryFrame m #[(.ref a1)] 1)) fun P fin => ?_
  refine own_fwd (fun tt kt => castTop (own_ef1 m a1) kt) ?_
  show own_R p.tables e below P (s₁.setTop (mkF m 0 #[.val (.ref a1)] []))
  refine own_fwd (fun tt kt => XS.aloadN X0.here hx rfl (hb hby own_d1_0) rfl rfl kt) ?_
  show own_R p.tables e below P (s₁.setTop (mkF m 1 #[.val (.ref a1)] [(.ref a1)]))
  refine own_fwd (fun tt kt => XS.ifnonnullYes X0.here hx rfl (pc0 := 1) (pc' := 8) rfl (hb hby own_d1_1) rfl (by decide) (by decide) kt) ?_
  show own_R p.tables e below P (s₁.setTop (mkF m 8 #[.val (.ref a1)] []))
  refine own_fwd (fun tt kt => XS.aloadN X0.here hx rfl (hb hby own_d1_8) rfl rfl kt) ?_
  show own_R p.tables e below P (s₁.setTop (mkF m 9 #[.val (.ref a1)] [(.ref a1)]))
  obtain ⟨cq3, kq3, q3a, q3b, q3c⟩ := isOf hZ e0 pE
  obtain ⟨_, _, ⟨T3, L3, k3, n3⟩, -, X3, ⟨Lc3, hQ3, l3, y3, z3⟩, st3⟩ := X0.virtualBack hx (y := (⟨"com/example/erpctl/erpctl/core/model/PaymentStatus", "word", "()Ljava/lang/String;"⟩ : MethodName)) (z := (⟨"com/example/erpctl/erpctl/core/model/PaymentStatus", "word", "()Ljava/lang/String;"⟩ : MethodName)) hown (mvT hZ (hw _ (List.mem_of_getElem? (i := 15) rfl))) (mvT hZ (hw _ (List.mem_of_getElem? (i := 16) rfl))) (notFace_of_selects (args := #[]) (mvT hZ (hw _ (List.mem_of_getElem? (i := 18) rfl)))) (mvT hZ (hw _ (List.mem_of_getElem? (i := 18) rfl))) (mvT hZ (hw _ (List.mem_of_getElem? (i := 17) rfl))) (by decide) (backOf (W := 0) (own_rm2 l Z a0 hw [] a1 u h0 n0 Z0 pF) hZ (hw _ (List.mem_of_getElem? (i := 19) rfl)) (hw _ (List.mem_of_getElem? (i := 2) rfl)) (by decide) (by decide)) q3a q3c (g := (mkF m 9 #[.val (.ref a1)] [(.ref a1)])) rfl (by rw [hml]; rfl) (Steps.refl _) (argsL := []) (rest := []) (lenOf own_pd0 rfl) rfl (by show 2 * 0 + _ ≤ _; exact Nat.le_of_eq rfl) (hb hby own_d1_9) (fun _ _ => ⟨rfl, e0, (by decide : 0 + 0 ≤ _), (by decide : 0 + 0 ≤ _)⟩)
  dsimp only [Pt.U, Pt.locs, Pt.cells, Pt.slots] at X3 l3 y3 z3 st3 hQ3
  rw [l3, (show k3 = 0 from y3), (show n3 = 0 from z3)] at X3
  obtain ⟨h3, e3⟩ : ∃ z, T3.heap = z := ⟨_, rfl⟩
  rw [e3] at hQ3
  obtain ⟨hq3, N3q, q3⟩ := hQ3
  rw [q3] at e3
  rw [hq3] at st3
  have N3 := Fr.app N0 N3q
  refine own_trn st3 ?_
  show own_R p.tables e below P (T3.setTop (mkF m 12 #[.val (.ref a1)] [(.ref u)]))
  obtain ⟨fs4, hr4, hrun4, hended4, hW4, hsame4⟩ := X3.leave (v := some (.ref u)) (fun h => by rw [Bd.returns] at h; cases h)
  refine ⟨_, _, X3.areturnOut hx rfl Bd.returns rfl (hb hby own_d1_12) hr4, fin _ _ ⟨hrun4, hended4, _, _, rfl, ?_, ⟨_, rfl⟩, hW4, hsame4.mono (by decide) (by decide)⟩⟩
  show own_Q1 Z a1 u h0 n0 _ T3.heap _
  rw [e3]
  exact ⟨rfl, N3, rfl⟩
theorem own_efwnull (m : MethodId)  : entryFrame m #[.null] 1 = mkF m 0 #[.val .null] [] := by first | (simp [entryFrame, mkF, argsToLocals, Value.category]; done) | rfl
def own_Qwnull (Z : State)  (h0 : Heap) (n0 : Nat) (v : Option Value) (h : Heap) (L : List Loc) : Prop := v = some .null ∧ Fr n0 L ∧ h = h0
set_option maxRecDepth 65536 in
set_option maxHeartbeats 40000000 in
theorem own_rmwnull (l : Launch) (Z : State) (a0 : Array Value) (hw : ∀ d ∈ tables_1, d.before a0 Z = true) (ws : List Jvm.Cond)  (h0 : Heap) (n0 : Nat) (Z0 : n0 ≤ h0.size) :
    MetFree l (⟨"com/example/erpctl/erpctl/core/model/PaymentStatus", "wordOf", "(Lcom/example/erpctl/erpctl/core/model/PaymentStatus;)Ljava/lang/String;"⟩ : MethodName) (head1 (Jvm.Cond.code (⟨"com/example/erpctl/erpctl/core/model/PaymentStatus", "wordOf", "(Lcom/example/erpctl/erpctl/core/model/PaymentStatus;)Ljava/lang/String;"⟩ : MethodName) prog_12_method_5_code 1 (some (.object "java/lang/String")) :: ws) ({ frames := 0, cells := 0, slots := 0, locals := 0 } : Room)) (fun a U => a = #[.null] ∧ Z.Warmed39 U.vm ∧ U.heap = h0) (fun _ _ _ _ _ => True) (fun _ U o U' => ∃ v L, o = .returned v ∧ own_Qwnull Z  h0 n0 v U'.heap L ∧ FrameEnd U o U' L ({ frames := 0, cells := 0, slots := 0, locals := 0 } : Room).cells ({ frames := 0, cells := 0, slots := 0, locals := 0 } : Room).slots) := by
  refine MetFree.of_bodySF (plainFor_of_name own_pn0) hisR ?_
  intro p e s m args below meth c s₁ Bd hml0 hP hK
  obtain ⟨rfl, hZ, hh⟩ := hP
  have hx := Bd.exec
  have hby := Bd.bytes
  have hml : c.maxLocals = 1 := hml0
  have hown : s.vm.findClass "com/example/erpctl/erpctl/core/model/PaymentStatus" = some m.cls := findClass_of_methodNamed Bd.named
  have hnm := (name_of_methodNamed Bd.named Bd.method).1
  have X0 : Stand p l e ({ frames := 0, cells := 0, slots := 0, locals := 0 } : Room) s m #[.null] below meth c s₁ [] 0 0 := Stand.of_body Bd
  have e0 : s₁.heap = h0 := by rw [← hh, Bd.state]; rfl
  have N0 := Fr.nil n0
  refine own_nm (st := s₁.setTop (entryFrame m #[.null] 1)) fun P fin => ?_
  refine own_fwd (fun tt kt => castTop (own_efwnull m ) kt) ?_
  show own_R p.tables e below P (s₁.setTop (mkF m 0 #[.val .null] []))
  refine own_fwd (fun tt kt => XS.aloadN X0.here hx rfl (hb hby own_d1_0) rfl rfl kt) ?_
  show own_R p.tables e below P (s₁.setTop (mkF m 1 #[.val .null] [.null]))
  refine own_fwd (fun tt kt => XS.ifnonnullNo X0.here hx rfl (hb hby own_d1_1) rfl kt) ?_
  show own_R p.tables e below P (s₁.setTop (mkF m 4 #[.val .null] []))
  refine own_fwd (fun tt kt => XS.aconstNull X0.here hx rfl (hb hby own_d1_4) kt) ?_
  show own_R p.tables e below P (s₁.setTop (mkF m 5 #[.val .null] [.null]))
  refine own_fwd (fun tt kt => XS.goto X0.here hx rfl (pc0 := 5) (pc' := 12) rfl (hb hby own_d1_5) (by decide) (by decide) kt) ?_
  show own_R p.tables e below P (s₁.setTop (mkF m 12 #[.val .null] [.null]))
  obtain ⟨fs5, hr5, hrun5, hended5, hW5, hsame5⟩ := X0.leave (v := some .null) (fun h => by rw [Bd.returns] at h; cases h)
  refine ⟨_, _, X0.areturnOut hx rfl Bd.returns rfl (hb hby own_d1_12) hr5, fin _ _ ⟨hrun5, hended5, _, _, rfl, ?_, ⟨_, rfl⟩, hW5, hsame5.mono (by decide) (by decide)⟩⟩
  show own_Qwnull Z  h0 n0 _ s₁.heap _
  rw [e0]
  exact ⟨rfl, N0, rfl⟩
theorem own_d4_0 : decode jdk_43_method_13_code 0 = .ok (.aload_n 0, 1) := by decide +kernel
theorem own_d4_1 : decode jdk_43_method_13_code 1 = .ok (.arraylength, 1) := by decide +kernel
theorem own_d4_2 : decode jdk_43_method_13_code 2 = .ok (.aload_n 1, 1) := by decide +kernel
theorem own_d4_3 : decode jdk_43_method_13_code 3 = .ok (.arraylength, 1) := by decide +kernel
theorem own_d4_4 : decode jdk_43_method_13_code 4 = .ok (.if_icmp .ne 30, 3) := by decide +kernel
theorem own_d4_7 : decode jdk_43_method_13_code 7 = .ok (.iconst 0, 1) := by decide +kernel
theorem own_d4_8 : decode jdk_43_method_13_code 8 = .ok (.istore_n 2, 1) := by decide +kernel
theorem own_d4_9 : decode jdk_43_method_13_code 9 = .ok (.iload_n 2, 1) := by decide +kernel
theorem own_d4_10 : decode jdk_43_method_13_code 10 = .ok (.aload_n 0, 1) := by decide +kernel
theorem own_d4_11 : decode jdk_43_method_13_code 11 = .ok (.arraylength, 1) := by decide +kernel
theorem own_d4_12 : decode jdk_43_method_13_code 12 = .ok (.if_icmp .ge 20, 3) := by decide +kernel
theorem own_d4_15 : decode jdk_43_method_13_code 15 = .ok (.aload_n 0, 1) := by decide +kernel
theorem own_d4_16 : decode jdk_43_method_13_code 16 = .ok (.iload_n 2, 1) := by decide +kernel
theorem own_d4_17 : decode jdk_43_method_13_code 17 = .ok (.baload, 1) := by decide +kernel
theorem own_d4_18 : decode jdk_43_method_13_code 18 = .ok (.aload_n 1, 1) := by decide +kernel
theorem own_d4_19 : decode jdk_43_method_13_code 19 = .ok (.iload_n 2, 1) := by decide +kernel
theorem own_d4_20 : decode jdk_43_method_13_code 20 = .ok (.baload, 1) := by decide +kernel
theorem own_d4_21 : decode jdk_43_method_13_code 21 = .ok (.if_icmp .eq 5, 3) := by decide +kernel
theorem own_d4_24 : decode jdk_43_method_13_code 24 = .ok (.iconst 0, 1) := by decide +kernel
theorem own_d4_25 : decode jdk_43_method_13_code 25 = .ok (.ireturn, 1) := by decide +kernel
theorem own_d4_26 : decode jdk_43_method_13_code 26 = .ok (.iinc 2 1, 3) := by decide +kernel
theorem own_d4_29 : decode jdk_43_method_13_code 29 = .ok (.goto (-20), 3) := by decide +kernel
theorem own_d4_32 : decode jdk_43_method_13_code 32 = .ok (.iconst 1, 1) := by decide +kernel
theorem own_d4_33 : decode jdk_43_method_13_code 33 = .ok (.ireturn, 1) := by decide +kernel
theorem own_d4_34 : decode jdk_43_method_13_code 34 = .ok (.iconst 0, 1) := by decide +kernel
theorem own_d4_35 : decode jdk_43_method_13_code 35 = .ok (.ireturn, 1) := by decide +kernel
theorem own_pn1 : plainName "java/lang/StringLatin1" = true := by first | (simp [plainName, overriddenIn]; done) | decide +kernel
theorem own_ef4 (m : MethodId) (a1 : Addr) (a2 : Addr) : entryFrame m #[(.ref a1), (.ref a2)] 3 = mkF m 0 #[.val (.ref a1), .val (.ref a2), .unset] [] := by first | (simp [entryFrame, mkF, argsToLocals, Value.category]; done) | rfl
def own_Q4 (Z : State) (a1 a2 : Addr) (n : Nat) (g : Nat → Int32) (h0 : Heap) (n0 : Nat) (v : Option Value) (h : Heap) (L : List Loc) : Prop := v = some (.int (1 : Int32)) ∧ Fr n0 L ∧ h = h0
set_option maxRecDepth 65536 in
set_option maxHeartbeats 40000000 in
theorem own_rm4 (l : Launch) (Z : State) (a0 : Array Value) (hw : ∀ d ∈ tables_1, d.before a0 Z = true) (ws : List Jvm.Cond) (a1 a2 : Addr) (n : Nat) (g : Nat → Int32) (h0 : Heap) (n0 : Nat) (Z0 : n0 ≤ h0.size) (pA : own_AI Z h0 a1 .byte n g) (pB : own_AI Z h0 a2 .byte n g) :
    MetFree l (⟨"java/lang/StringLatin1", "equals", "([B[B)Z"⟩ : MethodName) (head1 (Jvm.Cond.code (⟨"java/lang/StringLatin1", "equals", "([B[B)Z"⟩ : MethodName) jdk_43_method_13_code 3 (some .boolean) :: ws) ({ frames := 0, cells := 0, slots := 0, locals := 0 } : Room)) (fun a U => a = #[(.ref a1), (.ref a2)] ∧ Z.Warmed39 U.vm ∧ U.heap = h0) (fun _ _ _ _ _ => True) (fun _ U o U' => ∃ v L, o = .returned v ∧ own_Q4 Z a1 a2 n g h0 n0 v U'.heap L ∧ FrameEnd U o U' L ({ frames := 0, cells := 0, slots := 0, locals := 0 } : Room).cells ({ frames := 0, cells := 0, slots := 0, locals := 0 } : Room).slots) := by
  refine MetFree.of_bodySF (plainFor_of_name own_pn1) hisR ?_
  intro p e s m args below meth c s₁ Bd hml0 hP hK
  obtain ⟨rfl, hZ, hh⟩ := hP
  have hx := Bd.exec
  have hby := Bd.bytes
  have hml : c.maxLocals = 3 := hml0
  have hown : s.vm.findClass "java/lang/StringLatin1" = some m.cls := findClass_of_methodNamed Bd.named
  have hnm := (name_of_methodNamed Bd.named Bd.method).1
  have X0 : Stand p l e ({ frames := 0, cells := 0, slots := 0, locals := 0 } : Room) s m #[(.ref a1), (.ref a2)] below meth c s₁ [] 0 0 := Stand.of_body Bd
  have e0 : s₁.heap = h0 := by rw [← hh, Bd.state]; rfl
  have N0 := Fr.nil n0
  refine own_nm (st := s₁.setTop (entryFrame m #[(.ref a1), (.ref a2)] 3)) fun P fin => ?_
  refine own_fwd (fun tt kt => castTop (own_ef4 m a1 a2) kt) ?_
  show own_R p.tables e below P (s₁.setTop (mkF m 0 #[.val (.ref a1), .val (.ref a2), .unset] []))
  refine own_fwd (fun tt kt => XS.aloadN X0.here hx rfl (hb hby own_d4_0) rfl rfl kt) ?_
  show own_R p.tables e below P (s₁.setTop (mkF m 1 #[.val (.ref a1), .val (.ref a2), .unset] [(.ref a1)]))
  refine own_fwd (own_len X0 hx hZ e0 pA n.toInt32 (len_toInt pA.bd) (g := (mkF m 1 #[.val (.ref a1), .val (.ref a2), .unset] [(.ref a1)])) rfl rfl (hb hby own_d4_1)) ?_
  show own_R p.tables e below P (s₁.setTop (mkF m 2 #[.val (.ref a1), .val (.ref a2), .unset] [(.int n.toInt32)]))
  refine own_fwd (fun tt kt => XS.aloadN X0.here hx rfl (hb hby own_d4_2) rfl rfl kt) ?_
  show own_R p.tables e below P (s₁.setTop (mkF m 3 #[.val (.ref a1), .val (.ref a2), .unset] [(.ref a2), (.int n.toInt32)]))
  refine own_fwd (own_len X0 hx hZ e0 pB n.toInt32 (len_toInt pA.bd) (g := (mkF m 3 #[.val (.ref a1), .val (.ref a2), .unset] [(.ref a2), (.int n.toInt32)])) rfl rfl (hb hby own_d4_3)) ?_
  show own_R p.tables e below P (s₁.setTop (mkF m 4 #[.val (.ref a1), .val (.ref a2), .unset] [(.int n.toInt32), (.int n.toInt32)]))
  have hc6 : n.toInt32 = n.toInt32 := rfl
  refine own_fwd (fun tt kt => XS.icmpNo X0.here hx rfl (hb hby own_d4_4) rfl (teq hc6).2 kt) ?_
  show own_R p.tables e below P (s₁.setTop (mkF m 7 #[.val (.ref a1), .val (.ref a2), .unset] []))
  refine own_fwd (fun tt kt => XS.iconst X0.here hx rfl (hb hby own_d4_7) kt) ?_
  show own_R p.tables e below P (s₁.setTop (mkF m 8 #[.val (.ref a1), .val (.ref a2), .unset] [(.int (0 : Int32))]))
  refine own_fwd (fun tt kt => XS.istoreN X0.here hx rfl (hb hby own_d4_8) rfl (l' := #[.val (.ref a1), .val (.ref a2), .val (.int (0 : Int32))]) rfl kt) ?_
  show own_R p.tables e below P (s₁.setTop (mkF m 9 #[.val (.ref a1), .val (.ref a2), .val (.int (0 : Int32))] []))
  have bn := pA.bd
  have loop : ∀ (k i : Nat), i + k = n → own_R p.tables e below P (s₁.setTop (mkF m 9 #[.val (.ref a1), .val (.ref a2), .val (.int i.toInt32)] [])) := by
    intro k
    induction k with
    | zero =>
      intro i hi
      refine own_fwd (fun tt kt => XS.iloadN X0.here hx rfl (hb hby own_d4_9) rfl kt) ?_
      show own_R p.tables e below P (s₁.setTop (mkF m 10 #[.val (.ref a1), .val (.ref a2), .val (.int i.toInt32)] [(.int i.toInt32)]))
      refine own_fwd (fun tt kt => XS.aloadN X0.here hx rfl (hb hby own_d4_10) rfl rfl kt) ?_
      show own_R p.tables e below P (s₁.setTop (mkF m 11 #[.val (.ref a1), .val (.ref a2), .val (.int i.toInt32)] [(.ref a1), (.int i.toInt32)]))
      refine own_fwd (own_len X0 hx hZ e0 pA n.toInt32 (len_toInt pA.bd) (g := (mkF m 11 #[.val (.ref a1), .val (.ref a2), .val (.int i.toInt32)] [(.ref a1), (.int i.toInt32)])) rfl rfl (hb hby own_d4_11)) ?_
      show own_R p.tables e below P (s₁.setTop (mkF m 12 #[.val (.ref a1), .val (.ref a2), .val (.int i.toInt32)] [(.int n.toInt32), (.int i.toInt32)]))
      have hc7 : ¬ (i.toInt32 < n.toInt32) := own_nge (by omega) (by omega)
      refine own_fwd (fun tt kt => XS.icmpYes X0.here hx rfl (pc0 := 12) (pc' := 32) rfl (hb hby own_d4_12) rfl (flt hc7).2.1 (by decide) (by decide) kt) ?_
      show own_R p.tables e below P (s₁.setTop (mkF m 32 #[.val (.ref a1), .val (.ref a2), .val (.int i.toInt32)] []))
      refine own_fwd (fun tt kt => XS.iconst X0.here hx rfl (hb hby own_d4_32) kt) ?_
      show own_R p.tables e below P (s₁.setTop (mkF m 33 #[.val (.ref a1), .val (.ref a2), .val (.int i.toInt32)] [(.int (1 : Int32))]))
      obtain ⟨fs8, hr8, hrun8, hended8, hW8, hsame8⟩ := X0.leave (v := some (.int (1 : Int32))) (fun h => by rw [Bd.returns] at h; cases h)
      refine ⟨_, _, X0.ireturnOut hx (w := (1 : Int32)) Bd.returns rfl (by simp) (hb hby own_d4_33) hr8, fin _ _ ⟨hrun8, hended8, _, _, rfl, ?_, ⟨_, rfl⟩, hW8, hsame8.mono (by decide) (by decide)⟩⟩
      show own_Q4 Z a1 a2 n g h0 n0 _ s₁.heap _
      rw [e0]
      exact ⟨rfl, N0, rfl⟩
    | succ k ih =>
      intro i hi
      refine own_fwd (fun tt kt => XS.iloadN X0.here hx rfl (hb hby own_d4_9) rfl kt) ?_
      show own_R p.tables e below P (s₁.setTop (mkF m 10 #[.val (.ref a1), .val (.ref a2), .val (.int i.toInt32)] [(.int i.toInt32)]))
      refine own_fwd (fun tt kt => XS.aloadN X0.here hx rfl (hb hby own_d4_10) rfl rfl kt) ?_
      show own_R p.tables e below P (s₁.setTop (mkF m 11 #[.val (.ref a1), .val (.ref a2), .val (.int i.toInt32)] [(.ref a1), (.int i.toInt32)]))
      refine own_fwd (own_len X0 hx hZ e0 pA n.toInt32 (len_toInt pA.bd) (g := (mkF m 11 #[.val (.ref a1), .val (.ref a2), .val (.int i.toInt32)] [(.ref a1), (.int i.toInt32)])) rfl rfl (hb hby own_d4_11)) ?_
      show own_R p.tables e below P (s₁.setTop (mkF m 12 #[.val (.ref a1), .val (.ref a2), .val (.int i.toInt32)] [(.int n.toInt32), (.int i.toInt32)]))
      have hc9 : i.toInt32 < n.toInt32 := own_nlt (by omega) bn
      refine own_fwd (fun tt kt => XS.icmpNo X0.here hx rfl (hb hby own_d4_12) rfl (tlt hc9).2.1 kt) ?_
      show own_R p.tables e below P (s₁.setTop (mkF m 15 #[.val (.ref a1), .val (.ref a2), .val (.int i.toInt32)] []))
      refine own_fwd (fun tt kt => XS.aloadN X0.here hx rfl (hb hby own_d4_15) rfl rfl kt) ?_
      show own_R p.tables e below P (s₁.setTop (mkF m 16 #[.val (.ref a1), .val (.ref a2), .val (.int i.toInt32)] [(.ref a1)]))
      refine own_fwd (fun tt kt => XS.iloadN X0.here hx rfl (hb hby own_d4_16) rfl kt) ?_
      show own_R p.tables e below P (s₁.setTop (mkF m 17 #[.val (.ref a1), .val (.ref a2), .val (.int i.toInt32)] [(.int i.toInt32), (.ref a1)]))
      refine own_fwd (own_ldB X0 hx hZ e0 pA (j := i.toInt32) i (len_toInt (by omega)) (by omega) (g := (mkF m 17 #[.val (.ref a1), .val (.ref a2), .val (.int i.toInt32)] [(.int i.toInt32), (.ref a1)])) rfl rfl (hb hby own_d4_17)) ?_
      show own_R p.tables e below P (s₁.setTop (mkF m 18 #[.val (.ref a1), .val (.ref a2), .val (.int i.toInt32)] [(.int (g i))]))
      refine own_fwd (fun tt kt => XS.aloadN X0.here hx rfl (hb hby own_d4_18) rfl rfl kt) ?_
      show own_R p.tables e below P (s₁.setTop (mkF m 19 #[.val (.ref a1), .val (.ref a2), .val (.int i.toInt32)] [(.ref a2), (.int (g i))]))
      refine own_fwd (fun tt kt => XS.iloadN X0.here hx rfl (hb hby own_d4_19) rfl kt) ?_
      show own_R p.tables e below P (s₁.setTop (mkF m 20 #[.val (.ref a1), .val (.ref a2), .val (.int i.toInt32)] [(.int i.toInt32), (.ref a2), (.int (g i))]))
      refine own_fwd (own_ldB X0 hx hZ e0 pB (j := i.toInt32) i (len_toInt (by omega)) (by omega) (g := (mkF m 20 #[.val (.ref a1), .val (.ref a2), .val (.int i.toInt32)] [(.int i.toInt32), (.ref a2), (.int (g i))])) rfl rfl (hb hby own_d4_20)) ?_
      show own_R p.tables e below P (s₁.setTop (mkF m 21 #[.val (.ref a1), .val (.ref a2), .val (.int i.toInt32)] [(.int (g i)), (.int (g i))]))
      have hc10 : (g i) = (g i) := rfl
      refine own_fwd (fun tt kt => XS.icmpYes X0.here hx rfl (pc0 := 21) (pc' := 26) rfl (hb hby own_d4_21) rfl (teq hc10).1 (by decide) (by decide) kt) ?_
      show own_R p.tables e below P (s₁.setTop (mkF m 26 #[.val (.ref a1), .val (.ref a2), .val (.int i.toInt32)] []))
      refine own_fwd (fun tt kt => XS.iinc X0.here hx rfl (hb hby own_d4_26) rfl (l' := #[.val (.ref a1), .val (.ref a2), .val (.int (i.toInt32 + (1 : Int32)))]) rfl kt) ?_
      show own_R p.tables e below P (s₁.setTop (mkF m 29 #[.val (.ref a1), .val (.ref a2), .val (.int (i.toInt32 + (1 : Int32)))] []))
      refine own_fwd (fun tt kt => XS.goto X0.here hx rfl (pc0 := 29) (pc' := 9) rfl (hb hby own_d4_29) (by decide) (by decide) kt) ?_
      show own_R p.tables e below P (s₁.setTop (mkF m 9 #[.val (.ref a1), .val (.ref a2), .val (.int (i.toInt32 + (1 : Int32)))] []))
      have hv11 : (i.toInt32 + (1 : Int32)) = (i + 1).toInt32 := own_nsucc (by omega)
      rw [hv11]
      show own_R p.tables e below P (s₁.setTop (mkF m 9 #[.val (.ref a1), .val (.ref a2), .val (.int (i + 1).toInt32)] []))
      exact ih (i + 1) (by omega)
  exact loop n 0 (by omega)
theorem own_d3_0 : decode jdk_42_method_66_code 0 = .ok (.aload_n 0, 1) := by decide +kernel
theorem own_d3_1 : decode jdk_42_method_66_code 1 = .ok (.aload_n 1, 1) := by decide +kernel
theorem own_d3_2 : decode jdk_42_method_66_code 2 = .ok (.if_acmp .ne 5, 3) := by decide +kernel
theorem own_d3_5 : decode jdk_42_method_66_code 5 = .ok (.iconst 1, 1) := by decide +kernel
theorem own_d3_6 : decode jdk_42_method_66_code 6 = .ok (.ireturn, 1) := by decide +kernel
theorem own_d3_7 : decode jdk_42_method_66_code 7 = .ok (.aload_n 1, 1) := by decide +kernel
theorem own_d3_8 : decode jdk_42_method_66_code 8 = .ok (.instanceof 10, 3) := by decide +kernel
theorem own_d3_11 : decode jdk_42_method_66_code 11 = .ok (.ifCond .eq 43, 3) := by decide +kernel
theorem own_d3_14 : decode jdk_42_method_66_code 14 = .ok (.aload_n 1, 1) := by decide +kernel
theorem own_d3_15 : decode jdk_42_method_66_code 15 = .ok (.checkcast 10, 3) := by decide +kernel
theorem own_d3_18 : decode jdk_42_method_66_code 18 = .ok (.astore_n 2, 1) := by decide +kernel
theorem own_d3_19 : decode jdk_42_method_66_code 19 = .ok (.getstatic 38, 3) := by decide +kernel
theorem own_d3_22 : decode jdk_42_method_66_code 22 = .ok (.ifCond .eq 14, 3) := by decide +kernel
theorem own_d3_25 : decode jdk_42_method_66_code 25 = .ok (.aload_n 0, 1) := by decide +kernel
theorem own_d3_26 : decode jdk_42_method_66_code 26 = .ok (.getfield 15, 3) := by decide +kernel
theorem own_d3_29 : decode jdk_42_method_66_code 29 = .ok (.aload_n 2, 1) := by decide +kernel
theorem own_d3_30 : decode jdk_42_method_66_code 30 = .ok (.getfield 15, 3) := by decide +kernel
theorem own_d3_33 : decode jdk_42_method_66_code 33 = .ok (.if_icmp .ne 21, 3) := by decide +kernel
theorem own_d3_36 : decode jdk_42_method_66_code 36 = .ok (.aload_n 0, 1) := by decide +kernel
theorem own_d3_37 : decode jdk_42_method_66_code 37 = .ok (.getfield 9, 3) := by decide +kernel
theorem own_d3_40 : decode jdk_42_method_66_code 40 = .ok (.aload_n 2, 1) := by decide +kernel
theorem own_d3_41 : decode jdk_42_method_66_code 41 = .ok (.getfield 9, 3) := by decide +kernel
theorem own_d3_44 : decode jdk_42_method_66_code 44 = .ok (.invokestatic 541, 3) := by decide +kernel
theorem own_d3_47 : decode jdk_42_method_66_code 47 = .ok (.ifCond .eq 7, 3) := by decide +kernel
theorem own_d3_50 : decode jdk_42_method_66_code 50 = .ok (.iconst 1, 1) := by decide +kernel
theorem own_d3_51 : decode jdk_42_method_66_code 51 = .ok (.goto 4, 3) := by decide +kernel
theorem own_d3_54 : decode jdk_42_method_66_code 54 = .ok (.iconst 0, 1) := by decide +kernel
theorem own_d3_55 : decode jdk_42_method_66_code 55 = .ok (.ireturn, 1) := by decide +kernel
theorem own_pn2 : plainName "java/lang/String" = true := by first | (simp [plainName, overriddenIn]; done) | decide +kernel
theorem own_pd1 : parseMethodDescriptor "([B[B)Z" = some ⟨[(.array .byte), (.array .byte)], some .boolean⟩ := by decide +kernel
theorem own_ef3 (m : MethodId) (a1 : Addr) (a2 : Addr) : entryFrame m #[(.ref a1), (.ref a2)] 3 = mkF m 0 #[.val (.ref a1), .val (.ref a2), .unset] [] := by first | (simp [entryFrame, mkF, argsToLocals, Value.category]; done) | rfl
def own_Q3 (Z : State) (a1 a2 v1 v2 : Addr) (n : Nat) (g : Nat → Int32) (cc : Int32) (h0 : Heap) (n0 : Nat) (v : Option Value) (h : Heap) (L : List Loc) : Prop := v = some (.int (1 : Int32)) ∧ Fr n0 L ∧ h = h0
set_option maxRecDepth 65536 in
set_option maxHeartbeats 40000000 in
theorem own_rm3 (l : Launch) (Z : State) (a0 : Array Value) (hw : ∀ d ∈ tables_1, d.before a0 Z = true) (ws : List Jvm.Cond) (a1 a2 v1 v2 : Addr) (n : Nat) (g : Nat → Int32) (cc : Int32) (h0 : Heap) (n0 : Nat) (Z0 : n0 ≤ h0.size) (pF1 : Fld Z h0 a1 "java/lang/String" "coder" "B" (.int (0 : Int32))) (pG1 : Fld Z h0 a1 "java/lang/String" "value" "[B" (.ref v1)) (pE2 : Exa Z h0 a2 "java/lang/String") (pF2 : Fld Z h0 a2 "java/lang/String" "coder" "B" (.int (0 : Int32))) (pG2 : Fld Z h0 a2 "java/lang/String" "value" "[B" (.ref v2)) (pA : own_AI Z h0 v1 .byte n g) (pB : own_AI Z h0 v2 .byte n g) (pS : Sta Z h0 "java/lang/String" "COMPACT_STRINGS" "Z" (.int cc)) (hcc : ¬ cc = 0) :
    MetFree l (⟨"java/lang/String", "equals", "(Ljava/lang/Object;)Z"⟩ : MethodName) (head1 (Jvm.Cond.code (⟨"java/lang/String", "equals", "(Ljava/lang/Object;)Z"⟩ : MethodName) jdk_42_method_66_code 3 (some .boolean) :: ws) ({ frames := 1, cells := 0, slots := 0, locals := 14 } : Room)) (fun a U => a = #[(.ref a1), (.ref a2)] ∧ Z.Warmed39 U.vm ∧ U.heap = h0) (fun _ _ _ _ _ => True) (fun _ U o U' => ∃ v L, o = .returned v ∧ own_Q3 Z a1 a2 v1 v2 n g cc h0 n0 v U'.heap L ∧ FrameEnd U o U' L ({ frames := 1, cells := 0, slots := 0, locals := 14 } : Room).cells ({ frames := 1, cells := 0, slots := 0, locals := 14 } : Room).slots) := by
  refine MetFree.of_bodySF (plainFor_of_name own_pn2) hisR ?_
  intro p e s m args below meth c s₁ Bd hml0 hP hK
  obtain ⟨rfl, hZ, hh⟩ := hP
  have hx := Bd.exec
  have hby := Bd.bytes
  have hml : c.maxLocals = 3 := hml0
  have hown : s.vm.findClass "java/lang/String" = some m.cls := findClass_of_methodNamed Bd.named
  have hnm := (name_of_methodNamed Bd.named Bd.method).1
  have X0 : Stand p l e ({ frames := 1, cells := 0, slots := 0, locals := 14 } : Room) s m #[(.ref a1), (.ref a2)] below meth c s₁ [] 0 0 := Stand.of_body Bd
  have e0 : s₁.heap = h0 := by rw [← hh, Bd.state]; rfl
  have N0 := Fr.nil n0
  refine own_nm (st := s₁.setTop (entryFrame m #[(.ref a1), (.ref a2)] 3)) fun P fin => ?_
  refine own_fwd (fun tt kt => castTop (own_ef3 m a1 a2) kt) ?_
  show own_R p.tables e below P (s₁.setTop (mkF m 0 #[.val (.ref a1), .val (.ref a2), .unset] []))
  refine own_fwd (fun tt kt => XS.aloadN X0.here hx rfl (hb hby own_d3_0) rfl rfl kt) ?_
  show own_R p.tables e below P (s₁.setTop (mkF m 1 #[.val (.ref a1), .val (.ref a2), .unset] [(.ref a1)]))
  refine own_fwd (fun tt kt => XS.aloadN X0.here hx rfl (hb hby own_d3_1) rfl rfl kt) ?_
  show own_R p.tables e below P (s₁.setTop (mkF m 2 #[.val (.ref a1), .val (.ref a2), .unset] [(.ref a2), (.ref a1)]))
  by_cases hc12 : a1 = a2
  · refine own_fwd (fun tt kt => Jvm.RoadKit.acmp (g := (mkF m 2 #[.val (.ref a1), .val (.ref a2), .unset] [(.ref a2), (.ref a1)])) X0 hx rfl (x := (.ref a1)) (y := (.ref a2)) rfl rfl (pc0 := 2) (pc' := 5) (same := true) rfl (hb hby own_d3_2) rfl (decide_eq_true (congrArg Value.ref hc12)) (by decide) (by decide) kt) ?_
    show own_R p.tables e below P (s₁.setTop (mkF m 5 #[.val (.ref a1), .val (.ref a2), .unset] []))
    refine own_fwd (fun tt kt => XS.iconst X0.here hx rfl (hb hby own_d3_5) kt) ?_
    show own_R p.tables e below P (s₁.setTop (mkF m 6 #[.val (.ref a1), .val (.ref a2), .unset] [(.int (1 : Int32))]))
    obtain ⟨fs13, hr13, hrun13, hended13, hW13, hsame13⟩ := X0.leave (v := some (.int (1 : Int32))) (fun h => by rw [Bd.returns] at h; cases h)
    refine ⟨_, _, X0.ireturnOut hx (w := (1 : Int32)) Bd.returns rfl (by simp) (hb hby own_d3_6) hr13, fin _ _ ⟨hrun13, hended13, _, _, rfl, ?_, ⟨_, rfl⟩, hW13, hsame13.mono (by decide) (by decide)⟩⟩
    show own_Q3 Z a1 a2 v1 v2 n g cc h0 n0 _ s₁.heap _
    rw [e0]
    exact ⟨rfl, N0, rfl⟩
  · refine own_fwd (fun tt kt => Jvm.RoadKit.acmp (g := (mkF m 2 #[.val (.ref a1), .val (.ref a2), .unset] [(.ref a2), (.ref a1)])) X0 hx rfl (x := (.ref a1)) (y := (.ref a2)) rfl rfl (pc0 := 2) (pc' := 7) (same := false) rfl (hb hby own_d3_2) rfl (decide_eq_false fun q => hc12 (Value.ref.inj q)) (by decide) (by decide) kt) ?_
    show own_R p.tables e below P (s₁.setTop (mkF m 7 #[.val (.ref a1), .val (.ref a2), .unset] []))
    refine own_fwd (fun tt kt => XS.aloadN X0.here hx rfl (hb hby own_d3_7) rfl rfl kt) ?_
    show own_R p.tables e below P (s₁.setTop (mkF m 8 #[.val (.ref a1), .val (.ref a2), .unset] [(.ref a2)]))
    obtain ⟨T14, X14, e14, st14⟩ := instY X0 hx hZ hown (hw _ (List.mem_of_getElem? (i := 27) rfl)) e0 (Ins.self pE2) (g := (mkF m 8 #[.val (.ref a1), .val (.ref a2), .unset] [(.ref a2)])) rfl rfl (hb hby own_d3_8)
    refine own_fwd st14 ?_
    show own_R p.tables e below P (T14.setTop (mkF m 11 #[.val (.ref a1), .val (.ref a2), .unset] [(.int (1 : Int32))]))
    have hc15 : ¬ ((1 : Int32) = (0 : Int32)) := (by decide)
    refine own_fwd (fun tt kt => XS.ifNo X14.here hx rfl (hb hby own_d3_11) rfl ((if0 _ _).trans (feq hc15).1) kt) ?_
    show own_R p.tables e below P (T14.setTop (mkF m 14 #[.val (.ref a1), .val (.ref a2), .unset] []))
    refine own_fwd (fun tt kt => XS.aloadN X14.here hx rfl (hb hby own_d3_14) rfl rfl kt) ?_
    show own_R p.tables e below P (T14.setTop (mkF m 15 #[.val (.ref a1), .val (.ref a2), .unset] [(.ref a2)]))
    obtain ⟨T16, X16, e16, st16⟩ := castY X14 hx hZ hown (hw _ (List.mem_of_getElem? (i := 27) rfl)) e14 (Ins.self pE2) (g := (mkF m 15 #[.val (.ref a1), .val (.ref a2), .unset] [(.ref a2)])) rfl rfl (hb hby own_d3_15)
    refine own_fwd st16 ?_
    show own_R p.tables e below P (T16.setTop (mkF m 18 #[.val (.ref a1), .val (.ref a2), .unset] [(.ref a2)]))
    refine own_fwd (fun tt kt => XS.astoreN X16.here hx rfl (hb hby own_d3_18) rfl rfl (l' := #[.val (.ref a1), .val (.ref a2), .val (.ref a2)]) rfl kt) ?_
    show own_R p.tables e below P (T16.setTop (mkF m 19 #[.val (.ref a1), .val (.ref a2), .val (.ref a2)] []))
    obtain ⟨T17, X17, e17, st17⟩ := getS2 X16 hx hZ hown (host := "") (Or.inl (hw _ (List.mem_of_getElem? (i := 29) rfl))) Via.refl e16 pS (g := (mkF m 19 #[.val (.ref a1), .val (.ref a2), .val (.ref a2)] [])) rfl (hb hby own_d3_19)
    refine own_fwd st17 ?_
    show own_R p.tables e below P (T17.setTop (mkF m 22 #[.val (.ref a1), .val (.ref a2), .val (.ref a2)] [(.int cc)]))
    have hc18 : ¬ (cc = (0 : Int32)) := hcc
    refine own_fwd (fun tt kt => XS.ifNo X17.here hx rfl (hb hby own_d3_22) rfl ((if0 _ _).trans (feq hc18).1) kt) ?_
    show own_R p.tables e below P (T17.setTop (mkF m 25 #[.val (.ref a1), .val (.ref a2), .val (.ref a2)] []))
    refine own_fwd (fun tt kt => XS.aloadN X17.here hx rfl (hb hby own_d3_25) rfl rfl kt) ?_
    show own_R p.tables e below P (T17.setTop (mkF m 26 #[.val (.ref a1), .val (.ref a2), .val (.ref a2)] [(.ref a1)]))
    obtain ⟨T19, X19, e19, st19⟩ := getF X17 hx hZ hown (host := "") (Or.inl (hw _ (List.mem_of_getElem? (i := 30) rfl))) Via.refl e17 pF1 (g := (mkF m 26 #[.val (.ref a1), .val (.ref a2), .val (.ref a2)] [(.ref a1)])) rfl rfl (hb hby own_d3_26)
    refine own_fwd st19 ?_
    show own_R p.tables e below P (T19.setTop (mkF m 29 #[.val (.ref a1), .val (.ref a2), .val (.ref a2)] [(.int (0 : Int32))]))
    refine own_fwd (fun tt kt => XS.aloadN X19.here hx rfl (hb hby own_d3_29) rfl rfl kt) ?_
    show own_R p.tables e below P (T19.setTop (mkF m 30 #[.val (.ref a1), .val (.ref a2), .val (.ref a2)] [(.ref a2), (.int (0 : Int32))]))
    obtain ⟨T20, X20, e20, st20⟩ := getF X19 hx hZ hown (host := "") (Or.inl (hw _ (List.mem_of_getElem? (i := 30) rfl))) Via.refl e19 pF2 (g := (mkF m 30 #[.val (.ref a1), .val (.ref a2), .val (.ref a2)] [(.ref a2), (.int (0 : Int32))])) rfl rfl (hb hby own_d3_30)
    refine own_fwd st20 ?_
    show own_R p.tables e below P (T20.setTop (mkF m 33 #[.val (.ref a1), .val (.ref a2), .val (.ref a2)] [(.int (0 : Int32)), (.int (0 : Int32))]))
    have hc21 : (0 : Int32) = (0 : Int32) := (by decide)
    refine own_fwd (fun tt kt => XS.icmpNo X20.here hx rfl (hb hby own_d3_33) rfl (teq hc21).2 kt) ?_
    show own_R p.tables e below P (T20.setTop (mkF m 36 #[.val (.ref a1), .val (.ref a2), .val (.ref a2)] []))
    refine own_fwd (fun tt kt => XS.aloadN X20.here hx rfl (hb hby own_d3_36) rfl rfl kt) ?_
    show own_R p.tables e below P (T20.setTop (mkF m 37 #[.val (.ref a1), .val (.ref a2), .val (.ref a2)] [(.ref a1)]))
    obtain ⟨T22, X22, e22, st22⟩ := getF X20 hx hZ hown (host := "") (Or.inl (hw _ (List.mem_of_getElem? (i := 31) rfl))) Via.refl e20 pG1 (g := (mkF m 37 #[.val (.ref a1), .val (.ref a2), .val (.ref a2)] [(.ref a1)])) rfl rfl (hb hby own_d3_37)
    refine own_fwd st22 ?_
    show own_R p.tables e below P (T22.setTop (mkF m 40 #[.val (.ref a1), .val (.ref a2), .val (.ref a2)] [(.ref v1)]))
    refine own_fwd (fun tt kt => XS.aloadN X22.here hx rfl (hb hby own_d3_40) rfl rfl kt) ?_
    show own_R p.tables e below P (T22.setTop (mkF m 41 #[.val (.ref a1), .val (.ref a2), .val (.ref a2)] [(.ref a2), (.ref v1)]))
    obtain ⟨T23, X23, e23, st23⟩ := getF X22 hx hZ hown (host := "") (Or.inl (hw _ (List.mem_of_getElem? (i := 31) rfl))) Via.refl e22 pG2 (g := (mkF m 41 #[.val (.ref a1), .val (.ref a2), .val (.ref a2)] [(.ref a2), (.ref v1)])) rfl rfl (hb hby own_d3_41)
    refine own_fwd st23 ?_
    show own_R p.tables e below P (T23.setTop (mkF m 44 #[.val (.ref a1), .val (.ref a2), .val (.ref a2)] [(.ref v2), (.ref v1)]))
    obtain ⟨_, _, ⟨T24, L24, k24, n24⟩, -, X24, ⟨Lc24, hQ24, l24, y24, z24⟩, st24⟩ := Jvm.LawKit.callS X23 hx (y := (⟨"java/lang/StringLatin1", "equals", "([B[B)Z"⟩ : MethodName)) hown (mvT hZ (hw _ (List.mem_of_getElem? (i := 32) rfl))) (mvT hZ (hw _ (List.mem_of_getElem? (i := 33) rfl))) (mvT hZ (hw _ (List.mem_of_getElem? (i := 34) rfl))) (mvT hZ (hw _ (List.mem_of_getElem? (i := 35) rfl))) (by decide) (backOf (W := 0) (own_rm4 l Z a0 hw [] v1 v2 n g h0 n0 Z0 pA pB) hZ (hw _ (List.mem_of_getElem? (i := 35) rfl)) (hw _ (List.mem_of_getElem? (i := 34) rfl)) (by decide) (by decide)) (g := (mkF m 44 #[.val (.ref a1), .val (.ref a2), .val (.ref a2)] [(.ref v2), (.ref v1)])) rfl (by rw [hml]; rfl) (argsL := [(.ref v1), (.ref v2)]) (rest := []) (lenOf own_pd1 rfl) rfl (by show 2 * 0 + _ ≤ _; exact Nat.le_of_eq rfl) (hb hby own_d3_44) (fun _ _ => ⟨rfl, e23, (by decide : 0 + 0 ≤ _), (by decide : 0 + 0 ≤ _)⟩)
    dsimp only [Pt.U, Pt.locs, Pt.cells, Pt.slots] at X24 l24 y24 z24 st24 hQ24
    rw [l24, (show k24 = 0 from y24), (show n24 = 0 from z24)] at X24
    obtain ⟨h24, e24⟩ : ∃ z, T24.heap = z := ⟨_, rfl⟩
    rw [e24] at hQ24
    obtain ⟨hq24, N24q, q24⟩ := hQ24
    rw [q24] at e24
    rw [hq24] at st24
    have N24 := Fr.app N0 N24q
    refine own_fwd st24 ?_
    show own_R p.tables e below P (T24.setTop (mkF m 47 #[.val (.ref a1), .val (.ref a2), .val (.ref a2)] [(.int (1 : Int32))]))
    have hc25 : ¬ ((1 : Int32) = (0 : Int32)) := (by decide)
    refine own_fwd (fun tt kt => XS.ifNo X24.here hx rfl (hb hby own_d3_47) rfl ((if0 _ _).trans (feq hc25).1) kt) ?_
    show own_R p.tables e below P (T24.setTop (mkF m 50 #[.val (.ref a1), .val (.ref a2), .val (.ref a2)] []))
    refine own_fwd (fun tt kt => XS.iconst X24.here hx rfl (hb hby own_d3_50) kt) ?_
    show own_R p.tables e below P (T24.setTop (mkF m 51 #[.val (.ref a1), .val (.ref a2), .val (.ref a2)] [(.int (1 : Int32))]))
    refine own_fwd (fun tt kt => XS.goto X24.here hx rfl (pc0 := 51) (pc' := 55) rfl (hb hby own_d3_51) (by decide) (by decide) kt) ?_
    show own_R p.tables e below P (T24.setTop (mkF m 55 #[.val (.ref a1), .val (.ref a2), .val (.ref a2)] [(.int (1 : Int32))]))
    obtain ⟨fs26, hr26, hrun26, hended26, hW26, hsame26⟩ := X24.leave (v := some (.int (1 : Int32))) (fun h => by rw [Bd.returns] at h; cases h)
    refine ⟨_, _, X24.ireturnOut hx (w := (1 : Int32)) Bd.returns rfl (by simp) (hb hby own_d3_55) hr26, fin _ _ ⟨hrun26, hended26, _, _, rfl, ?_, ⟨_, rfl⟩, hW26, hsame26.mono (by decide) (by decide)⟩⟩
    show own_Q3 Z a1 a2 v1 v2 n g cc h0 n0 _ T24.heap _
    rw [e24]
    exact ⟨rfl, N24, rfl⟩
theorem own_pn3 : plainName "com/example/erpctl/erpctl/core/model/PaymentStatusWordOfPinLaw" = true := by first | (simp [plainName, overriddenIn]; done) | decide +kernel
theorem own_pd2 : parseMethodDescriptor "(Lcom/example/erpctl/erpctl/core/model/PaymentStatus;)Ljava/lang/String;" = some ⟨[(.object "com/example/erpctl/erpctl/core/model/PaymentStatus")], some (.object "java/lang/String")⟩ := by decide +kernel
theorem own_pd3 : parseMethodDescriptor "(Ljava/lang/Object;)Z" = some ⟨[(.object "java/lang/Object")], some .boolean⟩ := by decide +kernel
theorem own_eflaw (m : MethodId) (p0 : Int32) : entryFrame m #[(.int p0)] maxLocals = mkF m 0 #[.val (.int p0), .unset, .unset, .unset, .unset] [] := by first | (simp [entryFrame, mkF, argsToLocals, Value.category, maxLocals]; done) | rfl
def own_Qlaw (Z : State) (p0 cc : Int32) (h0 : Heap) (n0 : Nat) (v : Option Value) (h : Heap) (L : List Loc) : Prop := v = some (.int 1) ∧ Fr n0 L
set_option maxRecDepth 65536 in
set_option maxHeartbeats 40000000 in
theorem own_rmlaw (l : Launch) (Z : State) (a0 : Array Value) (hw : ∀ d ∈ tables_1, d.before a0 Z = true) (ws : List Jvm.Cond) (p0 cc : Int32) (h0 : Heap) (n0 : Nat) (Z0 : n0 ≤ h0.size) (hcc : ¬ cc = 0) (pS : Sta Z h0 "java/lang/String" "COMPACT_STRINGS" "Z" (.int cc)) (hcw : Jvm.Lit.compactW.before a0 Z = true) (S0 : own_St Z h0 "NOT_PAID" 8 (fun i => ([(110 : Int32), (111 : Int32), (116 : Int32), (45 : Int32), (112 : Int32), (97 : Int32), (105 : Int32), (100 : Int32)] : List Int32).getD i 0)) (S1 : own_St Z h0 "PARTLY_PAID" 11 (fun i => ([(112 : Int32), (97 : Int32), (114 : Int32), (116 : Int32), (108 : Int32), (121 : Int32), (45 : Int32), (112 : Int32), (97 : Int32), (105 : Int32), (100 : Int32)] : List Int32).getD i 0)) (S2 : own_St Z h0 "PAID" 4 (fun i => ([(112 : Int32), (97 : Int32), (105 : Int32), (100 : Int32)] : List Int32).getD i 0)) (S3 : own_St Z h0 "OVERPAID" 8 (fun i => ([(111 : Int32), (118 : Int32), (101 : Int32), (114 : Int32), (112 : Int32), (97 : Int32), (105 : Int32), (100 : Int32)] : List Int32).getD i 0)) (hh0 : Jvm.Lit.constHeld Z "com/example/erpctl/erpctl/core/model/PaymentStatusWordOfPinLaw" 14) (hh1 : Jvm.Lit.constHeld Z "com/example/erpctl/erpctl/core/model/PaymentStatusWordOfPinLaw" 19) (hh2 : Jvm.Lit.constHeld Z "com/example/erpctl/erpctl/core/model/PaymentStatusWordOfPinLaw" 24) (hh3 : Jvm.Lit.constHeld Z "com/example/erpctl/erpctl/core/model/PaymentStatusWordOfPinLaw" 29) :
    MetFree l x (head1 (Jvm.Cond.code x code maxLocals ret :: ws) room_1) (fun a U => a = #[(.int p0)] ∧ Z.Warmed39 U.vm ∧ U.heap = h0 ∧ U.vm = Z.vm ∧ U.heap = Z.heap) (fun _ _ _ _ _ => True) (fun _ U o U' => ∃ v L, o = .returned v ∧ own_Qlaw Z p0 cc h0 n0 v U'.heap L ∧ ReturnedEndW U o U' L 8 4160) := by
  refine MetFree.of_bodySF (plainFor_of_name own_pn3) hisR ?_
  intro p e s m args below meth c s₁ Bd hml0 hP hK
  obtain ⟨rfl, hZ, hh, hv, hhz⟩ := hP
  have hx := Bd.exec
  have hby := Bd.bytes
  have hml : c.maxLocals = 5 := hml0
  have hown : s.vm.findClass "com/example/erpctl/erpctl/core/model/PaymentStatusWordOfPinLaw" = some m.cls := findClass_of_methodNamed Bd.named
  have hnm := (name_of_methodNamed Bd.named Bd.method).1
  have X0 : Stand p l e room_1 s m #[(.int p0)] below meth c s₁ [] 0 0 := Stand.of_body Bd
  have e0 : s₁.heap = h0 := by rw [← hh, Bd.state]; rfl
  have N0 := Fr.nil n0
  refine own_nm (st := s₁.setTop (entryFrame m #[(.int p0)] maxLocals)) fun P fin => ?_
  refine own_fwd (fun tt kt => castTop (own_eflaw m p0) kt) ?_
  show own_R p.tables e below P (s₁.setTop (mkF m 0 #[.val (.int p0), .unset, .unset, .unset, .unset] []))
  have wS : ∀ a ∈ Bundle.stringAtoms, a.before a0 Z = true := fun a ha => by
    simp only [Bundle.stringAtoms, List.mem_cons, List.not_mem_nil, or_false] at ha
    rcases ha with rfl | rfl | rfl | rfl | rfl | rfl | rfl
    · exact (hw _ (List.mem_of_getElem? (i := 5) rfl))
    · exact (hw _ (List.mem_of_getElem? (i := 6) rfl))
    · exact (hw _ (List.mem_of_getElem? (i := 7) rfl))
    · exact (hw _ (List.mem_of_getElem? (i := 8) rfl))
    · exact (hw _ (List.mem_of_getElem? (i := 9) rfl))
    · exact (hw _ (List.mem_of_getElem? (i := 10) rfl))
    · exact (hw _ (List.mem_of_getElem? (i := 11) rfl))
  have hS0 : s.Since s.vm 0 := (State.WarmedH.refl s).since 0
  show own_R p.tables e below P (s₁.setTop (mkF m 0 #[.val (.int p0), .unset, .unset, .unset, .unset] []))
  refine own_fwd (fun tt kt => XS.iloadN X0.here hx rfl (hb hby at_0) rfl kt) ?_
  show own_R p.tables e below P (s₁.setTop (mkF m 1 #[.val (.int p0), .unset, .unset, .unset, .unset] [(.int p0)]))
  refine own_fwd (fun tt kt => X0.ldcInt hx hown (mvT hZ (hw _ (List.mem_of_getElem? (i := 0) rfl))) (g := (mkF m 1 #[.val (.int p0), .unset, .unset, .unset, .unset] [(.int p0)])) rfl (hb hby at_1) tt kt) ?_
  show own_R p.tables e below P (s₁.setTop (mkF m 3 #[.val (.int p0), .unset, .unset, .unset, .unset] [(.int (2147483647 : Int32)), (.int p0)]))
  refine own_fwd (fun tt kt => XS.iand X0.here hx rfl (hb hby at_3) rfl kt) ?_
  show own_R p.tables e below P (s₁.setTop (mkF m 4 #[.val (.int p0), .unset, .unset, .unset, .unset] [(.int (p0 &&& (2147483647 : Int32)))]))
  refine own_fwd (fun tt kt => XS.iconst X0.here hx rfl (hb hby at_4) kt) ?_
  show own_R p.tables e below P (s₁.setTop (mkF m 5 #[.val (.int p0), .unset, .unset, .unset, .unset] [(.int (5 : Int32)), (.int (p0 &&& (2147483647 : Int32)))]))
  refine own_fwd (fun tt kt => iremM X0 hx rfl (hb hby at_5) rfl (by decide) kt) ?_
  show own_R p.tables e below P (s₁.setTop (mkF m 6 #[.val (.int p0), .unset, .unset, .unset, .unset] [(.int ((p0 &&& (2147483647 : Int32)) % (5 : Int32)))]))
  rcases own_sel p0 with hsel | hsel | hsel | hsel | hsel
  · rw [hsel]
    show own_R p.tables e below P (s₁.setTop (mkF m 6 #[.val (.int p0), .unset, .unset, .unset, .unset] [(.int (0 : Int32))]))
    obtain ⟨st, wd, va, s1, s2_, s3, s4, s5, s6, s7⟩ := S0
    refine own_fwd (fun tt kt => XS.istoreN X0.here hx rfl (hb hby at_6) rfl (l' := #[.val (.int p0), .val (.int (0 : Int32)), .unset, .unset, .unset]) rfl kt) ?_
    show own_R p.tables e below P (s₁.setTop (mkF m 7 #[.val (.int p0), .val (.int (0 : Int32)), .unset, .unset, .unset] []))
    refine own_fwd (fun tt kt => XS.iloadN X0.here hx rfl (hb hby at_7) rfl kt) ?_
    show own_R p.tables e below P (s₁.setTop (mkF m 8 #[.val (.int p0), .val (.int (0 : Int32)), .unset, .unset, .unset] [(.int (0 : Int32))]))
    have hc27 : (0 : Int32) = (0 : Int32) := (by decide)
    refine own_fwd (fun tt kt => XS.ifNo X0.here hx rfl (hb hby at_8) rfl ((if0 _ _).trans (teq hc27).2) kt) ?_
    show own_R p.tables e below P (s₁.setTop (mkF m 11 #[.val (.int p0), .val (.int (0 : Int32)), .unset, .unset, .unset] []))
    obtain ⟨T28, X28, e28, st28⟩ := getS2 X0 hx hZ hown (host := "") (Or.inl (hw _ (List.mem_of_getElem? (i := 1) rfl))) Via.refl e0 s1 (g := (mkF m 11 #[.val (.int p0), .val (.int (0 : Int32)), .unset, .unset, .unset] [])) rfl (hb hby at_11)
    refine own_fwd st28 ?_
    show own_R p.tables e below P (T28.setTop (mkF m 14 #[.val (.int p0), .val (.int (0 : Int32)), .unset, .unset, .unset] [(.ref st)]))
    refine own_fwd (fun tt kt => XS.astoreN X28.here hx rfl (hb hby at_14) rfl rfl (l' := #[.val (.int p0), .val (.int (0 : Int32)), .val (.ref st), .unset, .unset]) rfl kt) ?_
    show own_R p.tables e below P (T28.setTop (mkF m 15 #[.val (.int p0), .val (.int (0 : Int32)), .val (.ref st), .unset, .unset] []))
    obtain ⟨a29, T29, h29, k29, b29, c29, X29, e29, E29, hS2, hk2, hZ2, hown2, Ea29, Fc29, Fv29, Av29, -, -, -, st29⟩ := ldcSV (s := s) (vm0 := s.vm) (Ts := []) X28 hx hZ hown (hw _ (List.mem_of_getElem? (i := 4) rfl)) wS e28 hS0 (Nat.zero_le _) (Fr.nil _) (fun b cl q => by rw [hhz]; exact q) (by rw [hv]; exact IB.start) (by simp) hh0 hcw (vs := ([(110 : Int32), (111 : Int32), (116 : Int32), (45 : Int32), (112 : Int32), (97 : Int32), (105 : Int32), (100 : Int32)] : List Int32).map Value.int) (z := 8) (by decide) (by decide) (by decide) (g := (mkF m 15 #[.val (.int p0), .val (.int (0 : Int32)), .val (.ref st), .unset, .unset] [])) rfl (hb hby at_15) (n := 32) (by decide) (by decide) (by decide) (by decide)
    obtain ⟨s2, hs2⟩ : ∃ z, s.setVm T29.vm = z := ⟨_, rfl⟩
    rw [hs2] at X29 hZ2 hown2
    have hZ := hZ2
    have hown := hown2
    have s1_x29 := s1.ext E29
    have s2__x29 := s2_.ext E29
    have s3_x29 := s3.ext E29
    have s4_x29 := s4.ext E29
    have s5_x29 := s5.ext E29
    have s6_x29 := s6.ext E29
    have s7_x29 := s7.ext E29
    have pS_x29 := pS.ext E29
    have Ab29 := own_of_arv (n := 8) Av29 (by decide)
    have Z29 : n0 ≤ h29.size := Nat.le_trans Z0 E29.1
    refine own_fwd st29 ?_
    show own_R p.tables e below P (T29.setTop (mkF m 17 #[.val (.int p0), .val (.int (0 : Int32)), .val (.ref st), .unset, .unset] [(.ref a29)]))
    refine own_fwd (fun tt kt => XS.astoreN X29.here hx rfl (hb hby at_17) rfl rfl (l' := #[.val (.int p0), .val (.int (0 : Int32)), .val (.ref st), .val (.ref a29), .unset]) rfl kt) ?_
    show own_R p.tables e below P (T29.setTop (mkF m 18 #[.val (.int p0), .val (.int (0 : Int32)), .val (.ref st), .val (.ref a29), .unset] []))
    refine own_fwd (fun tt kt => XS.goto X29.here hx rfl (pc0 := 18) (pc' := 70) rfl (hb hby at_18) (by decide) (by decide) kt) ?_
    show own_R p.tables e below P (T29.setTop (mkF m 70 #[.val (.int p0), .val (.int (0 : Int32)), .val (.ref st), .val (.ref a29), .unset] []))
    refine own_fwd (fun tt kt => XS.aloadN X29.here hx rfl (hb hby at_70) rfl rfl kt) ?_
    show own_R p.tables e below P (T29.setTop (mkF m 71 #[.val (.int p0), .val (.int (0 : Int32)), .val (.ref st), .val (.ref a29), .unset] [(.ref st)]))
    obtain ⟨_, _, ⟨T30, L30, k30, n30⟩, -, X30, ⟨Lc30, hQ30, l30, y30, z30⟩, st30⟩ := Jvm.LawKit.callS X29 hx (y := (⟨"com/example/erpctl/erpctl/core/model/PaymentStatus", "wordOf", "(Lcom/example/erpctl/erpctl/core/model/PaymentStatus;)Ljava/lang/String;"⟩ : MethodName)) hown (mvT hZ (hw _ (List.mem_of_getElem? (i := 12) rfl))) (mvT hZ (hw _ (List.mem_of_getElem? (i := 13) rfl))) (mvT hZ (hw _ (List.mem_of_getElem? (i := 2) rfl))) (mvT hZ (hw _ (List.mem_of_getElem? (i := 14) rfl))) (by decide) (backOf (W := 0) (own_rm1 l Z a0 hw [] st wd h29 n0 Z29 s2__x29 s3_x29) hZ (hw _ (List.mem_of_getElem? (i := 14) rfl)) (hw _ (List.mem_of_getElem? (i := 2) rfl)) (by decide) (by decide)) (g := (mkF m 71 #[.val (.int p0), .val (.int (0 : Int32)), .val (.ref st), .val (.ref a29), .unset] [(.ref st)])) rfl (by rw [hml]; rfl) (argsL := [(.ref st)]) (rest := []) (lenOf own_pd2 rfl) rfl (by show 2 * 0 + _ ≤ _; exact Nat.le_of_eq rfl) (hb hby at_71) (fun _ _ => ⟨rfl, e29, (by decide : 2 + 0 ≤ _), (by decide : 36 + 0 ≤ _)⟩)
    dsimp only [Pt.U, Pt.locs, Pt.cells, Pt.slots] at X30 l30 y30 z30 st30 hQ30
    rw [l30, (show k30 = 2 from y30), (show n30 = 36 from z30)] at X30
    obtain ⟨h30, e30⟩ : ∃ z, T30.heap = z := ⟨_, rfl⟩
    rw [e30] at hQ30
    obtain ⟨hq30, N30q, q30⟩ := hQ30
    rw [q30] at e30
    rw [hq30] at st30
    have N30 := Fr.app N0 N30q
    refine own_fwd st30 ?_
    show own_R p.tables e below P (T30.setTop (mkF m 74 #[.val (.int p0), .val (.int (0 : Int32)), .val (.ref st), .val (.ref a29), .unset] [(.ref wd)]))
    refine own_fwd (fun tt kt => XS.astore X30.here hx rfl (hb hby at_74) rfl rfl (l' := #[.val (.int p0), .val (.int (0 : Int32)), .val (.ref st), .val (.ref a29), .val (.ref wd)]) rfl kt) ?_
    show own_R p.tables e below P (T30.setTop (mkF m 76 #[.val (.int p0), .val (.int (0 : Int32)), .val (.ref st), .val (.ref a29), .val (.ref wd)] []))
    refine own_fwd (fun tt kt => XS.aloadN X30.here hx rfl (hb hby at_76) rfl rfl kt) ?_
    show own_R p.tables e below P (T30.setTop (mkF m 77 #[.val (.int p0), .val (.int (0 : Int32)), .val (.ref st), .val (.ref a29), .val (.ref wd)] [(.ref a29)]))
    refine own_fwd (fun tt kt => XS.ifnonnullYes X30.here hx rfl (pc0 := 77) (pc' := 91) rfl (hb hby at_77) rfl (by decide) (by decide) kt) ?_
    show own_R p.tables e below P (T30.setTop (mkF m 91 #[.val (.int p0), .val (.int (0 : Int32)), .val (.ref st), .val (.ref a29), .val (.ref wd)] []))
    refine own_fwd (fun tt kt => XS.aload X30.here hx rfl (hb hby at_91) rfl rfl kt) ?_
    show own_R p.tables e below P (T30.setTop (mkF m 93 #[.val (.int p0), .val (.int (0 : Int32)), .val (.ref st), .val (.ref a29), .val (.ref wd)] [(.ref wd)]))
    refine own_fwd (fun tt kt => XS.ifnullNo X30.here hx rfl (hb hby at_93) rfl kt) ?_
    show own_R p.tables e below P (T30.setTop (mkF m 96 #[.val (.int p0), .val (.int (0 : Int32)), .val (.ref st), .val (.ref a29), .val (.ref wd)] []))
    refine own_fwd (fun tt kt => XS.aload X30.here hx rfl (hb hby at_96) rfl rfl kt) ?_
    show own_R p.tables e below P (T30.setTop (mkF m 98 #[.val (.int p0), .val (.int (0 : Int32)), .val (.ref st), .val (.ref a29), .val (.ref wd)] [(.ref wd)]))
    refine own_fwd (fun tt kt => XS.aloadN X30.here hx rfl (hb hby at_98) rfl rfl kt) ?_
    show own_R p.tables e below P (T30.setTop (mkF m 99 #[.val (.int p0), .val (.int (0 : Int32)), .val (.ref st), .val (.ref a29), .val (.ref wd)] [(.ref a29), (.ref wd)]))
    obtain ⟨cq31, kq31, q31a, q31b, q31c⟩ := isOf hZ e30 s4_x29
    obtain ⟨_, _, ⟨T31, L31, k31, n31⟩, -, X31, ⟨Lc31, hQ31, l31, y31, z31⟩, st31⟩ := X30.virtualBack hx (y := (⟨"java/lang/String", "equals", "(Ljava/lang/Object;)Z"⟩ : MethodName)) (z := (⟨"java/lang/String", "equals", "(Ljava/lang/Object;)Z"⟩ : MethodName)) hown (mvT hZ (hw _ (List.mem_of_getElem? (i := 22) rfl))) (mvT hZ (hw _ (List.mem_of_getElem? (i := 23) rfl))) (notFace_of_selects (args := #[]) (mvT hZ (hw _ (List.mem_of_getElem? (i := 25) rfl)))) (mvT hZ (hw _ (List.mem_of_getElem? (i := 25) rfl))) (mvT hZ (hw _ (List.mem_of_getElem? (i := 24) rfl))) (by decide) (backOf (W := 0) (own_rm3 l Z a0 hw [] wd a29 va b29 8 (fun i => ([(110 : Int32), (111 : Int32), (116 : Int32), (45 : Int32), (112 : Int32), (97 : Int32), (105 : Int32), (100 : Int32)] : List Int32).getD i 0) cc h29 n0 Z29 s5_x29 s6_x29 Ea29 Fc29 Fv29 s7_x29 Ab29 pS_x29 hcc) hZ (hw _ (List.mem_of_getElem? (i := 26) rfl)) (hw _ (List.mem_of_getElem? (i := 5) rfl)) (by decide) (by decide)) q31a q31c (g := (mkF m 99 #[.val (.int p0), .val (.int (0 : Int32)), .val (.ref st), .val (.ref a29), .val (.ref wd)] [(.ref a29), (.ref wd)])) rfl (by rw [hml]; rfl) (Steps.refl _) (argsL := [(.ref a29)]) (rest := []) (lenOf own_pd3 rfl) rfl (by show 2 * 0 + _ ≤ _; exact Nat.le_of_eq rfl) (hb hby at_99) (fun _ _ => ⟨rfl, e30, (by decide : 2 + 0 ≤ _), (by decide : 36 + 0 ≤ _)⟩)
    dsimp only [Pt.U, Pt.locs, Pt.cells, Pt.slots] at X31 l31 y31 z31 st31 hQ31
    rw [l31, (show k31 = 2 from y31), (show n31 = 36 from z31)] at X31
    obtain ⟨h31, e31⟩ : ∃ z, T31.heap = z := ⟨_, rfl⟩
    rw [e31] at hQ31
    obtain ⟨hq31, N31q, q31⟩ := hQ31
    rw [q31] at e31
    rw [hq31] at st31
    have N31 := Fr.app N30 N31q
    refine own_trn st31 ?_
    show own_R p.tables e below P (T31.setTop (mkF m 102 #[.val (.int p0), .val (.int (0 : Int32)), .val (.ref st), .val (.ref a29), .val (.ref wd)] [(.int (1 : Int32))]))
    have hc32 : ¬ ((1 : Int32) = (0 : Int32)) := (by decide)
    refine own_fwd (fun tt kt => XS.ifNo X31.here hx rfl (hb hby at_102) rfl ((if0 _ _).trans (feq hc32).1) kt) ?_
    show own_R p.tables e below P (T31.setTop (mkF m 105 #[.val (.int p0), .val (.int (0 : Int32)), .val (.ref st), .val (.ref a29), .val (.ref wd)] []))
    refine own_fwd (fun tt kt => XS.iconst X31.here hx rfl (hb hby at_105) kt) ?_
    show own_R p.tables e below P (T31.setTop (mkF m 106 #[.val (.int p0), .val (.int (0 : Int32)), .val (.ref st), .val (.ref a29), .val (.ref wd)] [(.int (1 : Int32))]))
    refine own_fwd (fun tt kt => XS.goto X31.here hx rfl (pc0 := 106) (pc' := 110) rfl (hb hby at_106) (by decide) (by decide) kt) ?_
    show own_R p.tables e below P (T31.setTop (mkF m 110 #[.val (.int p0), .val (.int (0 : Int32)), .val (.ref st), .val (.ref a29), .val (.ref wd)] [(.int (1 : Int32))]))
    rw [← hs2] at X31
    obtain ⟨fs33, hr33, hrun33, hended33, hRW33⟩ := X31.leaveW hS2 (by rw [e31]; exact hk2) (v := some (.int (1 : Int32))) (fun h => by rw [Bd.returns] at h; cases h)
    refine ⟨_, _, X31.ireturnOut hx (w := (1 : Int32)) Bd.returns rfl (by simp) (hb hby at_110) hr33, fin _ _ ⟨hrun33, hended33, _, _, rfl, ?_, hRW33.1, hRW33.2.1, hRW33.2.2.1, hRW33.2.2.2.mono (by decide) (by decide)⟩⟩
    exact ⟨rfl, N31⟩
  · rw [hsel]
    show own_R p.tables e below P (s₁.setTop (mkF m 6 #[.val (.int p0), .unset, .unset, .unset, .unset] [(.int (1 : Int32))]))
    obtain ⟨st, wd, va, s1, s2_, s3, s4, s5, s6, s7⟩ := S1
    refine own_fwd (fun tt kt => XS.istoreN X0.here hx rfl (hb hby at_6) rfl (l' := #[.val (.int p0), .val (.int (1 : Int32)), .unset, .unset, .unset]) rfl kt) ?_
    show own_R p.tables e below P (s₁.setTop (mkF m 7 #[.val (.int p0), .val (.int (1 : Int32)), .unset, .unset, .unset] []))
    refine own_fwd (fun tt kt => XS.iloadN X0.here hx rfl (hb hby at_7) rfl kt) ?_
    show own_R p.tables e below P (s₁.setTop (mkF m 8 #[.val (.int p0), .val (.int (1 : Int32)), .unset, .unset, .unset] [(.int (1 : Int32))]))
    have hc34 : ¬ ((1 : Int32) = (0 : Int32)) := (by decide)
    refine own_fwd (fun tt kt => XS.ifYes X0.here hx rfl (pc0 := 8) (pc' := 21) rfl (hb hby at_8) rfl ((if0 _ _).trans (feq hc34).2) (by decide) (by decide) kt) ?_
    show own_R p.tables e below P (s₁.setTop (mkF m 21 #[.val (.int p0), .val (.int (1 : Int32)), .unset, .unset, .unset] []))
    refine own_fwd (fun tt kt => XS.iloadN X0.here hx rfl (hb hby at_21) rfl kt) ?_
    show own_R p.tables e below P (s₁.setTop (mkF m 22 #[.val (.int p0), .val (.int (1 : Int32)), .unset, .unset, .unset] [(.int (1 : Int32))]))
    refine own_fwd (fun tt kt => XS.iconst X0.here hx rfl (hb hby at_22) kt) ?_
    show own_R p.tables e below P (s₁.setTop (mkF m 23 #[.val (.int p0), .val (.int (1 : Int32)), .unset, .unset, .unset] [(.int (1 : Int32)), (.int (1 : Int32))]))
    have hc35 : (1 : Int32) = (1 : Int32) := (by decide)
    refine own_fwd (fun tt kt => XS.icmpNo X0.here hx rfl (hb hby at_23) rfl (teq hc35).2 kt) ?_
    show own_R p.tables e below P (s₁.setTop (mkF m 26 #[.val (.int p0), .val (.int (1 : Int32)), .unset, .unset, .unset] []))
    obtain ⟨T36, X36, e36, st36⟩ := getS2 X0 hx hZ hown (host := "") (Or.inl (hw _ (List.mem_of_getElem? (i := 39) rfl))) Via.refl e0 s1 (g := (mkF m 26 #[.val (.int p0), .val (.int (1 : Int32)), .unset, .unset, .unset] [])) rfl (hb hby at_26)
    refine own_fwd st36 ?_
    show own_R p.tables e below P (T36.setTop (mkF m 29 #[.val (.int p0), .val (.int (1 : Int32)), .unset, .unset, .unset] [(.ref st)]))
    refine own_fwd (fun tt kt => XS.astoreN X36.here hx rfl (hb hby at_29) rfl rfl (l' := #[.val (.int p0), .val (.int (1 : Int32)), .val (.ref st), .unset, .unset]) rfl kt) ?_
    show own_R p.tables e below P (T36.setTop (mkF m 30 #[.val (.int p0), .val (.int (1 : Int32)), .val (.ref st), .unset, .unset] []))
    obtain ⟨a37, T37, h37, k37, b37, c37, X37, e37, E37, hS2, hk2, hZ2, hown2, Ea37, Fc37, Fv37, Av37, -, -, -, st37⟩ := ldcSV (s := s) (vm0 := s.vm) (Ts := []) X36 hx hZ hown (hw _ (List.mem_of_getElem? (i := 41) rfl)) wS e36 hS0 (Nat.zero_le _) (Fr.nil _) (fun b cl q => by rw [hhz]; exact q) (by rw [hv]; exact IB.start) (by simp) hh1 hcw (vs := ([(112 : Int32), (97 : Int32), (114 : Int32), (116 : Int32), (108 : Int32), (121 : Int32), (45 : Int32), (112 : Int32), (97 : Int32), (105 : Int32), (100 : Int32)] : List Int32).map Value.int) (z := 11) (by decide) (by decide) (by decide) (g := (mkF m 30 #[.val (.int p0), .val (.int (1 : Int32)), .val (.ref st), .unset, .unset] [])) rfl (hb hby at_30) (n := 44) (by decide) (by decide) (by decide) (by decide)
    obtain ⟨s2, hs2⟩ : ∃ z, s.setVm T37.vm = z := ⟨_, rfl⟩
    rw [hs2] at X37 hZ2 hown2
    have hZ := hZ2
    have hown := hown2
    have s1_x37 := s1.ext E37
    have s2__x37 := s2_.ext E37
    have s3_x37 := s3.ext E37
    have s4_x37 := s4.ext E37
    have s5_x37 := s5.ext E37
    have s6_x37 := s6.ext E37
    have s7_x37 := s7.ext E37
    have pS_x37 := pS.ext E37
    have Ab37 := own_of_arv (n := 11) Av37 (by decide)
    have Z37 : n0 ≤ h37.size := Nat.le_trans Z0 E37.1
    refine own_fwd st37 ?_
    show own_R p.tables e below P (T37.setTop (mkF m 32 #[.val (.int p0), .val (.int (1 : Int32)), .val (.ref st), .unset, .unset] [(.ref a37)]))
    refine own_fwd (fun tt kt => XS.astoreN X37.here hx rfl (hb hby at_32) rfl rfl (l' := #[.val (.int p0), .val (.int (1 : Int32)), .val (.ref st), .val (.ref a37), .unset]) rfl kt) ?_
    show own_R p.tables e below P (T37.setTop (mkF m 33 #[.val (.int p0), .val (.int (1 : Int32)), .val (.ref st), .val (.ref a37), .unset] []))
    refine own_fwd (fun tt kt => XS.goto X37.here hx rfl (pc0 := 33) (pc' := 70) rfl (hb hby at_33) (by decide) (by decide) kt) ?_
    show own_R p.tables e below P (T37.setTop (mkF m 70 #[.val (.int p0), .val (.int (1 : Int32)), .val (.ref st), .val (.ref a37), .unset] []))
    refine own_fwd (fun tt kt => XS.aloadN X37.here hx rfl (hb hby at_70) rfl rfl kt) ?_
    show own_R p.tables e below P (T37.setTop (mkF m 71 #[.val (.int p0), .val (.int (1 : Int32)), .val (.ref st), .val (.ref a37), .unset] [(.ref st)]))
    obtain ⟨_, _, ⟨T38, L38, k38, n38⟩, -, X38, ⟨Lc38, hQ38, l38, y38, z38⟩, st38⟩ := Jvm.LawKit.callS X37 hx (y := (⟨"com/example/erpctl/erpctl/core/model/PaymentStatus", "wordOf", "(Lcom/example/erpctl/erpctl/core/model/PaymentStatus;)Ljava/lang/String;"⟩ : MethodName)) hown (mvT hZ (hw _ (List.mem_of_getElem? (i := 12) rfl))) (mvT hZ (hw _ (List.mem_of_getElem? (i := 13) rfl))) (mvT hZ (hw _ (List.mem_of_getElem? (i := 2) rfl))) (mvT hZ (hw _ (List.mem_of_getElem? (i := 14) rfl))) (by decide) (backOf (W := 0) (own_rm1 l Z a0 hw [] st wd h37 n0 Z37 s2__x37 s3_x37) hZ (hw _ (List.mem_of_getElem? (i := 14) rfl)) (hw _ (List.mem_of_getElem? (i := 2) rfl)) (by decide) (by decide)) (g := (mkF m 71 #[.val (.int p0), .val (.int (1 : Int32)), .val (.ref st), .val (.ref a37), .unset] [(.ref st)])) rfl (by rw [hml]; rfl) (argsL := [(.ref st)]) (rest := []) (lenOf own_pd2 rfl) rfl (by show 2 * 0 + _ ≤ _; exact Nat.le_of_eq rfl) (hb hby at_71) (fun _ _ => ⟨rfl, e37, (by decide : 2 + 0 ≤ _), (by decide : 48 + 0 ≤ _)⟩)
    dsimp only [Pt.U, Pt.locs, Pt.cells, Pt.slots] at X38 l38 y38 z38 st38 hQ38
    rw [l38, (show k38 = 2 from y38), (show n38 = 48 from z38)] at X38
    obtain ⟨h38, e38⟩ : ∃ z, T38.heap = z := ⟨_, rfl⟩
    rw [e38] at hQ38
    obtain ⟨hq38, N38q, q38⟩ := hQ38
    rw [q38] at e38
    rw [hq38] at st38
    have N38 := Fr.app N0 N38q
    refine own_fwd st38 ?_
    show own_R p.tables e below P (T38.setTop (mkF m 74 #[.val (.int p0), .val (.int (1 : Int32)), .val (.ref st), .val (.ref a37), .unset] [(.ref wd)]))
    refine own_fwd (fun tt kt => XS.astore X38.here hx rfl (hb hby at_74) rfl rfl (l' := #[.val (.int p0), .val (.int (1 : Int32)), .val (.ref st), .val (.ref a37), .val (.ref wd)]) rfl kt) ?_
    show own_R p.tables e below P (T38.setTop (mkF m 76 #[.val (.int p0), .val (.int (1 : Int32)), .val (.ref st), .val (.ref a37), .val (.ref wd)] []))
    refine own_fwd (fun tt kt => XS.aloadN X38.here hx rfl (hb hby at_76) rfl rfl kt) ?_
    show own_R p.tables e below P (T38.setTop (mkF m 77 #[.val (.int p0), .val (.int (1 : Int32)), .val (.ref st), .val (.ref a37), .val (.ref wd)] [(.ref a37)]))
    refine own_fwd (fun tt kt => XS.ifnonnullYes X38.here hx rfl (pc0 := 77) (pc' := 91) rfl (hb hby at_77) rfl (by decide) (by decide) kt) ?_
    show own_R p.tables e below P (T38.setTop (mkF m 91 #[.val (.int p0), .val (.int (1 : Int32)), .val (.ref st), .val (.ref a37), .val (.ref wd)] []))
    refine own_fwd (fun tt kt => XS.aload X38.here hx rfl (hb hby at_91) rfl rfl kt) ?_
    show own_R p.tables e below P (T38.setTop (mkF m 93 #[.val (.int p0), .val (.int (1 : Int32)), .val (.ref st), .val (.ref a37), .val (.ref wd)] [(.ref wd)]))
    refine own_fwd (fun tt kt => XS.ifnullNo X38.here hx rfl (hb hby at_93) rfl kt) ?_
    show own_R p.tables e below P (T38.setTop (mkF m 96 #[.val (.int p0), .val (.int (1 : Int32)), .val (.ref st), .val (.ref a37), .val (.ref wd)] []))
    refine own_fwd (fun tt kt => XS.aload X38.here hx rfl (hb hby at_96) rfl rfl kt) ?_
    show own_R p.tables e below P (T38.setTop (mkF m 98 #[.val (.int p0), .val (.int (1 : Int32)), .val (.ref st), .val (.ref a37), .val (.ref wd)] [(.ref wd)]))
    refine own_fwd (fun tt kt => XS.aloadN X38.here hx rfl (hb hby at_98) rfl rfl kt) ?_
    show own_R p.tables e below P (T38.setTop (mkF m 99 #[.val (.int p0), .val (.int (1 : Int32)), .val (.ref st), .val (.ref a37), .val (.ref wd)] [(.ref a37), (.ref wd)]))
    obtain ⟨cq39, kq39, q39a, q39b, q39c⟩ := isOf hZ e38 s4_x37
    obtain ⟨_, _, ⟨T39, L39, k39, n39⟩, -, X39, ⟨Lc39, hQ39, l39, y39, z39⟩, st39⟩ := X38.virtualBack hx (y := (⟨"java/lang/String", "equals", "(Ljava/lang/Object;)Z"⟩ : MethodName)) (z := (⟨"java/lang/String", "equals", "(Ljava/lang/Object;)Z"⟩ : MethodName)) hown (mvT hZ (hw _ (List.mem_of_getElem? (i := 22) rfl))) (mvT hZ (hw _ (List.mem_of_getElem? (i := 23) rfl))) (notFace_of_selects (args := #[]) (mvT hZ (hw _ (List.mem_of_getElem? (i := 25) rfl)))) (mvT hZ (hw _ (List.mem_of_getElem? (i := 25) rfl))) (mvT hZ (hw _ (List.mem_of_getElem? (i := 24) rfl))) (by decide) (backOf (W := 0) (own_rm3 l Z a0 hw [] wd a37 va b37 11 (fun i => ([(112 : Int32), (97 : Int32), (114 : Int32), (116 : Int32), (108 : Int32), (121 : Int32), (45 : Int32), (112 : Int32), (97 : Int32), (105 : Int32), (100 : Int32)] : List Int32).getD i 0) cc h37 n0 Z37 s5_x37 s6_x37 Ea37 Fc37 Fv37 s7_x37 Ab37 pS_x37 hcc) hZ (hw _ (List.mem_of_getElem? (i := 26) rfl)) (hw _ (List.mem_of_getElem? (i := 5) rfl)) (by decide) (by decide)) q39a q39c (g := (mkF m 99 #[.val (.int p0), .val (.int (1 : Int32)), .val (.ref st), .val (.ref a37), .val (.ref wd)] [(.ref a37), (.ref wd)])) rfl (by rw [hml]; rfl) (Steps.refl _) (argsL := [(.ref a37)]) (rest := []) (lenOf own_pd3 rfl) rfl (by show 2 * 0 + _ ≤ _; exact Nat.le_of_eq rfl) (hb hby at_99) (fun _ _ => ⟨rfl, e38, (by decide : 2 + 0 ≤ _), (by decide : 48 + 0 ≤ _)⟩)
    dsimp only [Pt.U, Pt.locs, Pt.cells, Pt.slots] at X39 l39 y39 z39 st39 hQ39
    rw [l39, (show k39 = 2 from y39), (show n39 = 48 from z39)] at X39
    obtain ⟨h39, e39⟩ : ∃ z, T39.heap = z := ⟨_, rfl⟩
    rw [e39] at hQ39
    obtain ⟨hq39, N39q, q39⟩ := hQ39
    rw [q39] at e39
    rw [hq39] at st39
    have N39 := Fr.app N38 N39q
    refine own_trn st39 ?_
    show own_R p.tables e below P (T39.setTop (mkF m 102 #[.val (.int p0), .val (.int (1 : Int32)), .val (.ref st), .val (.ref a37), .val (.ref wd)] [(.int (1 : Int32))]))
    have hc40 : ¬ ((1 : Int32) = (0 : Int32)) := (by decide)
    refine own_fwd (fun tt kt => XS.ifNo X39.here hx rfl (hb hby at_102) rfl ((if0 _ _).trans (feq hc40).1) kt) ?_
    show own_R p.tables e below P (T39.setTop (mkF m 105 #[.val (.int p0), .val (.int (1 : Int32)), .val (.ref st), .val (.ref a37), .val (.ref wd)] []))
    refine own_fwd (fun tt kt => XS.iconst X39.here hx rfl (hb hby at_105) kt) ?_
    show own_R p.tables e below P (T39.setTop (mkF m 106 #[.val (.int p0), .val (.int (1 : Int32)), .val (.ref st), .val (.ref a37), .val (.ref wd)] [(.int (1 : Int32))]))
    refine own_fwd (fun tt kt => XS.goto X39.here hx rfl (pc0 := 106) (pc' := 110) rfl (hb hby at_106) (by decide) (by decide) kt) ?_
    show own_R p.tables e below P (T39.setTop (mkF m 110 #[.val (.int p0), .val (.int (1 : Int32)), .val (.ref st), .val (.ref a37), .val (.ref wd)] [(.int (1 : Int32))]))
    rw [← hs2] at X39
    obtain ⟨fs41, hr41, hrun41, hended41, hRW41⟩ := X39.leaveW hS2 (by rw [e39]; exact hk2) (v := some (.int (1 : Int32))) (fun h => by rw [Bd.returns] at h; cases h)
    refine ⟨_, _, X39.ireturnOut hx (w := (1 : Int32)) Bd.returns rfl (by simp) (hb hby at_110) hr41, fin _ _ ⟨hrun41, hended41, _, _, rfl, ?_, hRW41.1, hRW41.2.1, hRW41.2.2.1, hRW41.2.2.2.mono (by decide) (by decide)⟩⟩
    exact ⟨rfl, N39⟩
  · rw [hsel]
    show own_R p.tables e below P (s₁.setTop (mkF m 6 #[.val (.int p0), .unset, .unset, .unset, .unset] [(.int (2 : Int32))]))
    obtain ⟨st, wd, va, s1, s2_, s3, s4, s5, s6, s7⟩ := S2
    refine own_fwd (fun tt kt => XS.istoreN X0.here hx rfl (hb hby at_6) rfl (l' := #[.val (.int p0), .val (.int (2 : Int32)), .unset, .unset, .unset]) rfl kt) ?_
    show own_R p.tables e below P (s₁.setTop (mkF m 7 #[.val (.int p0), .val (.int (2 : Int32)), .unset, .unset, .unset] []))
    refine own_fwd (fun tt kt => XS.iloadN X0.here hx rfl (hb hby at_7) rfl kt) ?_
    show own_R p.tables e below P (s₁.setTop (mkF m 8 #[.val (.int p0), .val (.int (2 : Int32)), .unset, .unset, .unset] [(.int (2 : Int32))]))
    have hc42 : ¬ ((2 : Int32) = (0 : Int32)) := (by decide)
    refine own_fwd (fun tt kt => XS.ifYes X0.here hx rfl (pc0 := 8) (pc' := 21) rfl (hb hby at_8) rfl ((if0 _ _).trans (feq hc42).2) (by decide) (by decide) kt) ?_
    show own_R p.tables e below P (s₁.setTop (mkF m 21 #[.val (.int p0), .val (.int (2 : Int32)), .unset, .unset, .unset] []))
    refine own_fwd (fun tt kt => XS.iloadN X0.here hx rfl (hb hby at_21) rfl kt) ?_
    show own_R p.tables e below P (s₁.setTop (mkF m 22 #[.val (.int p0), .val (.int (2 : Int32)), .unset, .unset, .unset] [(.int (2 : Int32))]))
    refine own_fwd (fun tt kt => XS.iconst X0.here hx rfl (hb hby at_22) kt) ?_
    show own_R p.tables e below P (s₁.setTop (mkF m 23 #[.val (.int p0), .val (.int (2 : Int32)), .unset, .unset, .unset] [(.int (1 : Int32)), (.int (2 : Int32))]))
    have hc43 : ¬ ((2 : Int32) = (1 : Int32)) := (by decide)
    refine own_fwd (fun tt kt => XS.icmpYes X0.here hx rfl (pc0 := 23) (pc' := 36) rfl (hb hby at_23) rfl (feq hc43).2 (by decide) (by decide) kt) ?_
    show own_R p.tables e below P (s₁.setTop (mkF m 36 #[.val (.int p0), .val (.int (2 : Int32)), .unset, .unset, .unset] []))
    refine own_fwd (fun tt kt => XS.iloadN X0.here hx rfl (hb hby at_36) rfl kt) ?_
    show own_R p.tables e below P (s₁.setTop (mkF m 37 #[.val (.int p0), .val (.int (2 : Int32)), .unset, .unset, .unset] [(.int (2 : Int32))]))
    refine own_fwd (fun tt kt => XS.iconst X0.here hx rfl (hb hby at_37) kt) ?_
    show own_R p.tables e below P (s₁.setTop (mkF m 38 #[.val (.int p0), .val (.int (2 : Int32)), .unset, .unset, .unset] [(.int (2 : Int32)), (.int (2 : Int32))]))
    have hc44 : (2 : Int32) = (2 : Int32) := (by decide)
    refine own_fwd (fun tt kt => XS.icmpNo X0.here hx rfl (hb hby at_38) rfl (teq hc44).2 kt) ?_
    show own_R p.tables e below P (s₁.setTop (mkF m 41 #[.val (.int p0), .val (.int (2 : Int32)), .unset, .unset, .unset] []))
    obtain ⟨T45, X45, e45, st45⟩ := getS2 X0 hx hZ hown (host := "") (Or.inl (hw _ (List.mem_of_getElem? (i := 42) rfl))) Via.refl e0 s1 (g := (mkF m 41 #[.val (.int p0), .val (.int (2 : Int32)), .unset, .unset, .unset] [])) rfl (hb hby at_41)
    refine own_fwd st45 ?_
    show own_R p.tables e below P (T45.setTop (mkF m 44 #[.val (.int p0), .val (.int (2 : Int32)), .unset, .unset, .unset] [(.ref st)]))
    refine own_fwd (fun tt kt => XS.astoreN X45.here hx rfl (hb hby at_44) rfl rfl (l' := #[.val (.int p0), .val (.int (2 : Int32)), .val (.ref st), .unset, .unset]) rfl kt) ?_
    show own_R p.tables e below P (T45.setTop (mkF m 45 #[.val (.int p0), .val (.int (2 : Int32)), .val (.ref st), .unset, .unset] []))
    obtain ⟨a46, T46, h46, k46, b46, c46, X46, e46, E46, hS2, hk2, hZ2, hown2, Ea46, Fc46, Fv46, Av46, -, -, -, st46⟩ := ldcSV (s := s) (vm0 := s.vm) (Ts := []) X45 hx hZ hown (hw _ (List.mem_of_getElem? (i := 44) rfl)) wS e45 hS0 (Nat.zero_le _) (Fr.nil _) (fun b cl q => by rw [hhz]; exact q) (by rw [hv]; exact IB.start) (by simp) hh2 hcw (vs := ([(112 : Int32), (97 : Int32), (105 : Int32), (100 : Int32)] : List Int32).map Value.int) (z := 4) (by decide) (by decide) (by decide) (g := (mkF m 45 #[.val (.int p0), .val (.int (2 : Int32)), .val (.ref st), .unset, .unset] [])) rfl (hb hby at_45) (n := 16) (by decide) (by decide) (by decide) (by decide)
    obtain ⟨s2, hs2⟩ : ∃ z, s.setVm T46.vm = z := ⟨_, rfl⟩
    rw [hs2] at X46 hZ2 hown2
    have hZ := hZ2
    have hown := hown2
    have s1_x46 := s1.ext E46
    have s2__x46 := s2_.ext E46
    have s3_x46 := s3.ext E46
    have s4_x46 := s4.ext E46
    have s5_x46 := s5.ext E46
    have s6_x46 := s6.ext E46
    have s7_x46 := s7.ext E46
    have pS_x46 := pS.ext E46
    have Ab46 := own_of_arv (n := 4) Av46 (by decide)
    have Z46 : n0 ≤ h46.size := Nat.le_trans Z0 E46.1
    refine own_fwd st46 ?_
    show own_R p.tables e below P (T46.setTop (mkF m 47 #[.val (.int p0), .val (.int (2 : Int32)), .val (.ref st), .unset, .unset] [(.ref a46)]))
    refine own_fwd (fun tt kt => XS.astoreN X46.here hx rfl (hb hby at_47) rfl rfl (l' := #[.val (.int p0), .val (.int (2 : Int32)), .val (.ref st), .val (.ref a46), .unset]) rfl kt) ?_
    show own_R p.tables e below P (T46.setTop (mkF m 48 #[.val (.int p0), .val (.int (2 : Int32)), .val (.ref st), .val (.ref a46), .unset] []))
    refine own_fwd (fun tt kt => XS.goto X46.here hx rfl (pc0 := 48) (pc' := 70) rfl (hb hby at_48) (by decide) (by decide) kt) ?_
    show own_R p.tables e below P (T46.setTop (mkF m 70 #[.val (.int p0), .val (.int (2 : Int32)), .val (.ref st), .val (.ref a46), .unset] []))
    refine own_fwd (fun tt kt => XS.aloadN X46.here hx rfl (hb hby at_70) rfl rfl kt) ?_
    show own_R p.tables e below P (T46.setTop (mkF m 71 #[.val (.int p0), .val (.int (2 : Int32)), .val (.ref st), .val (.ref a46), .unset] [(.ref st)]))
    obtain ⟨_, _, ⟨T47, L47, k47, n47⟩, -, X47, ⟨Lc47, hQ47, l47, y47, z47⟩, st47⟩ := Jvm.LawKit.callS X46 hx (y := (⟨"com/example/erpctl/erpctl/core/model/PaymentStatus", "wordOf", "(Lcom/example/erpctl/erpctl/core/model/PaymentStatus;)Ljava/lang/String;"⟩ : MethodName)) hown (mvT hZ (hw _ (List.mem_of_getElem? (i := 12) rfl))) (mvT hZ (hw _ (List.mem_of_getElem? (i := 13) rfl))) (mvT hZ (hw _ (List.mem_of_getElem? (i := 2) rfl))) (mvT hZ (hw _ (List.mem_of_getElem? (i := 14) rfl))) (by decide) (backOf (W := 0) (own_rm1 l Z a0 hw [] st wd h46 n0 Z46 s2__x46 s3_x46) hZ (hw _ (List.mem_of_getElem? (i := 14) rfl)) (hw _ (List.mem_of_getElem? (i := 2) rfl)) (by decide) (by decide)) (g := (mkF m 71 #[.val (.int p0), .val (.int (2 : Int32)), .val (.ref st), .val (.ref a46), .unset] [(.ref st)])) rfl (by rw [hml]; rfl) (argsL := [(.ref st)]) (rest := []) (lenOf own_pd2 rfl) rfl (by show 2 * 0 + _ ≤ _; exact Nat.le_of_eq rfl) (hb hby at_71) (fun _ _ => ⟨rfl, e46, (by decide : 2 + 0 ≤ _), (by decide : 20 + 0 ≤ _)⟩)
    dsimp only [Pt.U, Pt.locs, Pt.cells, Pt.slots] at X47 l47 y47 z47 st47 hQ47
    rw [l47, (show k47 = 2 from y47), (show n47 = 20 from z47)] at X47
    obtain ⟨h47, e47⟩ : ∃ z, T47.heap = z := ⟨_, rfl⟩
    rw [e47] at hQ47
    obtain ⟨hq47, N47q, q47⟩ := hQ47
    rw [q47] at e47
    rw [hq47] at st47
    have N47 := Fr.app N0 N47q
    refine own_fwd st47 ?_
    show own_R p.tables e below P (T47.setTop (mkF m 74 #[.val (.int p0), .val (.int (2 : Int32)), .val (.ref st), .val (.ref a46), .unset] [(.ref wd)]))
    refine own_fwd (fun tt kt => XS.astore X47.here hx rfl (hb hby at_74) rfl rfl (l' := #[.val (.int p0), .val (.int (2 : Int32)), .val (.ref st), .val (.ref a46), .val (.ref wd)]) rfl kt) ?_
    show own_R p.tables e below P (T47.setTop (mkF m 76 #[.val (.int p0), .val (.int (2 : Int32)), .val (.ref st), .val (.ref a46), .val (.ref wd)] []))
    refine own_fwd (fun tt kt => XS.aloadN X47.here hx rfl (hb hby at_76) rfl rfl kt) ?_
    show own_R p.tables e below P (T47.setTop (mkF m 77 #[.val (.int p0), .val (.int (2 : Int32)), .val (.ref st), .val (.ref a46), .val (.ref wd)] [(.ref a46)]))
    refine own_fwd (fun tt kt => XS.ifnonnullYes X47.here hx rfl (pc0 := 77) (pc' := 91) rfl (hb hby at_77) rfl (by decide) (by decide) kt) ?_
    show own_R p.tables e below P (T47.setTop (mkF m 91 #[.val (.int p0), .val (.int (2 : Int32)), .val (.ref st), .val (.ref a46), .val (.ref wd)] []))
    refine own_fwd (fun tt kt => XS.aload X47.here hx rfl (hb hby at_91) rfl rfl kt) ?_
    show own_R p.tables e below P (T47.setTop (mkF m 93 #[.val (.int p0), .val (.int (2 : Int32)), .val (.ref st), .val (.ref a46), .val (.ref wd)] [(.ref wd)]))
    refine own_fwd (fun tt kt => XS.ifnullNo X47.here hx rfl (hb hby at_93) rfl kt) ?_
    show own_R p.tables e below P (T47.setTop (mkF m 96 #[.val (.int p0), .val (.int (2 : Int32)), .val (.ref st), .val (.ref a46), .val (.ref wd)] []))
    refine own_fwd (fun tt kt => XS.aload X47.here hx rfl (hb hby at_96) rfl rfl kt) ?_
    show own_R p.tables e below P (T47.setTop (mkF m 98 #[.val (.int p0), .val (.int (2 : Int32)), .val (.ref st), .val (.ref a46), .val (.ref wd)] [(.ref wd)]))
    refine own_fwd (fun tt kt => XS.aloadN X47.here hx rfl (hb hby at_98) rfl rfl kt) ?_
    show own_R p.tables e below P (T47.setTop (mkF m 99 #[.val (.int p0), .val (.int (2 : Int32)), .val (.ref st), .val (.ref a46), .val (.ref wd)] [(.ref a46), (.ref wd)]))
    obtain ⟨cq48, kq48, q48a, q48b, q48c⟩ := isOf hZ e47 s4_x46
    obtain ⟨_, _, ⟨T48, L48, k48, n48⟩, -, X48, ⟨Lc48, hQ48, l48, y48, z48⟩, st48⟩ := X47.virtualBack hx (y := (⟨"java/lang/String", "equals", "(Ljava/lang/Object;)Z"⟩ : MethodName)) (z := (⟨"java/lang/String", "equals", "(Ljava/lang/Object;)Z"⟩ : MethodName)) hown (mvT hZ (hw _ (List.mem_of_getElem? (i := 22) rfl))) (mvT hZ (hw _ (List.mem_of_getElem? (i := 23) rfl))) (notFace_of_selects (args := #[]) (mvT hZ (hw _ (List.mem_of_getElem? (i := 25) rfl)))) (mvT hZ (hw _ (List.mem_of_getElem? (i := 25) rfl))) (mvT hZ (hw _ (List.mem_of_getElem? (i := 24) rfl))) (by decide) (backOf (W := 0) (own_rm3 l Z a0 hw [] wd a46 va b46 4 (fun i => ([(112 : Int32), (97 : Int32), (105 : Int32), (100 : Int32)] : List Int32).getD i 0) cc h46 n0 Z46 s5_x46 s6_x46 Ea46 Fc46 Fv46 s7_x46 Ab46 pS_x46 hcc) hZ (hw _ (List.mem_of_getElem? (i := 26) rfl)) (hw _ (List.mem_of_getElem? (i := 5) rfl)) (by decide) (by decide)) q48a q48c (g := (mkF m 99 #[.val (.int p0), .val (.int (2 : Int32)), .val (.ref st), .val (.ref a46), .val (.ref wd)] [(.ref a46), (.ref wd)])) rfl (by rw [hml]; rfl) (Steps.refl _) (argsL := [(.ref a46)]) (rest := []) (lenOf own_pd3 rfl) rfl (by show 2 * 0 + _ ≤ _; exact Nat.le_of_eq rfl) (hb hby at_99) (fun _ _ => ⟨rfl, e47, (by decide : 2 + 0 ≤ _), (by decide : 20 + 0 ≤ _)⟩)
    dsimp only [Pt.U, Pt.locs, Pt.cells, Pt.slots] at X48 l48 y48 z48 st48 hQ48
    rw [l48, (show k48 = 2 from y48), (show n48 = 20 from z48)] at X48
    obtain ⟨h48, e48⟩ : ∃ z, T48.heap = z := ⟨_, rfl⟩
    rw [e48] at hQ48
    obtain ⟨hq48, N48q, q48⟩ := hQ48
    rw [q48] at e48
    rw [hq48] at st48
    have N48 := Fr.app N47 N48q
    refine own_trn st48 ?_
    show own_R p.tables e below P (T48.setTop (mkF m 102 #[.val (.int p0), .val (.int (2 : Int32)), .val (.ref st), .val (.ref a46), .val (.ref wd)] [(.int (1 : Int32))]))
    have hc49 : ¬ ((1 : Int32) = (0 : Int32)) := (by decide)
    refine own_fwd (fun tt kt => XS.ifNo X48.here hx rfl (hb hby at_102) rfl ((if0 _ _).trans (feq hc49).1) kt) ?_
    show own_R p.tables e below P (T48.setTop (mkF m 105 #[.val (.int p0), .val (.int (2 : Int32)), .val (.ref st), .val (.ref a46), .val (.ref wd)] []))
    refine own_fwd (fun tt kt => XS.iconst X48.here hx rfl (hb hby at_105) kt) ?_
    show own_R p.tables e below P (T48.setTop (mkF m 106 #[.val (.int p0), .val (.int (2 : Int32)), .val (.ref st), .val (.ref a46), .val (.ref wd)] [(.int (1 : Int32))]))
    refine own_fwd (fun tt kt => XS.goto X48.here hx rfl (pc0 := 106) (pc' := 110) rfl (hb hby at_106) (by decide) (by decide) kt) ?_
    show own_R p.tables e below P (T48.setTop (mkF m 110 #[.val (.int p0), .val (.int (2 : Int32)), .val (.ref st), .val (.ref a46), .val (.ref wd)] [(.int (1 : Int32))]))
    rw [← hs2] at X48
    obtain ⟨fs50, hr50, hrun50, hended50, hRW50⟩ := X48.leaveW hS2 (by rw [e48]; exact hk2) (v := some (.int (1 : Int32))) (fun h => by rw [Bd.returns] at h; cases h)
    refine ⟨_, _, X48.ireturnOut hx (w := (1 : Int32)) Bd.returns rfl (by simp) (hb hby at_110) hr50, fin _ _ ⟨hrun50, hended50, _, _, rfl, ?_, hRW50.1, hRW50.2.1, hRW50.2.2.1, hRW50.2.2.2.mono (by decide) (by decide)⟩⟩
    exact ⟨rfl, N48⟩
  · rw [hsel]
    show own_R p.tables e below P (s₁.setTop (mkF m 6 #[.val (.int p0), .unset, .unset, .unset, .unset] [(.int (3 : Int32))]))
    obtain ⟨st, wd, va, s1, s2_, s3, s4, s5, s6, s7⟩ := S3
    refine own_fwd (fun tt kt => XS.istoreN X0.here hx rfl (hb hby at_6) rfl (l' := #[.val (.int p0), .val (.int (3 : Int32)), .unset, .unset, .unset]) rfl kt) ?_
    show own_R p.tables e below P (s₁.setTop (mkF m 7 #[.val (.int p0), .val (.int (3 : Int32)), .unset, .unset, .unset] []))
    refine own_fwd (fun tt kt => XS.iloadN X0.here hx rfl (hb hby at_7) rfl kt) ?_
    show own_R p.tables e below P (s₁.setTop (mkF m 8 #[.val (.int p0), .val (.int (3 : Int32)), .unset, .unset, .unset] [(.int (3 : Int32))]))
    have hc51 : ¬ ((3 : Int32) = (0 : Int32)) := (by decide)
    refine own_fwd (fun tt kt => XS.ifYes X0.here hx rfl (pc0 := 8) (pc' := 21) rfl (hb hby at_8) rfl ((if0 _ _).trans (feq hc51).2) (by decide) (by decide) kt) ?_
    show own_R p.tables e below P (s₁.setTop (mkF m 21 #[.val (.int p0), .val (.int (3 : Int32)), .unset, .unset, .unset] []))
    refine own_fwd (fun tt kt => XS.iloadN X0.here hx rfl (hb hby at_21) rfl kt) ?_
    show own_R p.tables e below P (s₁.setTop (mkF m 22 #[.val (.int p0), .val (.int (3 : Int32)), .unset, .unset, .unset] [(.int (3 : Int32))]))
    refine own_fwd (fun tt kt => XS.iconst X0.here hx rfl (hb hby at_22) kt) ?_
    show own_R p.tables e below P (s₁.setTop (mkF m 23 #[.val (.int p0), .val (.int (3 : Int32)), .unset, .unset, .unset] [(.int (1 : Int32)), (.int (3 : Int32))]))
    have hc52 : ¬ ((3 : Int32) = (1 : Int32)) := (by decide)
    refine own_fwd (fun tt kt => XS.icmpYes X0.here hx rfl (pc0 := 23) (pc' := 36) rfl (hb hby at_23) rfl (feq hc52).2 (by decide) (by decide) kt) ?_
    show own_R p.tables e below P (s₁.setTop (mkF m 36 #[.val (.int p0), .val (.int (3 : Int32)), .unset, .unset, .unset] []))
    refine own_fwd (fun tt kt => XS.iloadN X0.here hx rfl (hb hby at_36) rfl kt) ?_
    show own_R p.tables e below P (s₁.setTop (mkF m 37 #[.val (.int p0), .val (.int (3 : Int32)), .unset, .unset, .unset] [(.int (3 : Int32))]))
    refine own_fwd (fun tt kt => XS.iconst X0.here hx rfl (hb hby at_37) kt) ?_
    show own_R p.tables e below P (s₁.setTop (mkF m 38 #[.val (.int p0), .val (.int (3 : Int32)), .unset, .unset, .unset] [(.int (2 : Int32)), (.int (3 : Int32))]))
    have hc53 : ¬ ((3 : Int32) = (2 : Int32)) := (by decide)
    refine own_fwd (fun tt kt => XS.icmpYes X0.here hx rfl (pc0 := 38) (pc' := 51) rfl (hb hby at_38) rfl (feq hc53).2 (by decide) (by decide) kt) ?_
    show own_R p.tables e below P (s₁.setTop (mkF m 51 #[.val (.int p0), .val (.int (3 : Int32)), .unset, .unset, .unset] []))
    refine own_fwd (fun tt kt => XS.iloadN X0.here hx rfl (hb hby at_51) rfl kt) ?_
    show own_R p.tables e below P (s₁.setTop (mkF m 52 #[.val (.int p0), .val (.int (3 : Int32)), .unset, .unset, .unset] [(.int (3 : Int32))]))
    refine own_fwd (fun tt kt => XS.iconst X0.here hx rfl (hb hby at_52) kt) ?_
    show own_R p.tables e below P (s₁.setTop (mkF m 53 #[.val (.int p0), .val (.int (3 : Int32)), .unset, .unset, .unset] [(.int (3 : Int32)), (.int (3 : Int32))]))
    have hc54 : (3 : Int32) = (3 : Int32) := (by decide)
    refine own_fwd (fun tt kt => XS.icmpNo X0.here hx rfl (hb hby at_53) rfl (teq hc54).2 kt) ?_
    show own_R p.tables e below P (s₁.setTop (mkF m 56 #[.val (.int p0), .val (.int (3 : Int32)), .unset, .unset, .unset] []))
    obtain ⟨T55, X55, e55, st55⟩ := getS2 X0 hx hZ hown (host := "") (Or.inl (hw _ (List.mem_of_getElem? (i := 36) rfl))) Via.refl e0 s1 (g := (mkF m 56 #[.val (.int p0), .val (.int (3 : Int32)), .unset, .unset, .unset] [])) rfl (hb hby at_56)
    refine own_fwd st55 ?_
    show own_R p.tables e below P (T55.setTop (mkF m 59 #[.val (.int p0), .val (.int (3 : Int32)), .unset, .unset, .unset] [(.ref st)]))
    refine own_fwd (fun tt kt => XS.astoreN X55.here hx rfl (hb hby at_59) rfl rfl (l' := #[.val (.int p0), .val (.int (3 : Int32)), .val (.ref st), .unset, .unset]) rfl kt) ?_
    show own_R p.tables e below P (T55.setTop (mkF m 60 #[.val (.int p0), .val (.int (3 : Int32)), .val (.ref st), .unset, .unset] []))
    obtain ⟨a56, T56, h56, k56, b56, c56, X56, e56, E56, hS2, hk2, hZ2, hown2, Ea56, Fc56, Fv56, Av56, -, -, -, st56⟩ := ldcSV (s := s) (vm0 := s.vm) (Ts := []) X55 hx hZ hown (hw _ (List.mem_of_getElem? (i := 38) rfl)) wS e55 hS0 (Nat.zero_le _) (Fr.nil _) (fun b cl q => by rw [hhz]; exact q) (by rw [hv]; exact IB.start) (by simp) hh3 hcw (vs := ([(111 : Int32), (118 : Int32), (101 : Int32), (114 : Int32), (112 : Int32), (97 : Int32), (105 : Int32), (100 : Int32)] : List Int32).map Value.int) (z := 8) (by decide) (by decide) (by decide) (g := (mkF m 60 #[.val (.int p0), .val (.int (3 : Int32)), .val (.ref st), .unset, .unset] [])) rfl (hb hby at_60) (n := 32) (by decide) (by decide) (by decide) (by decide)
    obtain ⟨s2, hs2⟩ : ∃ z, s.setVm T56.vm = z := ⟨_, rfl⟩
    rw [hs2] at X56 hZ2 hown2
    have hZ := hZ2
    have hown := hown2
    have s1_x56 := s1.ext E56
    have s2__x56 := s2_.ext E56
    have s3_x56 := s3.ext E56
    have s4_x56 := s4.ext E56
    have s5_x56 := s5.ext E56
    have s6_x56 := s6.ext E56
    have s7_x56 := s7.ext E56
    have pS_x56 := pS.ext E56
    have Ab56 := own_of_arv (n := 8) Av56 (by decide)
    have Z56 : n0 ≤ h56.size := Nat.le_trans Z0 E56.1
    refine own_fwd st56 ?_
    show own_R p.tables e below P (T56.setTop (mkF m 62 #[.val (.int p0), .val (.int (3 : Int32)), .val (.ref st), .unset, .unset] [(.ref a56)]))
    refine own_fwd (fun tt kt => XS.astoreN X56.here hx rfl (hb hby at_62) rfl rfl (l' := #[.val (.int p0), .val (.int (3 : Int32)), .val (.ref st), .val (.ref a56), .unset]) rfl kt) ?_
    show own_R p.tables e below P (T56.setTop (mkF m 63 #[.val (.int p0), .val (.int (3 : Int32)), .val (.ref st), .val (.ref a56), .unset] []))
    refine own_fwd (fun tt kt => XS.goto X56.here hx rfl (pc0 := 63) (pc' := 70) rfl (hb hby at_63) (by decide) (by decide) kt) ?_
    show own_R p.tables e below P (T56.setTop (mkF m 70 #[.val (.int p0), .val (.int (3 : Int32)), .val (.ref st), .val (.ref a56), .unset] []))
    refine own_fwd (fun tt kt => XS.aloadN X56.here hx rfl (hb hby at_70) rfl rfl kt) ?_
    show own_R p.tables e below P (T56.setTop (mkF m 71 #[.val (.int p0), .val (.int (3 : Int32)), .val (.ref st), .val (.ref a56), .unset] [(.ref st)]))
    obtain ⟨_, _, ⟨T57, L57, k57, n57⟩, -, X57, ⟨Lc57, hQ57, l57, y57, z57⟩, st57⟩ := Jvm.LawKit.callS X56 hx (y := (⟨"com/example/erpctl/erpctl/core/model/PaymentStatus", "wordOf", "(Lcom/example/erpctl/erpctl/core/model/PaymentStatus;)Ljava/lang/String;"⟩ : MethodName)) hown (mvT hZ (hw _ (List.mem_of_getElem? (i := 12) rfl))) (mvT hZ (hw _ (List.mem_of_getElem? (i := 13) rfl))) (mvT hZ (hw _ (List.mem_of_getElem? (i := 2) rfl))) (mvT hZ (hw _ (List.mem_of_getElem? (i := 14) rfl))) (by decide) (backOf (W := 0) (own_rm1 l Z a0 hw [] st wd h56 n0 Z56 s2__x56 s3_x56) hZ (hw _ (List.mem_of_getElem? (i := 14) rfl)) (hw _ (List.mem_of_getElem? (i := 2) rfl)) (by decide) (by decide)) (g := (mkF m 71 #[.val (.int p0), .val (.int (3 : Int32)), .val (.ref st), .val (.ref a56), .unset] [(.ref st)])) rfl (by rw [hml]; rfl) (argsL := [(.ref st)]) (rest := []) (lenOf own_pd2 rfl) rfl (by show 2 * 0 + _ ≤ _; exact Nat.le_of_eq rfl) (hb hby at_71) (fun _ _ => ⟨rfl, e56, (by decide : 2 + 0 ≤ _), (by decide : 36 + 0 ≤ _)⟩)
    dsimp only [Pt.U, Pt.locs, Pt.cells, Pt.slots] at X57 l57 y57 z57 st57 hQ57
    rw [l57, (show k57 = 2 from y57), (show n57 = 36 from z57)] at X57
    obtain ⟨h57, e57⟩ : ∃ z, T57.heap = z := ⟨_, rfl⟩
    rw [e57] at hQ57
    obtain ⟨hq57, N57q, q57⟩ := hQ57
    rw [q57] at e57
    rw [hq57] at st57
    have N57 := Fr.app N0 N57q
    refine own_fwd st57 ?_
    show own_R p.tables e below P (T57.setTop (mkF m 74 #[.val (.int p0), .val (.int (3 : Int32)), .val (.ref st), .val (.ref a56), .unset] [(.ref wd)]))
    refine own_fwd (fun tt kt => XS.astore X57.here hx rfl (hb hby at_74) rfl rfl (l' := #[.val (.int p0), .val (.int (3 : Int32)), .val (.ref st), .val (.ref a56), .val (.ref wd)]) rfl kt) ?_
    show own_R p.tables e below P (T57.setTop (mkF m 76 #[.val (.int p0), .val (.int (3 : Int32)), .val (.ref st), .val (.ref a56), .val (.ref wd)] []))
    refine own_fwd (fun tt kt => XS.aloadN X57.here hx rfl (hb hby at_76) rfl rfl kt) ?_
    show own_R p.tables e below P (T57.setTop (mkF m 77 #[.val (.int p0), .val (.int (3 : Int32)), .val (.ref st), .val (.ref a56), .val (.ref wd)] [(.ref a56)]))
    refine own_fwd (fun tt kt => XS.ifnonnullYes X57.here hx rfl (pc0 := 77) (pc' := 91) rfl (hb hby at_77) rfl (by decide) (by decide) kt) ?_
    show own_R p.tables e below P (T57.setTop (mkF m 91 #[.val (.int p0), .val (.int (3 : Int32)), .val (.ref st), .val (.ref a56), .val (.ref wd)] []))
    refine own_fwd (fun tt kt => XS.aload X57.here hx rfl (hb hby at_91) rfl rfl kt) ?_
    show own_R p.tables e below P (T57.setTop (mkF m 93 #[.val (.int p0), .val (.int (3 : Int32)), .val (.ref st), .val (.ref a56), .val (.ref wd)] [(.ref wd)]))
    refine own_fwd (fun tt kt => XS.ifnullNo X57.here hx rfl (hb hby at_93) rfl kt) ?_
    show own_R p.tables e below P (T57.setTop (mkF m 96 #[.val (.int p0), .val (.int (3 : Int32)), .val (.ref st), .val (.ref a56), .val (.ref wd)] []))
    refine own_fwd (fun tt kt => XS.aload X57.here hx rfl (hb hby at_96) rfl rfl kt) ?_
    show own_R p.tables e below P (T57.setTop (mkF m 98 #[.val (.int p0), .val (.int (3 : Int32)), .val (.ref st), .val (.ref a56), .val (.ref wd)] [(.ref wd)]))
    refine own_fwd (fun tt kt => XS.aloadN X57.here hx rfl (hb hby at_98) rfl rfl kt) ?_
    show own_R p.tables e below P (T57.setTop (mkF m 99 #[.val (.int p0), .val (.int (3 : Int32)), .val (.ref st), .val (.ref a56), .val (.ref wd)] [(.ref a56), (.ref wd)]))
    obtain ⟨cq58, kq58, q58a, q58b, q58c⟩ := isOf hZ e57 s4_x56
    obtain ⟨_, _, ⟨T58, L58, k58, n58⟩, -, X58, ⟨Lc58, hQ58, l58, y58, z58⟩, st58⟩ := X57.virtualBack hx (y := (⟨"java/lang/String", "equals", "(Ljava/lang/Object;)Z"⟩ : MethodName)) (z := (⟨"java/lang/String", "equals", "(Ljava/lang/Object;)Z"⟩ : MethodName)) hown (mvT hZ (hw _ (List.mem_of_getElem? (i := 22) rfl))) (mvT hZ (hw _ (List.mem_of_getElem? (i := 23) rfl))) (notFace_of_selects (args := #[]) (mvT hZ (hw _ (List.mem_of_getElem? (i := 25) rfl)))) (mvT hZ (hw _ (List.mem_of_getElem? (i := 25) rfl))) (mvT hZ (hw _ (List.mem_of_getElem? (i := 24) rfl))) (by decide) (backOf (W := 0) (own_rm3 l Z a0 hw [] wd a56 va b56 8 (fun i => ([(111 : Int32), (118 : Int32), (101 : Int32), (114 : Int32), (112 : Int32), (97 : Int32), (105 : Int32), (100 : Int32)] : List Int32).getD i 0) cc h56 n0 Z56 s5_x56 s6_x56 Ea56 Fc56 Fv56 s7_x56 Ab56 pS_x56 hcc) hZ (hw _ (List.mem_of_getElem? (i := 26) rfl)) (hw _ (List.mem_of_getElem? (i := 5) rfl)) (by decide) (by decide)) q58a q58c (g := (mkF m 99 #[.val (.int p0), .val (.int (3 : Int32)), .val (.ref st), .val (.ref a56), .val (.ref wd)] [(.ref a56), (.ref wd)])) rfl (by rw [hml]; rfl) (Steps.refl _) (argsL := [(.ref a56)]) (rest := []) (lenOf own_pd3 rfl) rfl (by show 2 * 0 + _ ≤ _; exact Nat.le_of_eq rfl) (hb hby at_99) (fun _ _ => ⟨rfl, e57, (by decide : 2 + 0 ≤ _), (by decide : 36 + 0 ≤ _)⟩)
    dsimp only [Pt.U, Pt.locs, Pt.cells, Pt.slots] at X58 l58 y58 z58 st58 hQ58
    rw [l58, (show k58 = 2 from y58), (show n58 = 36 from z58)] at X58
    obtain ⟨h58, e58⟩ : ∃ z, T58.heap = z := ⟨_, rfl⟩
    rw [e58] at hQ58
    obtain ⟨hq58, N58q, q58⟩ := hQ58
    rw [q58] at e58
    rw [hq58] at st58
    have N58 := Fr.app N57 N58q
    refine own_trn st58 ?_
    show own_R p.tables e below P (T58.setTop (mkF m 102 #[.val (.int p0), .val (.int (3 : Int32)), .val (.ref st), .val (.ref a56), .val (.ref wd)] [(.int (1 : Int32))]))
    have hc59 : ¬ ((1 : Int32) = (0 : Int32)) := (by decide)
    refine own_fwd (fun tt kt => XS.ifNo X58.here hx rfl (hb hby at_102) rfl ((if0 _ _).trans (feq hc59).1) kt) ?_
    show own_R p.tables e below P (T58.setTop (mkF m 105 #[.val (.int p0), .val (.int (3 : Int32)), .val (.ref st), .val (.ref a56), .val (.ref wd)] []))
    refine own_fwd (fun tt kt => XS.iconst X58.here hx rfl (hb hby at_105) kt) ?_
    show own_R p.tables e below P (T58.setTop (mkF m 106 #[.val (.int p0), .val (.int (3 : Int32)), .val (.ref st), .val (.ref a56), .val (.ref wd)] [(.int (1 : Int32))]))
    refine own_fwd (fun tt kt => XS.goto X58.here hx rfl (pc0 := 106) (pc' := 110) rfl (hb hby at_106) (by decide) (by decide) kt) ?_
    show own_R p.tables e below P (T58.setTop (mkF m 110 #[.val (.int p0), .val (.int (3 : Int32)), .val (.ref st), .val (.ref a56), .val (.ref wd)] [(.int (1 : Int32))]))
    rw [← hs2] at X58
    obtain ⟨fs60, hr60, hrun60, hended60, hRW60⟩ := X58.leaveW hS2 (by rw [e58]; exact hk2) (v := some (.int (1 : Int32))) (fun h => by rw [Bd.returns] at h; cases h)
    refine ⟨_, _, X58.ireturnOut hx (w := (1 : Int32)) Bd.returns rfl (by simp) (hb hby at_110) hr60, fin _ _ ⟨hrun60, hended60, _, _, rfl, ?_, hRW60.1, hRW60.2.1, hRW60.2.2.1, hRW60.2.2.2.mono (by decide) (by decide)⟩⟩
    exact ⟨rfl, N58⟩
  · rw [hsel]
    show own_R p.tables e below P (s₁.setTop (mkF m 6 #[.val (.int p0), .unset, .unset, .unset, .unset] [(.int (4 : Int32))]))
    refine own_fwd (fun tt kt => XS.istoreN X0.here hx rfl (hb hby at_6) rfl (l' := #[.val (.int p0), .val (.int (4 : Int32)), .unset, .unset, .unset]) rfl kt) ?_
    show own_R p.tables e below P (s₁.setTop (mkF m 7 #[.val (.int p0), .val (.int (4 : Int32)), .unset, .unset, .unset] []))
    refine own_fwd (fun tt kt => XS.iloadN X0.here hx rfl (hb hby at_7) rfl kt) ?_
    show own_R p.tables e below P (s₁.setTop (mkF m 8 #[.val (.int p0), .val (.int (4 : Int32)), .unset, .unset, .unset] [(.int (4 : Int32))]))
    have hc61 : ¬ ((4 : Int32) = (0 : Int32)) := (by decide)
    refine own_fwd (fun tt kt => XS.ifYes X0.here hx rfl (pc0 := 8) (pc' := 21) rfl (hb hby at_8) rfl ((if0 _ _).trans (feq hc61).2) (by decide) (by decide) kt) ?_
    show own_R p.tables e below P (s₁.setTop (mkF m 21 #[.val (.int p0), .val (.int (4 : Int32)), .unset, .unset, .unset] []))
    refine own_fwd (fun tt kt => XS.iloadN X0.here hx rfl (hb hby at_21) rfl kt) ?_
    show own_R p.tables e below P (s₁.setTop (mkF m 22 #[.val (.int p0), .val (.int (4 : Int32)), .unset, .unset, .unset] [(.int (4 : Int32))]))
    refine own_fwd (fun tt kt => XS.iconst X0.here hx rfl (hb hby at_22) kt) ?_
    show own_R p.tables e below P (s₁.setTop (mkF m 23 #[.val (.int p0), .val (.int (4 : Int32)), .unset, .unset, .unset] [(.int (1 : Int32)), (.int (4 : Int32))]))
    have hc62 : ¬ ((4 : Int32) = (1 : Int32)) := (by decide)
    refine own_fwd (fun tt kt => XS.icmpYes X0.here hx rfl (pc0 := 23) (pc' := 36) rfl (hb hby at_23) rfl (feq hc62).2 (by decide) (by decide) kt) ?_
    show own_R p.tables e below P (s₁.setTop (mkF m 36 #[.val (.int p0), .val (.int (4 : Int32)), .unset, .unset, .unset] []))
    refine own_fwd (fun tt kt => XS.iloadN X0.here hx rfl (hb hby at_36) rfl kt) ?_
    show own_R p.tables e below P (s₁.setTop (mkF m 37 #[.val (.int p0), .val (.int (4 : Int32)), .unset, .unset, .unset] [(.int (4 : Int32))]))
    refine own_fwd (fun tt kt => XS.iconst X0.here hx rfl (hb hby at_37) kt) ?_
    show own_R p.tables e below P (s₁.setTop (mkF m 38 #[.val (.int p0), .val (.int (4 : Int32)), .unset, .unset, .unset] [(.int (2 : Int32)), (.int (4 : Int32))]))
    have hc63 : ¬ ((4 : Int32) = (2 : Int32)) := (by decide)
    refine own_fwd (fun tt kt => XS.icmpYes X0.here hx rfl (pc0 := 38) (pc' := 51) rfl (hb hby at_38) rfl (feq hc63).2 (by decide) (by decide) kt) ?_
    show own_R p.tables e below P (s₁.setTop (mkF m 51 #[.val (.int p0), .val (.int (4 : Int32)), .unset, .unset, .unset] []))
    refine own_fwd (fun tt kt => XS.iloadN X0.here hx rfl (hb hby at_51) rfl kt) ?_
    show own_R p.tables e below P (s₁.setTop (mkF m 52 #[.val (.int p0), .val (.int (4 : Int32)), .unset, .unset, .unset] [(.int (4 : Int32))]))
    refine own_fwd (fun tt kt => XS.iconst X0.here hx rfl (hb hby at_52) kt) ?_
    show own_R p.tables e below P (s₁.setTop (mkF m 53 #[.val (.int p0), .val (.int (4 : Int32)), .unset, .unset, .unset] [(.int (3 : Int32)), (.int (4 : Int32))]))
    have hc64 : ¬ ((4 : Int32) = (3 : Int32)) := (by decide)
    refine own_fwd (fun tt kt => XS.icmpYes X0.here hx rfl (pc0 := 53) (pc' := 66) rfl (hb hby at_53) rfl (feq hc64).2 (by decide) (by decide) kt) ?_
    show own_R p.tables e below P (s₁.setTop (mkF m 66 #[.val (.int p0), .val (.int (4 : Int32)), .unset, .unset, .unset] []))
    refine own_fwd (fun tt kt => XS.aconstNull X0.here hx rfl (hb hby at_66) kt) ?_
    show own_R p.tables e below P (s₁.setTop (mkF m 67 #[.val (.int p0), .val (.int (4 : Int32)), .unset, .unset, .unset] [.null]))
    refine own_fwd (fun tt kt => XS.astoreN X0.here hx rfl (hb hby at_67) rfl rfl (l' := #[.val (.int p0), .val (.int (4 : Int32)), .val .null, .unset, .unset]) rfl kt) ?_
    show own_R p.tables e below P (s₁.setTop (mkF m 68 #[.val (.int p0), .val (.int (4 : Int32)), .val .null, .unset, .unset] []))
    refine own_fwd (fun tt kt => XS.aconstNull X0.here hx rfl (hb hby at_68) kt) ?_
    show own_R p.tables e below P (s₁.setTop (mkF m 69 #[.val (.int p0), .val (.int (4 : Int32)), .val .null, .unset, .unset] [.null]))
    refine own_fwd (fun tt kt => XS.astoreN X0.here hx rfl (hb hby at_69) rfl rfl (l' := #[.val (.int p0), .val (.int (4 : Int32)), .val .null, .val .null, .unset]) rfl kt) ?_
    show own_R p.tables e below P (s₁.setTop (mkF m 70 #[.val (.int p0), .val (.int (4 : Int32)), .val .null, .val .null, .unset] []))
    refine own_fwd (fun tt kt => XS.aloadN X0.here hx rfl (hb hby at_70) rfl rfl kt) ?_
    show own_R p.tables e below P (s₁.setTop (mkF m 71 #[.val (.int p0), .val (.int (4 : Int32)), .val .null, .val .null, .unset] [.null]))
    obtain ⟨_, _, ⟨T65, L65, k65, n65⟩, -, X65, ⟨Lc65, hQ65, l65, y65, z65⟩, st65⟩ := Jvm.LawKit.callS X0 hx (y := (⟨"com/example/erpctl/erpctl/core/model/PaymentStatus", "wordOf", "(Lcom/example/erpctl/erpctl/core/model/PaymentStatus;)Ljava/lang/String;"⟩ : MethodName)) hown (mvT hZ (hw _ (List.mem_of_getElem? (i := 12) rfl))) (mvT hZ (hw _ (List.mem_of_getElem? (i := 13) rfl))) (mvT hZ (hw _ (List.mem_of_getElem? (i := 2) rfl))) (mvT hZ (hw _ (List.mem_of_getElem? (i := 14) rfl))) (by decide) (backOf (W := 0) (own_rmwnull l Z a0 hw []  h0 n0 Z0 ) hZ (hw _ (List.mem_of_getElem? (i := 14) rfl)) (hw _ (List.mem_of_getElem? (i := 2) rfl)) (by decide) (by decide)) (g := (mkF m 71 #[.val (.int p0), .val (.int (4 : Int32)), .val .null, .val .null, .unset] [.null])) rfl (by rw [hml]; rfl) (argsL := [.null]) (rest := []) (lenOf own_pd2 rfl) rfl (by show 2 * 0 + _ ≤ _; exact Nat.le_of_eq rfl) (hb hby at_71) (fun _ _ => ⟨rfl, e0, (by decide : 0 + 0 ≤ _), (by decide : 0 + 0 ≤ _)⟩)
    dsimp only [Pt.U, Pt.locs, Pt.cells, Pt.slots] at X65 l65 y65 z65 st65 hQ65
    rw [l65, (show k65 = 0 from y65), (show n65 = 0 from z65)] at X65
    obtain ⟨h65, e65⟩ : ∃ z, T65.heap = z := ⟨_, rfl⟩
    rw [e65] at hQ65
    obtain ⟨hq65, N65q, q65⟩ := hQ65
    rw [q65] at e65
    rw [hq65] at st65
    have N65 := Fr.app N0 N65q
    refine own_fwd st65 ?_
    show own_R p.tables e below P (T65.setTop (mkF m 74 #[.val (.int p0), .val (.int (4 : Int32)), .val .null, .val .null, .unset] [.null]))
    refine own_fwd (fun tt kt => XS.astore X65.here hx rfl (hb hby at_74) rfl rfl (l' := #[.val (.int p0), .val (.int (4 : Int32)), .val .null, .val .null, .val .null]) rfl kt) ?_
    show own_R p.tables e below P (T65.setTop (mkF m 76 #[.val (.int p0), .val (.int (4 : Int32)), .val .null, .val .null, .val .null] []))
    refine own_fwd (fun tt kt => XS.aloadN X65.here hx rfl (hb hby at_76) rfl rfl kt) ?_
    show own_R p.tables e below P (T65.setTop (mkF m 77 #[.val (.int p0), .val (.int (4 : Int32)), .val .null, .val .null, .val .null] [.null]))
    refine own_fwd (fun tt kt => XS.ifnonnullNo X65.here hx rfl (hb hby at_77) rfl kt) ?_
    show own_R p.tables e below P (T65.setTop (mkF m 80 #[.val (.int p0), .val (.int (4 : Int32)), .val .null, .val .null, .val .null] []))
    refine own_fwd (fun tt kt => XS.aload X65.here hx rfl (hb hby at_80) rfl rfl kt) ?_
    show own_R p.tables e below P (T65.setTop (mkF m 82 #[.val (.int p0), .val (.int (4 : Int32)), .val .null, .val .null, .val .null] [.null]))
    refine own_fwd (fun tt kt => XS.ifnonnullNo X65.here hx rfl (hb hby at_82) rfl kt) ?_
    show own_R p.tables e below P (T65.setTop (mkF m 85 #[.val (.int p0), .val (.int (4 : Int32)), .val .null, .val .null, .val .null] []))
    refine own_fwd (fun tt kt => XS.iconst X65.here hx rfl (hb hby at_85) kt) ?_
    show own_R p.tables e below P (T65.setTop (mkF m 86 #[.val (.int p0), .val (.int (4 : Int32)), .val .null, .val .null, .val .null] [(.int (1 : Int32))]))
    refine own_fwd (fun tt kt => XS.goto X65.here hx rfl (pc0 := 86) (pc' := 90) rfl (hb hby at_86) (by decide) (by decide) kt) ?_
    show own_R p.tables e below P (T65.setTop (mkF m 90 #[.val (.int p0), .val (.int (4 : Int32)), .val .null, .val .null, .val .null] [(.int (1 : Int32))]))
    obtain ⟨fs66, hr66, hrun66, hended66, hW66, hsame66⟩ := X65.leave (v := some (.int (1 : Int32))) (fun h => by rw [Bd.returns] at h; cases h)
    refine ⟨_, _, X65.ireturnOut hx (w := (1 : Int32)) Bd.returns rfl (by simp) (hb hby at_90) hr66, fin _ _ ⟨hrun66, hended66, _, _, rfl, ?_, ⟨_, rfl⟩, hW66.wide, hW66.no_new_pair _, hsame66.mono (by decide) (by decide)⟩⟩
    exact ⟨rfl, N65⟩
set_option maxRecDepth 65536 in
set_option maxHeartbeats 40000000 in
theorem own_comes {Post : Tables → Env → Array Value → State → Outcome → State → Prop} (hpost : ∀ tb e args s v u, (limb_1_1.after args s (.returned v) u = true ∧ limb_1_2.after args s (.returned v) u = true ∧ True) → ReturnedEndW s (.returned v) u (Jvm.fieldLocs frame_1_writes args s ++ Jvm.arrayLocs frame_1_arrays args s ++ Jvm.staticLocs frame_1_statics s) 8 4160 → Post tb e args s (.returned v) u) :
    ArmFor flags0 classFile x code maxLocals ret World_1 tables_1 room_1 Calls_1 rest_1 Pre_1 Post := by
  intro l hfl _ _ p e ha hc hk s m args below hf hA hF happ hP
  obtain ⟨hcalls, hrest, hpre⟩ := hP
  obtain ⟨-, -, -, hnamed, -, -, -, hat⟩ := (Spec.applies_iff hf).mp happ
  obtain ⟨hg, hn⟩ := and_e (Cond.before_iff.mp (show (Jvm.Cond.and given_1 narrow_1).before args s = true from hpre))
  obtain ⟨g1, g2⟩ := and_e hg
  obtain ⟨w0, rfl⟩ : ∃ w0 : Value, args = #[w0] := by
    have hs : args.size = 1 := by simpa [Cond.value, given_1] using g1
    obtain ⟨L⟩ := args
    match L, hs with
    | [w0], _ => exact ⟨w0, rfl⟩
  have hw := fun d (hd : d ∈ tables_1) => atoms_spec (ws := Jvm.Cond.code x code maxLocals ret :: tables_1) hat d (List.mem_cons_of_mem _ hd)
  obtain ⟨hsets, hown0⟩ := atoms_of _ (rest_1_c_eq ▸ (show rest_1_c.before _ s = true from hrest))
  obtain ⟨i0, ei0⟩ := is_v g2
  obtain rfl : w0 = (.int i0) := Option.some.inj ei0
  obtain ⟨c1_, c2_⟩ := and_e hn
  obtain ⟨c3_, c4_⟩ := and_e c2_
  obtain ⟨c5_, c6_⟩ := and_e c4_
  obtain ⟨c7_, c8_⟩ := and_e c6_
  obtain ⟨c9_, c10_⟩ := and_e c8_
  obtain ⟨c11_, c12_⟩ := and_e c10_
  obtain ⟨c13_, c14_⟩ := and_e c12_
  obtain ⟨c15_, c16_⟩ := and_e c14_
  obtain ⟨c17_, c18_⟩ := and_e c16_
  obtain ⟨c19_, c20_⟩ := and_e c18_
  obtain ⟨c21_, c22_⟩ := and_e c20_
  obtain ⟨c23_, c24_⟩ := and_e c22_
  obtain ⟨c25_, c26_⟩ := and_e c24_
  obtain ⟨c27_, c28_⟩ := and_e c26_
  obtain ⟨c29_, c30_⟩ := and_e c28_
  obtain ⟨c31_, c32_⟩ := and_e c30_
  obtain ⟨c33_, c34_⟩ := and_e c32_
  obtain ⟨c35_, c36_⟩ := and_e c34_
  obtain ⟨c37_, c38_⟩ := and_e c36_
  obtain ⟨c39_, c40_⟩ := and_e c38_
  obtain ⟨c41_, c42_⟩ := and_e c40_
  obtain ⟨c43_, c44_⟩ := and_e c42_
  obtain ⟨c45_, c46_⟩ := and_e c44_
  obtain ⟨c47_, c48_⟩ := and_e c46_
  obtain ⟨c49_, c50_⟩ := and_e c48_
  obtain ⟨c51_, c52_⟩ := and_e c50_
  obtain ⟨c53_, c54_⟩ := and_e c52_
  obtain ⟨c55_, c56_⟩ := and_e c54_
  obtain ⟨c57_, c58_⟩ := and_e c56_
  obtain ⟨c59_, c60_⟩ := and_e c58_
  obtain ⟨c61_, c62_⟩ := and_e c60_
  obtain ⟨c63_, c64_⟩ := and_e c62_
  obtain ⟨c65_, c66_⟩ := and_e c64_
  obtain ⟨c67_, c68_⟩ := and_e c66_
  obtain ⟨c69_, c70_⟩ := and_e c68_
  obtain ⟨c71_, c72_⟩ := and_e c70_
  obtain ⟨c73_, c74_⟩ := and_e c72_
  obtain ⟨c75_, c76_⟩ := and_e c74_
  obtain ⟨c77_, c78_⟩ := and_e c76_
  obtain ⟨c79_, c80_⟩ := and_e c78_
  obtain ⟨c81_, c82_⟩ := and_e c80_
  obtain ⟨c83_, c84_⟩ := and_e c82_
  obtain ⟨c85_, c86_⟩ := and_e c84_
  obtain ⟨c87_, c88_⟩ := and_e c86_
  obtain ⟨c89_, c90_⟩ := and_e c88_
  obtain ⟨c91_, c92_⟩ := and_e c90_
  obtain ⟨c93_, c94_⟩ := and_e c92_
  obtain ⟨c95_, c96_⟩ := and_e c94_
  obtain ⟨c97_, c98_⟩ := and_e c96_
  obtain ⟨c99_, c100_⟩ := and_e c98_
  have q1 := Cond.before_iff.mp (hsets _ (List.mem_of_getElem? (i := 1) rfl))
  obtain ⟨cc, ecc⟩ := is_v q1
  have pS := Sta.start ecc (Or.inl (hsets _ (List.mem_of_getElem? (i := 0) rfl)))
  have hcc : ¬ cc = 0 := gotF (Cond.eq_ints ecc (Term.int_eval 0)) (not_v (Cond.before_iff.mp (hsets _ (List.mem_of_getElem? (i := 2) rfl))))
  have S0 : own_St s s.heap "NOT_PAID" 8 (fun i => ([(110 : Int32), (111 : Int32), (116 : Int32), (45 : Int32), (112 : Int32), (97 : Int32), (105 : Int32), (100 : Int32)] : List Int32).getD i 0) := own_st0 (hw _ (List.mem_of_getElem? (i := 3) rfl)) (hw _ (List.mem_of_getElem? (i := 2) rfl)) c1_ c3_ c5_ c7_ c9_ (by decide) (fun i hi => by
    rcases (by omega : i = 0 ∨ i = 1 ∨ i = 2 ∨ i = 3 ∨ i = 4 ∨ i = 5 ∨ i = 6 ∨ i = 7) with rfl | rfl | rfl | rfl | rfl | rfl | rfl | rfl
    · exact c49_
    · exact c51_
    · exact c53_
    · exact c55_
    · exact c57_
    · exact c59_
    · exact c61_
    · exact c63_)
  have S1 : own_St s s.heap "PARTLY_PAID" 11 (fun i => ([(112 : Int32), (97 : Int32), (114 : Int32), (116 : Int32), (108 : Int32), (121 : Int32), (45 : Int32), (112 : Int32), (97 : Int32), (105 : Int32), (100 : Int32)] : List Int32).getD i 0) := own_st0 (hw _ (List.mem_of_getElem? (i := 40) rfl)) (hw _ (List.mem_of_getElem? (i := 2) rfl)) c21_ c23_ c25_ c27_ c29_ (by decide) (fun i hi => by
    rcases (by omega : i = 0 ∨ i = 1 ∨ i = 2 ∨ i = 3 ∨ i = 4 ∨ i = 5 ∨ i = 6 ∨ i = 7 ∨ i = 8 ∨ i = 9 ∨ i = 10) with rfl | rfl | rfl | rfl | rfl | rfl | rfl | rfl | rfl | rfl | rfl
    · exact c81_
    · exact c83_
    · exact c85_
    · exact c87_
    · exact c89_
    · exact c91_
    · exact c93_
    · exact c95_
    · exact c97_
    · exact c99_
    · exact c100_)
  have S2 : own_St s s.heap "PAID" 4 (fun i => ([(112 : Int32), (97 : Int32), (105 : Int32), (100 : Int32)] : List Int32).getD i 0) := own_st0 (hw _ (List.mem_of_getElem? (i := 43) rfl)) (hw _ (List.mem_of_getElem? (i := 2) rfl)) c31_ c33_ c35_ c37_ c39_ (by decide) (fun i hi => by
    rcases (by omega : i = 0 ∨ i = 1 ∨ i = 2 ∨ i = 3) with rfl | rfl | rfl | rfl
    · exact c41_
    · exact c43_
    · exact c45_
    · exact c47_)
  have S3 : own_St s s.heap "OVERPAID" 8 (fun i => ([(111 : Int32), (118 : Int32), (101 : Int32), (114 : Int32), (112 : Int32), (97 : Int32), (105 : Int32), (100 : Int32)] : List Int32).getD i 0) := own_st0 (hw _ (List.mem_of_getElem? (i := 37) rfl)) (hw _ (List.mem_of_getElem? (i := 2) rfl)) c11_ c13_ c15_ c17_ c19_ (by decide) (fun i hi => by
    rcases (by omega : i = 0 ∨ i = 1 ∨ i = 2 ∨ i = 3 ∨ i = 4 ∨ i = 5 ∨ i = 6 ∨ i = 7) with rfl | rfl | rfl | rfl | rfl | rfl | rfl | rfl
    · exact c65_
    · exact c67_
    · exact c69_
    · exact c71_
    · exact c73_
    · exact c75_
    · exact c77_
    · exact c79_)
  obtain ⟨n, o, h1, h2, h3, _, L, rfl, ⟨rfl, N⟩, hq⟩ := own_rmlaw l s _ hw tables_1 i0 cc s.heap s.heap.size (Nat.le_refl _) hcc pS (hsets _ (List.mem_of_getElem? (i := 2) rfl)) S0 S1 S2 S3 (hcalls.1 _ (List.mem_of_getElem? (i := 0) rfl)) (hcalls.1 _ (List.mem_of_getElem? (i := 1) rfl)) (hcalls.1 _ (List.mem_of_getElem? (i := 2) rfl)) (hcalls.1 _ (List.mem_of_getElem? (i := 3) rfl)) p e ha hc hk s m _ below hf ((Spec.applies_iff_loose hf).mp happ).1 ⟨rfl, State.Warmed39.refl s, rfl, rfl, rfl⟩ trivial
  refine ⟨n, _, h1, h2, h3, hpost _ _ _ _ _ _ ⟨Cond.after_iff.mpr rfl, Cond.after_iff.mpr (eq_i res_at (Term.int_eval (1)) rfl), trivial⟩ ⟨hq.1, hq.2.1, hq.2.2.1, (hq.2.2.2.sift fun y hy => Or.inr (N y hy)).mono (by decide) (by decide)⟩⟩
theorem main_1_1 : Claimed_1_1 := own_comes fun _ _ _ _ _ _ h hF => ⟨h.1, hF⟩
theorem main_1_2 : Claimed_1_2 := own_comes fun _ _ _ _ _ _ h hF => ⟨h.2.1, hF⟩
end Jvm.Pilot.@@N@@
namespace Jvm.Pilot.@@N@@
open Jvm Jvm.ClassFile Sem Op Lib Jvm.Free Jvm.Stand Jvm.Pilot.@@N@@.Jvm.D
/-! MADE BY PROGRAM (witnessworld.py) out of the Statement's table words and the real class files: 18 classes; the members and pool entries that the words name. The judged class is class 1, her method 1. -/
namespace start1
open Jvm.ClassFile
def u (s : String) : CpInfo := .utf8 (stringToUtf16 s)
/-- a pool by its gaps: so many unusable entries, then the entry; so many at the end -/
def gap : Nat → List CpInfo → List CpInfo
  | 0, r => r
  | n + 1, r => .unusable :: gap n r
def poolList (es : List (Nat × CpInfo)) (last : Nat) : List CpInfo := es.foldr (fun e r => gap e.1 (e.2 :: r)) (gap last [])
def pool (es : List (Nat × CpInfo)) (last : Nat) : Array CpInfo := ⟨poolList es last⟩
def fileOf (pool : Array CpInfo) (this : Nat) (attrs : Array Attribute := #[]) (ms : Array MethodInfo := #[]) (fl : Nat := 33) (sup : Nat := 0) (ifs : Array Nat := #[]) (fds : Array FieldInfo := #[]) : ClassFile where
  minorVersion := 0
  majorVersion := 65
  constantPool := pool
  accessFlags := fl
  thisClass := this
  superClass := sup
  interfaces := ifs
  fields := fds
  methods := ms
  attributes := attrs
def plain (name : String) (sup : Option ClassId) : Class where
  name := name
  kind := .ordinary
  loader := none
  accessFlags := 33
  super := sup
  interfaces := #[]
  cf := none
  fields := #[]
  methods := #[]
  instanceTypes := #[]
  staticTypes := #[]
  resolved := #[]
  callSites := []
  init := .initialized
  statics := none
  mirror := none

def pool0 : Array CpInfo := pool [(5, u "<init>"), (0, u "()V"), (1, .class_ 10), (1, u "java/lang/Object")] 113

def k0m0 : Method := { name := "<init>", desc := "()V", sig := { parameters := [], returnType := none }, accessFlags := 1, code := none }
/-- java/lang/Object -/
def k0 : Class := { plain "java/lang/Object" none with
  accessFlags := 33
  interfaces := #[]
  cf := some (fileOf pool0 8 #[] #[{ accessFlags := 1, nameIndex := 5, descriptorIndex := 6, attributes := #[] }] 33 0 #[] #[])
  fields := #[]
  methods := #[k0m0]
  instanceTypes := #[]
  staticTypes := #[]
  resolved := Array.replicate 124 none
  statics := none }

def pool1 : Array CpInfo := pool [(2, .class_ 4), (1, u "java/lang/Object"), (0, u "<init>"), (0, u "()V"), (0, .integer 2147483647), (0, .fieldref 9 10), (0, .class_ 11), (0, .nameAndType 12 13), (0, u "com/example/erpctl/erpctl/core/model/PaymentStatus"), (0, u "NOT_PAID"), (0, u "Lcom/example/erpctl/erpctl/core/model/PaymentStatus;"), (0, .string 15), (0, u "not-paid"), (0, .fieldref 9 17), (0, .nameAndType 18 13), (0, u "PARTLY_PAID"), (0, .string 20), (0, u "partly-paid"), (0, .fieldref 9 22), (0, .nameAndType 23 13), (0, u "PAID"), (0, .string 25), (0, u "paid"), (0, .fieldref 9 27), (0, .nameAndType 28 13), (0, u "OVERPAID"), (0, .string 30), (0, u "overpaid"), (0, .methodref 9 32), (0, .nameAndType 33 34), (0, u "wordOf"), (0, u "(Lcom/example/erpctl/erpctl/core/model/PaymentStatus;)Ljava/lang/String;"), (0, .methodref 36 37), (0, .class_ 38), (0, .nameAndType 39 40), (0, u "java/lang/String"), (0, u "equals"), (0, u "(Ljava/lang/Object;)Z"), (0, .class_ 42), (0, u "com/example/erpctl/erpctl/core/model/PaymentStatusWordOfPinLaw"), (2, u "law"), (0, u "(I)Z")] 3

def k1m0 : Method := { name := "<init>", desc := "()V", sig := { parameters := [], returnType := none }, accessFlags := 2, code := none }
def k1c1 : Code := { maxStack := 2, maxLocals := 5, code := code, exceptionTable := #[], attributes := #[] }
def k1m1 : Method := { name := "law", desc := "(I)Z", sig := { parameters := [.int], returnType := some .boolean }, accessFlags := 9, code := some k1c1 }
/-- com/example/erpctl/erpctl/core/model/PaymentStatusWordOfPinLaw -/
def k1 : Class := { plain "com/example/erpctl/erpctl/core/model/PaymentStatusWordOfPinLaw" (some 0) with
  accessFlags := 49
  interfaces := #[]
  cf := some (fileOf pool1 41 #[] #[{ accessFlags := 2, nameIndex := 5, descriptorIndex := 6, attributes := #[] }, { accessFlags := 9, nameIndex := 45, descriptorIndex := 46, attributes := #[] }] 49 2 #[] #[])
  fields := #[]
  methods := #[k1m0, k1m1]
  instanceTypes := #[]
  staticTypes := #[]
  resolved := Array.replicate 50 none
  statics := none }

def pool2 : Array CpInfo := pool [(1, .class_ 2), (0, u "java/lang/constant/Constable"), (0, .class_ 4), (0, u "java/lang/Object")] 6

/-- java/lang/constant/Constable -/
def k2 : Class := { plain "java/lang/constant/Constable" (some 0) with
  accessFlags := 1537
  interfaces := #[]
  cf := some (fileOf pool2 1 #[] #[] 1537 3 #[] #[])
  fields := #[]
  methods := #[]
  instanceTypes := #[]
  staticTypes := #[]
  resolved := Array.replicate 11 none
  statics := none }

def pool3 : Array CpInfo := pool [(1, .class_ 2), (0, u "java/lang/Comparable"), (0, .class_ 4), (0, u "java/lang/Object")] 7

/-- java/lang/Comparable -/
def k3 : Class := { plain "java/lang/Comparable" (some 0) with
  accessFlags := 1537
  interfaces := #[]
  cf := some (fileOf pool3 1 #[] #[] 1537 3 #[] #[])
  fields := #[]
  methods := #[]
  instanceTypes := #[]
  staticTypes := #[]
  resolved := Array.replicate 12 none
  statics := none }

def pool4 : Array CpInfo := pool [(1, .class_ 2), (0, u "java/io/Serializable"), (0, .class_ 4), (0, u "java/lang/Object")] 2

/-- java/io/Serializable -/
def k4 : Class := { plain "java/io/Serializable" (some 0) with
  accessFlags := 1537
  interfaces := #[]
  cf := some (fileOf pool4 1 #[] #[] 1537 3 #[] #[])
  fields := #[]
  methods := #[]
  instanceTypes := #[]
  staticTypes := #[]
  resolved := Array.replicate 7 none
  statics := none }

def pool5 : Array CpInfo := pool [(2, .class_ 4), (1, u "java/lang/Enum"), (0, u "name"), (0, u "Ljava/lang/String;"), (2, u "ordinal"), (0, u "I"), (1, .class_ 14), (1, u "java/lang/Object"), (4, u "hash"), (86, .class_ 108), (1, u "java/lang/Enum$EnumDesc"), (2, .class_ 112), (0, u "java/lang/constant/Constable"), (0, .class_ 114), (0, u "java/lang/Comparable"), (0, .class_ 116), (0, u "java/io/Serializable")] 87

/-- java/lang/Enum -/
def k5 : Class := { plain "java/lang/Enum" (some 0) with
  accessFlags := 1057
  interfaces := #[2, 3, 4]
  cf := some (fileOf pool5 2 #[.nestMembers #[106]] #[] 1057 12 #[111, 113, 115] #[{ accessFlags := 18, nameIndex := 5, descriptorIndex := 6, attributes := #[] }, { accessFlags := 18, nameIndex := 9, descriptorIndex := 10, attributes := #[] }, { accessFlags := 2, nameIndex := 19, descriptorIndex := 10, attributes := #[] }])
  fields := #[{ name := "name", type := (.object "java/lang/String"), accessFlags := 18, slot := 0, constantValue := 0 }, { name := "ordinal", type := .int, accessFlags := 18, slot := 1, constantValue := 0 }, { name := "hash", type := .int, accessFlags := 2, slot := 2, constantValue := 0 }]
  methods := #[]
  instanceTypes := #[(.object "java/lang/String"), .int, .int]
  staticTypes := #[]
  resolved := Array.replicate 204 none
  statics := none }

def pool6 : Array CpInfo := pool [(1, .class_ 2), (0, u "com/example/erpctl/erpctl/core/model/PaymentStatus"), (2, u "NOT_PAID"), (0, u "Lcom/example/erpctl/erpctl/core/model/PaymentStatus;"), (2, u "PARTLY_PAID"), (2, u "PAID"), (2, u "OVERPAID"), (2, u "$VALUES"), (0, u "[Lcom/example/erpctl/erpctl/core/model/PaymentStatus;"), (6, .class_ 28), (1, u "java/lang/Enum"), (6, .fieldref 1 36), (0, .nameAndType 37 38), (0, u "word"), (0, u "Ljava/lang/String;"), (0, .methodref 1 40), (0, .nameAndType 37 41), (0, u "()Ljava/lang/String;"), (26, u "wordOf"), (0, u "(Lcom/example/erpctl/erpctl/core/model/PaymentStatus;)Ljava/lang/String;")] 8

def k6c0 : Code := { maxStack := 1, maxLocals := 1, code := prog_12_method_4_code, exceptionTable := #[], attributes := #[] }
def k6m0 : Method := { name := "word", desc := "()Ljava/lang/String;", sig := { parameters := [], returnType := some (.object "java/lang/String") }, accessFlags := 1, code := some k6c0 }
def k6c1 : Code := { maxStack := 1, maxLocals := 1, code := prog_12_method_5_code, exceptionTable := #[], attributes := #[] }
def k6m1 : Method := { name := "wordOf", desc := "(Lcom/example/erpctl/erpctl/core/model/PaymentStatus;)Ljava/lang/String;", sig := { parameters := [(.object "com/example/erpctl/erpctl/core/model/PaymentStatus")], returnType := some (.object "java/lang/String") }, accessFlags := 9, code := some k6c1 }
/-- com/example/erpctl/erpctl/core/model/PaymentStatus -/
def k6 : Class := { plain "com/example/erpctl/erpctl/core/model/PaymentStatus" (some 5) with
  accessFlags := 16433
  interfaces := #[]
  cf := some (fileOf pool6 1 #[] #[{ accessFlags := 1, nameIndex := 37, descriptorIndex := 41, attributes := #[] }, { accessFlags := 9, nameIndex := 68, descriptorIndex := 69, attributes := #[] }] 16433 26 #[] #[{ accessFlags := 16409, nameIndex := 5, descriptorIndex := 6, attributes := #[] }, { accessFlags := 16409, nameIndex := 9, descriptorIndex := 6, attributes := #[] }, { accessFlags := 16409, nameIndex := 12, descriptorIndex := 6, attributes := #[] }, { accessFlags := 16409, nameIndex := 15, descriptorIndex := 6, attributes := #[] }, { accessFlags := 18, nameIndex := 37, descriptorIndex := 38, attributes := #[] }, { accessFlags := 4122, nameIndex := 18, descriptorIndex := 19, attributes := #[] }])
  fields := #[{ name := "NOT_PAID", type := (.object "com/example/erpctl/erpctl/core/model/PaymentStatus"), accessFlags := 16409, slot := 0, constantValue := 0 }, { name := "PARTLY_PAID", type := (.object "com/example/erpctl/erpctl/core/model/PaymentStatus"), accessFlags := 16409, slot := 1, constantValue := 0 }, { name := "PAID", type := (.object "com/example/erpctl/erpctl/core/model/PaymentStatus"), accessFlags := 16409, slot := 2, constantValue := 0 }, { name := "OVERPAID", type := (.object "com/example/erpctl/erpctl/core/model/PaymentStatus"), accessFlags := 16409, slot := 3, constantValue := 0 }, { name := "word", type := (.object "java/lang/String"), accessFlags := 18, slot := 3, constantValue := 0 }, { name := "$VALUES", type := (.array (.object "com/example/erpctl/erpctl/core/model/PaymentStatus")), accessFlags := 4122, slot := 4, constantValue := 0 }]
  methods := #[k6m0, k6m1]
  instanceTypes := #[(.object "java/lang/String"), .int, .int, (.object "java/lang/String")]
  staticTypes := #[(.object "com/example/erpctl/erpctl/core/model/PaymentStatus"), (.object "com/example/erpctl/erpctl/core/model/PaymentStatus"), (.object "com/example/erpctl/erpctl/core/model/PaymentStatus"), (.object "com/example/erpctl/erpctl/core/model/PaymentStatus"), (.array (.object "com/example/erpctl/erpctl/core/model/PaymentStatus"))]
  resolved := Array.replicate 78 none
  statics := some 0 }

def pool7 : Array CpInfo := pool [(2, .class_ 4), (1, u "java/lang/CharSequence"), (42, .class_ 48), (0, u "java/lang/CharSequence$1CodePointIterator"), (10, .class_ 60), (0, u "java/lang/CharSequence$1CharIterator"), (5, .class_ 67), (0, u "java/lang/Object")] 63

/-- java/lang/CharSequence -/
def k7 : Class := { plain "java/lang/CharSequence" (some 0) with
  accessFlags := 1537
  interfaces := #[]
  cf := some (fileOf pool7 2 #[.nestMembers #[47, 59]] #[] 1537 66 #[] #[])
  fields := #[]
  methods := #[]
  instanceTypes := #[]
  staticTypes := #[]
  resolved := Array.replicate 131 none
  statics := none }

def pool8 : Array CpInfo := pool [(1, .class_ 2), (0, u "java/lang/constant/ConstantDesc"), (0, .class_ 4), (0, u "java/lang/Object")] 32

/-- java/lang/constant/ConstantDesc -/
def k8 : Class := { plain "java/lang/constant/ConstantDesc" (some 0) with
  accessFlags := 1537
  interfaces := #[]
  cf := some (fileOf pool8 1 #[] #[] 1537 3 #[] #[])
  fields := #[]
  methods := #[]
  instanceTypes := #[]
  staticTypes := #[]
  resolved := Array.replicate 37 none
  statics := none }

def pool9 : Array CpInfo := pool [(2, .class_ 4), (1, u "java/lang/Object"), (0, u "<init>"), (0, u "()V"), (2, .fieldref 10 11), (0, .class_ 12), (0, .nameAndType 13 14), (0, u "java/lang/String"), (0, u "value"), (0, u "[B"), (0, .fieldref 10 16), (0, .nameAndType 17 18), (0, u "coder"), (0, u "B"), (2, u "hash"), (0, u "I"), (2, u "hashIsZero"), (0, u "Z"), (11, .fieldref 10 39), (0, .nameAndType 40 26), (0, u "COMPACT_STRINGS"), (66, .class_ 109), (1, u "java/lang/StringLatin1"), (431, .methodref 107 542), (0, .nameAndType 543 544), (0, u "equals"), (0, u "([B[B)Z"), (28, u "(Ljava/lang/Object;)Z"), (1, .class_ 576), (0, u "java/lang/CharSequence"), (22, u "CASE_INSENSITIVE_ORDER"), (0, u "Ljava/util/Comparator;"), (500, u "serialPersistentFields"), (0, u "[Ljava/io/ObjectStreamField;"), (0, .class_ 1104), (0, u "java/lang/String$CaseInsensitiveComparator"), (1, .class_ 1107), (0, u "java/io/Serializable"), (0, .class_ 1109), (0, u "java/lang/Comparable"), (0, .class_ 1111), (0, u "java/lang/constant/Constable"), (0, .class_ 1113), (0, u "java/lang/constant/ConstantDesc"), (2, u "serialVersionUID"), (0, u "J"), (3, u "REPL"), (0, u "C"), (2, u "LATIN1"), (1, u "UTF16")] 323

def k9m0 : Method := { name := "<init>", desc := "()V", sig := { parameters := [], returnType := none }, accessFlags := 1, code := none }
def k9c1 : Code := { maxStack := 2, maxLocals := 3, code := jdk_42_method_66_code, exceptionTable := #[], attributes := #[] }
def k9m1 : Method := { name := "equals", desc := "(Ljava/lang/Object;)Z", sig := { parameters := [(.object "java/lang/Object")], returnType := some .boolean }, accessFlags := 1, code := some k9c1 }
/-- java/lang/String -/
def k9 : Class := { plain "java/lang/String" (some 0) with
  accessFlags := 49
  interfaces := #[4, 3, 7, 2, 8]
  cf := some (fileOf pool9 10 #[.nestMembers #[1103]] #[{ accessFlags := 1, nameIndex := 5, descriptorIndex := 6, attributes := #[] }, { accessFlags := 1, nameIndex := 543, descriptorIndex := 573, attributes := #[] }] 49 2 #[1106, 1108, 575, 1110, 1112] #[{ accessFlags := 18, nameIndex := 13, descriptorIndex := 14, attributes := #[] }, { accessFlags := 18, nameIndex := 17, descriptorIndex := 18, attributes := #[] }, { accessFlags := 2, nameIndex := 21, descriptorIndex := 22, attributes := #[] }, { accessFlags := 2, nameIndex := 25, descriptorIndex := 26, attributes := #[] }, { accessFlags := 26, nameIndex := 1116, descriptorIndex := 1117, attributes := #[] }, { accessFlags := 24, nameIndex := 40, descriptorIndex := 26, attributes := #[] }, { accessFlags := 26, nameIndex := 1101, descriptorIndex := 1102, attributes := #[] }, { accessFlags := 26, nameIndex := 1121, descriptorIndex := 1122, attributes := #[] }, { accessFlags := 25, nameIndex := 599, descriptorIndex := 600, attributes := #[] }, { accessFlags := 24, nameIndex := 1125, descriptorIndex := 18, attributes := #[] }, { accessFlags := 24, nameIndex := 1127, descriptorIndex := 18, attributes := #[] }])
  fields := #[{ name := "value", type := (.array .byte), accessFlags := 18, slot := 0, constantValue := 0 }, { name := "coder", type := .byte, accessFlags := 18, slot := 1, constantValue := 0 }, { name := "hash", type := .int, accessFlags := 2, slot := 2, constantValue := 0 }, { name := "hashIsZero", type := .boolean, accessFlags := 2, slot := 3, constantValue := 0 }, { name := "serialVersionUID", type := .long, accessFlags := 26, slot := 0, constantValue := 0 }, { name := "COMPACT_STRINGS", type := .boolean, accessFlags := 24, slot := 1, constantValue := 0 }, { name := "serialPersistentFields", type := (.array (.object "java/io/ObjectStreamField")), accessFlags := 26, slot := 2, constantValue := 0 }, { name := "REPL", type := .char, accessFlags := 26, slot := 3, constantValue := 0 }, { name := "CASE_INSENSITIVE_ORDER", type := (.object "java/util/Comparator"), accessFlags := 25, slot := 4, constantValue := 0 }, { name := "LATIN1", type := .byte, accessFlags := 24, slot := 5, constantValue := 0 }, { name := "UTF16", type := .byte, accessFlags := 24, slot := 6, constantValue := 0 }]
  methods := #[k9m0, k9m1]
  instanceTypes := #[(.array .byte), .byte, .int, .boolean]
  staticTypes := #[.long, .boolean, (.array (.object "java/io/ObjectStreamField")), .char, (.object "java/util/Comparator"), .byte, .byte]
  resolved := Array.replicate 1451 none
  statics := some 1 }

def pool10 : Array CpInfo := pool [(4, .class_ 6), (1, u "java/lang/Object"), (0, u "<init>"), (0, u "()V"), (5, .class_ 16), (1, u "java/lang/StringLatin1"), (104, u "$assertionsDisabled"), (0, u "Z"), (98, .class_ 223), (1, u "java/lang/StringLatin1$LinesSpliterator"), (57, u "equals"), (0, u "([B[B)Z"), (107, .class_ 391), (0, u "java/lang/StringLatin1$CharsSpliterator")] 3

def k10m0 : Method := { name := "<init>", desc := "()V", sig := { parameters := [], returnType := none }, accessFlags := 0, code := none }
def k10c1 : Code := { maxStack := 3, maxLocals := 3, code := jdk_43_method_13_code, exceptionTable := #[], attributes := #[] }
def k10m1 : Method := { name := "equals", desc := "([B[B)Z", sig := { parameters := [(.array .byte), (.array .byte)], returnType := some .boolean }, accessFlags := 9, code := some k10c1 }
/-- java/lang/StringLatin1 -/
def k10 : Class := { plain "java/lang/StringLatin1" (some 0) with
  accessFlags := 48
  interfaces := #[]
  cf := some (fileOf pool10 14 #[.nestMembers #[390, 221]] #[{ accessFlags := 0, nameIndex := 7, descriptorIndex := 8, attributes := #[] }, { accessFlags := 9, nameIndex := 281, descriptorIndex := 282, attributes := #[] }] 48 4 #[] #[{ accessFlags := 4120, nameIndex := 121, descriptorIndex := 122, attributes := #[] }])
  fields := #[{ name := "$assertionsDisabled", type := .boolean, accessFlags := 4120, slot := 0, constantValue := 0 }]
  methods := #[k10m0, k10m1]
  instanceTypes := #[]
  staticTypes := #[.boolean]
  resolved := Array.replicate 395 none
  statics := none }

def pool11 : Array CpInfo := pool [(2, .class_ 4), (1, u "java/lang/Object"), (0, u "<init>"), (0, u "()V"), (17, .class_ 26), (1, u "jdk/internal/util/Preconditions"), (28, .class_ 56), (0, u "jdk/internal/util/Preconditions$4"), (57, .class_ 115), (0, u "jdk/internal/util/Preconditions$1"), (7, u "SIOOBE_FORMATTER"), (0, u "Ljava/util/function/BiFunction;"), (0, .class_ 126), (0, u "jdk/internal/util/Preconditions$2"), (3, u "AIOOBE_FORMATTER"), (0, .class_ 132), (0, u "jdk/internal/util/Preconditions$3"), (3, u "IOOBE_FORMATTER")] 57

def k11m0 : Method := { name := "<init>", desc := "()V", sig := { parameters := [], returnType := none }, accessFlags := 1, code := none }
/-- jdk/internal/util/Preconditions -/
def k11 : Class := { plain "jdk/internal/util/Preconditions" (some 0) with
  accessFlags := 33
  interfaces := #[]
  cf := some (fileOf pool11 24 #[.nestMembers #[55, 131, 125, 114]] #[{ accessFlags := 1, nameIndex := 5, descriptorIndex := 6, attributes := #[] }] 33 2 #[] #[{ accessFlags := 25, nameIndex := 123, descriptorIndex := 124, attributes := #[] }, { accessFlags := 25, nameIndex := 130, descriptorIndex := 124, attributes := #[] }, { accessFlags := 25, nameIndex := 136, descriptorIndex := 124, attributes := #[] }])
  fields := #[{ name := "SIOOBE_FORMATTER", type := (.object "java/util/function/BiFunction"), accessFlags := 25, slot := 0, constantValue := 0 }, { name := "AIOOBE_FORMATTER", type := (.object "java/util/function/BiFunction"), accessFlags := 25, slot := 1, constantValue := 0 }, { name := "IOOBE_FORMATTER", type := (.object "java/util/function/BiFunction"), accessFlags := 25, slot := 2, constantValue := 0 }]
  methods := #[k11m0]
  instanceTypes := #[]
  staticTypes := #[(.object "java/util/function/BiFunction"), (.object "java/util/function/BiFunction"), (.object "java/util/function/BiFunction")]
  resolved := Array.replicate 194 none
  statics := some 2 }

def pool12 : Array CpInfo := pool [(9, u "<init>"), (6, .class_ 18), (1, u "java/lang/Object"), (0, u "()V"), (1, .class_ 23), (1, u "jdk/internal/util/ArraysSupport"), (0, u "LOG2_ARRAY_LONG_INDEX_SCALE"), (0, u "I"), (2, u "U"), (0, u "Ljdk/internal/misc/Unsafe;"), (8, u "BIG_ENDIAN"), (0, u "Z"), (8, u "LOG2_BYTE_BIT_SIZE"), (4, u "LOG2_ARRAY_INT_INDEX_SCALE"), (54, u "JLA"), (0, u "Ljdk/internal/access/JavaLangAccess;"), (11, u "LOG2_ARRAY_BOOLEAN_INDEX_SCALE"), (9, u "LOG2_ARRAY_BYTE_INDEX_SCALE"), (5, u "LOG2_ARRAY_CHAR_INDEX_SCALE"), (5, u "LOG2_ARRAY_SHORT_INDEX_SCALE"), (18, u "LOG2_ARRAY_FLOAT_INDEX_SCALE"), (24, u "LOG2_ARRAY_DOUBLE_INDEX_SCALE"), (89, u "T_BOOLEAN"), (2, u "T_CHAR"), (1, u "T_FLOAT"), (1, u "T_DOUBLE"), (1, u "T_BYTE"), (1, u "T_SHORT"), (1, u "T_INT"), (1, u "T_LONG"), (1, u "SOFT_MAX_ARRAY_LENGTH")] 83

def k12m0 : Method := { name := "<init>", desc := "()V", sig := { parameters := [], returnType := none }, accessFlags := 2, code := none }
/-- jdk/internal/util/ArraysSupport -/
def k12 : Class := { plain "jdk/internal/util/ArraysSupport" (some 0) with
  accessFlags := 33
  interfaces := #[]
  cf := some (fileOf pool12 21 #[] #[{ accessFlags := 2, nameIndex := 9, descriptorIndex := 19, attributes := #[] }] 33 16 #[] #[{ accessFlags := 24, nameIndex := 28, descriptorIndex := 29, attributes := #[] }, { accessFlags := 26, nameIndex := 38, descriptorIndex := 39, attributes := #[] }, { accessFlags := 25, nameIndex := 121, descriptorIndex := 25, attributes := #[] }, { accessFlags := 25, nameIndex := 131, descriptorIndex := 25, attributes := #[] }, { accessFlags := 25, nameIndex := 137, descriptorIndex := 25, attributes := #[] }, { accessFlags := 25, nameIndex := 143, descriptorIndex := 25, attributes := #[] }, { accessFlags := 25, nameIndex := 53, descriptorIndex := 25, attributes := #[] }, { accessFlags := 25, nameIndex := 24, descriptorIndex := 25, attributes := #[] }, { accessFlags := 25, nameIndex := 162, descriptorIndex := 25, attributes := #[] }, { accessFlags := 25, nameIndex := 187, descriptorIndex := 25, attributes := #[] }, { accessFlags := 26, nameIndex := 48, descriptorIndex := 25, attributes := #[] }, { accessFlags := 25, nameIndex := 277, descriptorIndex := 25, attributes := #[] }, { accessFlags := 25, nameIndex := 280, descriptorIndex := 25, attributes := #[] }, { accessFlags := 25, nameIndex := 282, descriptorIndex := 25, attributes := #[] }, { accessFlags := 25, nameIndex := 284, descriptorIndex := 25, attributes := #[] }, { accessFlags := 25, nameIndex := 286, descriptorIndex := 25, attributes := #[] }, { accessFlags := 25, nameIndex := 288, descriptorIndex := 25, attributes := #[] }, { accessFlags := 25, nameIndex := 290, descriptorIndex := 25, attributes := #[] }, { accessFlags := 25, nameIndex := 292, descriptorIndex := 25, attributes := #[] }, { accessFlags := 26, nameIndex := 108, descriptorIndex := 109, attributes := #[] }, { accessFlags := 25, nameIndex := 294, descriptorIndex := 25, attributes := #[] }])
  fields := #[{ name := "U", type := (.object "jdk/internal/misc/Unsafe"), accessFlags := 24, slot := 0, constantValue := 0 }, { name := "BIG_ENDIAN", type := .boolean, accessFlags := 26, slot := 1, constantValue := 0 }, { name := "LOG2_ARRAY_BOOLEAN_INDEX_SCALE", type := .int, accessFlags := 25, slot := 2, constantValue := 0 }, { name := "LOG2_ARRAY_BYTE_INDEX_SCALE", type := .int, accessFlags := 25, slot := 3, constantValue := 0 }, { name := "LOG2_ARRAY_CHAR_INDEX_SCALE", type := .int, accessFlags := 25, slot := 4, constantValue := 0 }, { name := "LOG2_ARRAY_SHORT_INDEX_SCALE", type := .int, accessFlags := 25, slot := 5, constantValue := 0 }, { name := "LOG2_ARRAY_INT_INDEX_SCALE", type := .int, accessFlags := 25, slot := 6, constantValue := 0 }, { name := "LOG2_ARRAY_LONG_INDEX_SCALE", type := .int, accessFlags := 25, slot := 7, constantValue := 0 }, { name := "LOG2_ARRAY_FLOAT_INDEX_SCALE", type := .int, accessFlags := 25, slot := 8, constantValue := 0 }, { name := "LOG2_ARRAY_DOUBLE_INDEX_SCALE", type := .int, accessFlags := 25, slot := 9, constantValue := 0 }, { name := "LOG2_BYTE_BIT_SIZE", type := .int, accessFlags := 26, slot := 10, constantValue := 0 }, { name := "T_BOOLEAN", type := .int, accessFlags := 25, slot := 11, constantValue := 0 }, { name := "T_CHAR", type := .int, accessFlags := 25, slot := 12, constantValue := 0 }, { name := "T_FLOAT", type := .int, accessFlags := 25, slot := 13, constantValue := 0 }, { name := "T_DOUBLE", type := .int, accessFlags := 25, slot := 14, constantValue := 0 }, { name := "T_BYTE", type := .int, accessFlags := 25, slot := 15, constantValue := 0 }, { name := "T_SHORT", type := .int, accessFlags := 25, slot := 16, constantValue := 0 }, { name := "T_INT", type := .int, accessFlags := 25, slot := 17, constantValue := 0 }, { name := "T_LONG", type := .int, accessFlags := 25, slot := 18, constantValue := 0 }, { name := "JLA", type := (.object "jdk/internal/access/JavaLangAccess"), accessFlags := 26, slot := 19, constantValue := 0 }, { name := "SOFT_MAX_ARRAY_LENGTH", type := .int, accessFlags := 25, slot := 20, constantValue := 0 }]
  methods := #[k12m0]
  instanceTypes := #[]
  staticTypes := #[(.object "jdk/internal/misc/Unsafe"), .boolean, .int, .int, .int, .int, .int, .int, .int, .int, .int, .int, .int, .int, .int, .int, .int, .int, .int, (.object "jdk/internal/access/JavaLangAccess"), .int]
  resolved := Array.replicate 378 none
  statics := none }

def pool13 : Array CpInfo := pool [(1, u "java/lang/Cloneable"), (0, .class_ 1), (0, u "java/lang/Object"), (0, .class_ 3)] 3

/-- java/lang/Cloneable -/
def k13 : Class := { plain "java/lang/Cloneable" (some 0) with
  accessFlags := 1537
  interfaces := #[]
  cf := some (fileOf pool13 2 #[] #[] 1537 4 #[] #[])
  fields := #[]
  methods := #[]
  instanceTypes := #[]
  staticTypes := #[]
  resolved := Array.replicate 8 none
  statics := none }

/-- the primitive byte -/
def k14 : Class := { plain "byte" none with kind := .primitive 'B', accessFlags := 0x411 }
/-- [B -/
def k15 : Class := { plain "[B" (some 0) with kind := .array 14 .byte, interfaces := #[13, 4], accessFlags := 1041 }

/-- the primitive int -/
def k16 : Class := { plain "int" none with kind := .primitive 'I', accessFlags := 0x411 }
/-- [I -/
def k17 : Class := { plain "[I" (some 0) with kind := .array 16 .int, interfaces := #[13, 4], accessFlags := 1041 }

def heap : Heap := #[{ cls := 6, slots := #[.ref 11, .ref 12, .ref 13, .ref 14, .null], vm := .statics 6 },
  { cls := 9, slots := #[.long 0, .int 1, .null, .int 0, .null, .int 0, .int 0], vm := .statics 9 },
  { cls := 11, slots := #[.null, .null, .null], vm := .statics 11 },
  { cls := 15, slots := #[.int 110, .int 111, .int 116, .int 45, .int 112, .int 97, .int 105, .int 100], vm := .none },
  { cls := 15, slots := #[.int 112, .int 97, .int 114, .int 116, .int 108, .int 121, .int 45, .int 112, .int 97, .int 105, .int 100], vm := .none },
  { cls := 15, slots := #[.int 112, .int 97, .int 105, .int 100], vm := .none },
  { cls := 15, slots := #[.int 111, .int 118, .int 101, .int 114, .int 112, .int 97, .int 105, .int 100], vm := .none },
  { cls := 9, slots := #[.ref 3, .int 0, .int 0, .int 0], vm := .none },
  { cls := 9, slots := #[.ref 4, .int 0, .int 0, .int 0], vm := .none },
  { cls := 9, slots := #[.ref 5, .int 0, .int 0, .int 0], vm := .none },
  { cls := 9, slots := #[.ref 6, .int 0, .int 0, .int 0], vm := .none },
  { cls := 6, slots := #[.null, .int 0, .int 0, .ref 7], vm := .none },
  { cls := 6, slots := #[.null, .int 0, .int 0, .ref 8], vm := .none },
  { cls := 6, slots := #[.null, .int 0, .int 0, .ref 9], vm := .none },
  { cls := 6, slots := #[.null, .int 0, .int 0, .ref 10], vm := .none }]
def classes : Array Class := #[k0, k1, k2, k3, k4, k5, k6, k7, k8, k9, k10, k11, k12, k13, k14, k15, k16, k17]
def interned : List (Array UInt16 × Addr) := []
def slotsUsed : Nat := 78
def theMethod : MethodId := ⟨1, 1⟩
def args0 : Array Value := #[.int 0]
def aboutOver (below : List Frame) : State where
  vm := { classes := classes, interned := interned.toArray }
  heap := heap
  slotsUsed := slotsUsed
  threads := #[{ frames := .invoking theMethod args0 :: below }]
def below0 : List Frame := [.native { method := ⟨0, 0⟩, args := #[] }]
def about1 : State := aboutOver below0
def p0 : Program := .bare "" "" ""
def e0 : Env := launch0.env 0 0 0
theorem w_frames : about1.frames = Frame.invoking theMethod args0 :: below0 := rfl
set_option maxRecDepth 65536 in
theorem w_args : argsFit about1.vm theMethod args0 = true := by decide +kernel
set_option maxRecDepth 65536 in
theorem w_heap : heapFits about1 = true := by decide +kernel
set_option maxRecDepth 65536 in
theorem w_runnable : about1.curStatus? = some .runnable := by decide +kernel
set_option maxRecDepth 65536 in
theorem w_alone : about1.alone = true := by decide +kernel
set_option maxRecDepth 65536 in
theorem w_named : about1.methodNamed? x = some theMethod := by decide +kernel
set_option maxRecDepth 65536 in
theorem w_hears : about1.hears theMethod below0 = true := by decide +kernel
set_option maxRecDepth 65536 in
theorem w_ripe : about1.ripe theMethod args0 below0 = true := by decide +kernel
theorem w_running : about1.status = .running := rfl
set_option maxRecDepth 65536 in
theorem w_room : about1.hasRoom e0.platform room_1 = true :=
  launch0.hasRoom_least _ room_1 (by decide +kernel) (by decide +kernel) (by decide +kernel) (by decide +kernel) (by decide +kernel) (by decide +kernel)
theorem allAtoms_all (ts : List Jvm.Cond) (a : Array Jvm.Value) (st : Jvm.State) : (allAtoms ts).before a st = ts.all (fun c => c.before a st) := by
  induction ts with
  | nil => rfl
  | cons c t ih =>
    show (Jvm.Cond.and c (allAtoms t)).before a st = _
    rw [Jvm.Cond.before_and, ih, List.all_cons]
def words1 : List Jvm.Cond := Jvm.Cond.code x code maxLocals ret :: tables_1
/-- a 'code' word, met by the world's own term for the bytes: nothing is compared byte by byte -/
theorem code_word {y : MethodName} {bytes : ByteArray} {mx : Nat} {rt : Option FieldType} {a : Array Value} {s : State} {m : MethodId} {meth : Method} {c : Code} (h1 : s.methodNamed? y = some m) (h2 : s.vm.method? m = some meth) (h3 : meth.code = some c) (h4 : c.code = bytes)
    (h5 : (c.maxLocals == mx && c.exceptionTable.isEmpty && decide (c.maxStack ≤ mostOperands) && decide (meth.sig.returnType = rt) && !meth.locks && decide (parseMethodDescriptor y.desc = some meth.sig)) = true) : (Jvm.Cond.code y bytes mx rt).before a s = true := by
  simp only [Bool.and_eq_true, beq_iff_eq, Bool.not_eq_true', decide_eq_true_eq] at h5
  obtain ⟨⟨⟨⟨⟨g1, g2⟩, g3⟩, g4⟩, g5⟩, g6⟩ := h5
  simp [Cond.before, Cond.holds, Cond.value, h1, h2, h3, h4, g1, g2, g3, g4, g5, g6]
def isCode : Jvm.Cond → Bool
  | .code _ _ _ _ => true
  | _ => false
theorem all_split {L : List Jvm.Cond} {P : Jvm.Cond → Bool} (h1 : L.all (fun c => isCode c || P c) = true) (h2 : ∀ c ∈ L.filter isCode, P c = true) : L.all P = true := by
  refine List.all_eq_true.mpr fun c hc => ?_
  have h := List.all_eq_true.mp h1 c hc
  rcases Bool.eq_false_or_eq_true (isCode c) with hi | hi
  · exact h2 c (List.mem_filter.mpr ⟨hc, hi⟩)
  · simpa [hi] using h
set_option maxRecDepth 65536 in
theorem w_c0 : (Jvm.Cond.code x code maxLocals ret).before args0 about1 = true := code_word (m := ⟨1, 1⟩) (meth := k1m1) (c := k1c1) (by decide +kernel) rfl rfl rfl (by decide +kernel)
set_option maxRecDepth 65536 in
theorem w_c1 : (Jvm.Cond.code ({ cls := "com/example/erpctl/erpctl/core/model/PaymentStatus", name := "wordOf", desc := "(Lcom/example/erpctl/erpctl/core/model/PaymentStatus;)Ljava/lang/String;" } : Jvm.MethodName) prog_12_method_5_code (1 : Nat) (Option.some (Jvm.ClassFile.FieldType.object "java/lang/String"))).before args0 about1 = true := code_word (m := ⟨6, 1⟩) (meth := k6m1) (c := k6c1) (by decide +kernel) rfl rfl rfl (by decide +kernel)
set_option maxRecDepth 65536 in
theorem w_c2 : (Jvm.Cond.code ({ cls := "com/example/erpctl/erpctl/core/model/PaymentStatus", name := "word", desc := "()Ljava/lang/String;" } : Jvm.MethodName) prog_12_method_4_code (1 : Nat) (Option.some (Jvm.ClassFile.FieldType.object "java/lang/String"))).before args0 about1 = true := code_word (m := ⟨6, 0⟩) (meth := k6m0) (c := k6c0) (by decide +kernel) rfl rfl rfl (by decide +kernel)
set_option maxRecDepth 65536 in
theorem w_c3 : (Jvm.Cond.code ({ cls := "java/lang/String", name := "equals", desc := "(Ljava/lang/Object;)Z" } : Jvm.MethodName) jdk_42_method_66_code (3 : Nat) (Option.some Jvm.ClassFile.FieldType.boolean)).before args0 about1 = true := code_word (m := ⟨9, 1⟩) (meth := k9m1) (c := k9c1) (by decide +kernel) rfl rfl rfl (by decide +kernel)
set_option maxRecDepth 65536 in
theorem w_c4 : (Jvm.Cond.code ({ cls := "java/lang/StringLatin1", name := "equals", desc := "([B[B)Z" } : Jvm.MethodName) jdk_43_method_13_code (3 : Nat) (Option.some Jvm.ClassFile.FieldType.boolean)).before args0 about1 = true := code_word (m := ⟨10, 1⟩) (meth := k10m1) (c := k10c1) (by decide +kernel) rfl rfl rfl (by decide +kernel)
def codes1 : List Jvm.Cond := [Jvm.Cond.code x code maxLocals ret, Jvm.Cond.code ({ cls := "com/example/erpctl/erpctl/core/model/PaymentStatus", name := "wordOf", desc := "(Lcom/example/erpctl/erpctl/core/model/PaymentStatus;)Ljava/lang/String;" } : Jvm.MethodName) prog_12_method_5_code (1 : Nat) (Option.some (Jvm.ClassFile.FieldType.object "java/lang/String")), Jvm.Cond.code ({ cls := "com/example/erpctl/erpctl/core/model/PaymentStatus", name := "word", desc := "()Ljava/lang/String;" } : Jvm.MethodName) prog_12_method_4_code (1 : Nat) (Option.some (Jvm.ClassFile.FieldType.object "java/lang/String")), Jvm.Cond.code ({ cls := "java/lang/String", name := "equals", desc := "(Ljava/lang/Object;)Z" } : Jvm.MethodName) jdk_42_method_66_code (3 : Nat) (Option.some Jvm.ClassFile.FieldType.boolean), Jvm.Cond.code ({ cls := "java/lang/StringLatin1", name := "equals", desc := "([B[B)Z" } : Jvm.MethodName) jdk_43_method_13_code (3 : Nat) (Option.some Jvm.ClassFile.FieldType.boolean)]
set_option maxRecDepth 65536 in
theorem codes_eq : words1.filter isCode = codes1 := rfl
theorem w_codes : ∀ c ∈ words1.filter isCode, c.before args0 about1 = true := by
  rw [codes_eq]
  intro c hc
  simp only [codes1, List.mem_cons, List.not_mem_nil, or_false] at hc
  rcases hc with rfl | rfl | rfl | rfl | rfl
  · exact w_c0
  · exact w_c1
  · exact w_c2
  · exact w_c3
  · exact w_c4
set_option maxRecDepth 65536 in
theorem w_t1 : (words1.take 24).all (fun c => isCode c || c.before args0 about1) = true := by decide +kernel
set_option maxRecDepth 65536 in
theorem w_t2 : (words1.drop 24).all (fun c => isCode c || c.before args0 about1) = true := by decide +kernel
theorem w_tables : (allAtoms (Jvm.Cond.code x code maxLocals ret :: tables_1)).before args0 about1 = true := by
  rw [allAtoms_all]
  show words1.all (fun c => c.before args0 about1) = true
  refine all_split ?_ w_codes
  rw [← List.take_append_drop 24 words1, List.all_append, w_t1, w_t2]
  rfl
set_option maxRecDepth 65536 in
theorem w_rest : rest_1_c.before args0 about1 = true := by decide +kernel
set_option maxRecDepth 65536 in
theorem w_case : (Jvm.Cond.and given_1 narrow_1).before args0 about1 = true := by decide +kernel
set_option maxRecDepth 65536 in
theorem w_consts : constsHeld consts_1 about1 := Jvm.Lit.constsHeldB_iff.mp (by decide +kernel)
theorem w_applies : (headSpec (Jvm.Cond.code x code maxLocals ret :: tables_1) room_1).applies x e0.platform about1 = true :=
  (Spec.applies_iff w_frames).mpr ⟨w_running, w_runnable, w_alone, w_named, w_hears, w_ripe, w_room, w_tables⟩
theorem atStart : AtStart classFile x code maxLocals ret World_1 tables_1 room_1 Calls_1 rest_1 Pre_1 launch0 p0 e0 about1 theMethod args0 below0 :=
  ⟨lists_1, trivial, launch0.admits_env _ _ _, launch0.least_env, fairChoices_fair.cas, fairChoices_fair.clock, w_frames, w_args, w_heap, w_applies, ⟨w_consts, trivial⟩, w_rest, w_case⟩
end start1
theorem witness_1 : WitnessClaimed_1 := ⟨start1.p0, start1.e0, start1.about1, start1.theMethod, start1.args0, start1.below0, start1.atStart⟩
end Jvm.Pilot.@@N@@

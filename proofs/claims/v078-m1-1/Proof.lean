import JvmDerived
import JvmDerived.Pilot.@@N@@Statement
import JvmDerived.Pilot.@@N@@Code
set_option linter.unusedVariables false
set_option linter.unusedSimpArgs false
namespace Jvm.Pilot.@@N@@
open Jvm Jvm.ClassFile Sem Op Lib Jvm.Free Jvm.Stand Jvm.LawKit Jvm.RoadKit Bundle Jvm.Pilot.@@N@@.Jvm.D
/-! own layer: forward walking in continuation style, arrays as functions -/
def own_R (tb : Tables) (e : Env) (below : List Frame) (P : State → Outcome → Prop) (st : State) : Prop := ∃ t o, Steps tb e below st t ∧ P t o
theorem own_fwd {tb : Tables} {e : Env} {below : List Frame} {P : State → Outcome → Prop} {st st' : State} (k : ∀ t, Steps tb e below st' t → Steps tb e below st t) (h : own_R tb e below P st') : own_R tb e below P st := by
  obtain ⟨t, o, h1, h2⟩ := h; exact ⟨t, o, k t h1, h2⟩
theorem own_trn {tb : Tables} {e : Env} {below : List Frame} {P : State → Outcome → Prop} {st st' : State} (k : Steps tb e below st st') (h : own_R tb e below P st') : own_R tb e below P st := own_fwd (fun _ q => k.trans q) h
theorem own_nm {tb : Tables} {e : Env} {below : List Frame} {P : State → Outcome → Prop} {st : State} (h : ∀ P' : State → Outcome → Prop, (∀ t o, P t o → P' t o) → own_R tb e below P' st) : own_R tb e below P st := h P fun _ _ q => q
/-- an array, n long, place i holds f i -/
def own_AV (Z : State) (h : Heap) (a : Addr) (ty : FieldType) (n : Nat) (f : Nat → Value) : Prop := ∃ c : Cell, Arr Z h a c ty ∧ c.slots.size = n ∧ n < 2 ^ 31 ∧ ∀ i, i < n → c.slots[i]? = some (f i)
abbrev own_AI (Z : State) (h : Heap) (a : Addr) (ty : FieldType) (n : Nat) (f : Nat → Int32) : Prop := own_AV Z h a ty n fun i => .int (f i)
abbrev own_AJ (Z : State) (h : Heap) (a : Addr) (n : Nat) (f : Nat → Int64) : Prop := own_AV Z h a .long n fun i => .long (f i)
def own_upd {α : Type} (f : Nat → α) (i : Nat) (x : α) : Nat → α := fun k => if k = i then x else f k
theorem own_upd_hit {α : Type} (f : Nat → α) (i : Nat) (x : α) : own_upd f i x i = x := if_pos rfl
theorem own_upd_miss {α : Type} (f : Nat → α) {i k : Nat} (x : α) (q : k ≠ i) : own_upd f i x k = f k := if_neg q
section Own
variable {p : Program} {l : Launch} {e : Env} {R : Room} {s : State} {m : MethodId} {args : Array Value} {below : List Frame} {meth : Method} {c : Code} {T : State} {locs : List Loc} {cells slots : Nat} {Z : State} {a0 : Array Value} {h h' : Heap} {a b : Addr} {ty : FieldType} {n : Nat} {f : Nat → Value} {v : Value} {sl : Nat}
theorem own_AV.lt (F : own_AV Z h a ty n f) : a < h.size := by obtain ⟨c, A, -⟩ := F; exact A.lt
theorem own_AV.bd (F : own_AV Z h a ty n f) : n < 2 ^ 31 := by obtain ⟨c, A, -, q, -⟩ := F; exact q
theorem own_AV.ext (F : own_AV Z h a ty n f) (E : Ext h h') : own_AV Z h' a ty n f := by obtain ⟨c, A, r⟩ := F; exact ⟨c, A.ext E, r⟩
theorem own_AV.other (F : own_AV Z h b ty n f) (W : Wr h h' a sl v) (q : b ≠ a) : own_AV Z h' b ty n f := by obtain ⟨c, A, r⟩ := F; exact ⟨c, A.other W q, r⟩
theorem own_AV.keep {ws : List Addr} (F : own_AV Z h a ty n f) (K : Keep h h' ws) (q : a ∉ ws) : own_AV Z h' a ty n f := by obtain ⟨c, A, r⟩ := F; exact ⟨c, ⟨K.2.1 a c A.1 q, A.2⟩, r⟩
theorem own_AV.cong {f' : Nat → Value} (F : own_AV Z h a ty n f) (q : ∀ i, i < n → f' i = f i) : own_AV Z h a ty n f' := by obtain ⟨c, A, r1, r2, r3⟩ := F; exact ⟨c, A, r1, r2, fun i hi => by rw [q i hi]; exact r3 i hi⟩
theorem own_clamp {j : Int32} {i : Nat} (hj : j.toInt = (i : Int)) : j.toNatClampNeg = i ∧ ¬ j < 0 := by
  have q0 : (0 : Int32).toInt = 0 := rfl
  exact ⟨by unfold Int32.toNatClampNeg; omega, by rw [Int32.lt_iff_toInt_lt]; omega⟩
theorem own_inb {cl : Cell} {j : Int32} {i : Nat} (hj : j.toInt = (i : Int)) (S : cl.slots.size = n) (hi : i < n) : ¬ (j < 0 ∨ cl.slots.size ≤ j.toNatClampNeg) := by
  obtain ⟨q1, q2⟩ := own_clamp hj
  rw [q1]; rintro (q | q)
  · exact q2 q
  · omega
theorem own_AV.new {k : ClassId} {z : Int32} (A : Arr Z h a (newA k ty z) ty) (hz : z.toInt = (n : Int)) : own_AV Z h a ty n (fun _ => defaultValue ty) := by
  obtain ⟨q1, q2⟩ := own_clamp hz
  have hb := z.toInt_lt
  refine ⟨_, A, by rw [sz_new]; exact q1, by omega, fun i hi => ?_⟩
  simp [newA, q1, hi]
theorem own_ldI (X : Stand p l e R s m args below meth c T locs cells slots) (hx : p.tables.exec = Jvm.exec) (hZ : Z.Warmed39 s.vm) (eT : T.heap = h) (F : own_AV Z h a .int n f) {j : Int32} (i : Nat) (hj : j.toInt = (i : Int)) (hi : i < n) {g : JFrame} (hg : g.method = m) {rest : List Value} (hs : g.stack = .int j :: .ref a :: rest) (hd : decode c.code g.pc = .ok (.iaload, 1)) :
    ∀ t, Steps p.tables e below (T.setTop { g with pc := g.pc + 1, stack := f i :: rest }) t → Steps p.tables e below (T.setTop g) t := fun t k => by
  obtain ⟨cl, A, S, -, H⟩ := F
  exact X.iaload hx (by rw [eT]; exact A.1) (State.isArrayOf_alike hZ.alike A.2.1) A.2.2 (own_inb hj S hi) (by rw [(own_clamp hj).1]; exact H i hi) hg hs hd t k
theorem own_ldS (X : Stand p l e R s m args below meth c T locs cells slots) (hx : p.tables.exec = Jvm.exec) (hZ : Z.Warmed39 s.vm) (eT : T.heap = h) (F : own_AV Z h a .short n f) {j : Int32} (i : Nat) (hj : j.toInt = (i : Int)) (hi : i < n) {g : JFrame} (hg : g.method = m) {rest : List Value} (hs : g.stack = .int j :: .ref a :: rest) (hd : decode c.code g.pc = .ok (.saload, 1)) :
    ∀ t, Steps p.tables e below (T.setTop { g with pc := g.pc + 1, stack := f i :: rest }) t → Steps p.tables e below (T.setTop g) t := fun t k => by
  obtain ⟨cl, A, S, -, H⟩ := F
  exact X.saload hx (by rw [eT]; exact A.1) (State.isArrayOf_alike hZ.alike A.2.1) A.2.2 (own_inb hj S hi) (by rw [(own_clamp hj).1]; exact H i hi) hg hs hd t k
theorem own_ldC (X : Stand p l e R s m args below meth c T locs cells slots) (hx : p.tables.exec = Jvm.exec) (hZ : Z.Warmed39 s.vm) (eT : T.heap = h) (F : own_AV Z h a .char n f) {j : Int32} (i : Nat) (hj : j.toInt = (i : Int)) (hi : i < n) {g : JFrame} (hg : g.method = m) {rest : List Value} (hs : g.stack = .int j :: .ref a :: rest) (hd : decode c.code g.pc = .ok (.caload, 1)) :
    ∀ t, Steps p.tables e below (T.setTop { g with pc := g.pc + 1, stack := f i :: rest }) t → Steps p.tables e below (T.setTop g) t := fun t k => by
  obtain ⟨cl, A, S, -, H⟩ := F
  exact X.caload hx (by rw [eT]; exact A.1) (State.isArrayOf_alike hZ.alike A.2.1) A.2.2 (own_inb hj S hi) (by rw [(own_clamp hj).1]; exact H i hi) hg hs hd t k
theorem own_ldJ (X : Stand p l e R s m args below meth c T locs cells slots) (hx : p.tables.exec = Jvm.exec) (hZ : Z.Warmed39 s.vm) (eT : T.heap = h) (F : own_AV Z h a .long n f) {j : Int32} (i : Nat) (hj : j.toInt = (i : Int)) (hi : i < n) {g : JFrame} (hg : g.method = m) {rest : List Value} (hs : g.stack = .int j :: .ref a :: rest) (hd : decode c.code g.pc = .ok (.laload, 1)) :
    ∀ t, Steps p.tables e below (T.setTop { g with pc := g.pc + 1, stack := f i :: rest }) t → Steps p.tables e below (T.setTop g) t := fun t k => by
  obtain ⟨cl, A, S, -, H⟩ := F
  exact X.laload hx (by rw [eT]; exact A.1) (State.isArrayOf_alike hZ.alike A.2.1) A.2.2 (own_inb hj S hi) (by rw [(own_clamp hj).1]; exact H i hi) hg hs hd t k
theorem own_len (X : Stand p l e R s m args below meth c T locs cells slots) (hx : p.tables.exec = Jvm.exec) (hZ : Z.Warmed39 s.vm) (eT : T.heap = h) (F : own_AV Z h a ty n f) (z : Int32) (hz : z.toInt = (n : Int)) {g : JFrame} (hg : g.method = m) {rest : List Value} (hs : g.stack = .ref a :: rest) (hd : decode c.code g.pc = .ok (.arraylength, 1)) :
    ∀ t, Steps p.tables e below (T.setTop { g with pc := g.pc + 1, stack := .int z :: rest }) t → Steps p.tables e below (T.setTop g) t := fun t k => by
  obtain ⟨cl, A, S, q, H⟩ := F
  have e1 : cl.slots.size.toInt32 = z := by
    rw [S]; apply Int32.toInt_inj.mp; rw [hz]; exact len_toInt q
  refine X.arraylength hx (by rw [eT]; exact A.1) (State.isArrayOf_alike hZ.alike A.2.1) hg hs hd t ?_
  rw [e1]; exact k
theorem own_AV.set {h' : Heap} {cl : Cell} {j : Int32} {i : Nat} {w : Value} (A : Arr Z h a cl ty) (S : cl.slots.size = n) (q : n < 2 ^ 31) (H : ∀ i, i < n → cl.slots[i]? = some (f i)) (hj : j.toInt = (i : Int)) (hi : i < n) (W : Wr h h' a j.toNatClampNeg w) : own_AV Z h' a ty n (own_upd f i w) := by
  rw [(own_clamp hj).1] at W
  refine ⟨_, A.same W, by rw [sz_set]; exact S, q, fun k hk => ?_⟩
  by_cases e : k = i
  · subst e; rw [own_upd_hit]; simp [Cell.setSlot, S, hi]
  · rw [own_upd_miss _ _ e]; simp only [Cell.setSlot]; rw [Array.getElem?_setIfInBounds_ne (Ne.symm e)]; exact H k hk
theorem own_stI {g0 : Nat → Int32} (X : Stand p l e R s m args below meth c T locs cells slots) (hx : p.tables.exec = Jvm.exec) (hZ : Z.Warmed39 s.vm) (eT : T.heap = h) (F : own_AI Z h a .int n g0) {j x : Int32} (i : Nat) (hj : j.toInt = (i : Int)) (hi : i < n) {g : JFrame} (hg : g.method = m) {rest : List Value} (hs : g.stack = .int x :: .int j :: .ref a :: rest) (hd : decode c.code g.pc = .ok (.iastore, 1)) :
    ∃ T' h', Stand p l e R s m args below meth c T' (locs ++ [⟨a, j.toNatClampNeg⟩]) cells slots ∧ T'.heap = h' ∧ Wr h h' a j.toNatClampNeg (.int x) ∧ own_AI Z h' a .int n (own_upd g0 i x) ∧ ∀ t, Steps p.tables e below (T'.setTop { g with pc := g.pc + 1, stack := rest }) t → Steps p.tables e below (T.setTop g) t := by
  obtain ⟨cl, A, S, q, H⟩ := F
  obtain ⟨T', h', X', e', W, st⟩ := stI X hx hZ eT A (own_inb hj S hi) hg hs hd
  exact ⟨T', h', X', e', W, (own_AV.set A S q H hj hi W).cong fun k _ => by simp only [own_upd]; split <;> rfl, st⟩
theorem own_stS {g0 : Nat → Int32} (X : Stand p l e R s m args below meth c T locs cells slots) (hx : p.tables.exec = Jvm.exec) (hZ : Z.Warmed39 s.vm) (eT : T.heap = h) (F : own_AI Z h a .short n g0) {j x : Int32} (i : Nat) (hj : j.toInt = (i : Int)) (hi : i < n) {g : JFrame} (hg : g.method = m) {rest : List Value} (hs : g.stack = .int x :: .int j :: .ref a :: rest) (hd : decode c.code g.pc = .ok (.sastore, 1)) :
    ∃ T' h', Stand p l e R s m args below meth c T' (locs ++ [⟨a, j.toNatClampNeg⟩]) cells slots ∧ T'.heap = h' ∧ Wr h h' a j.toNatClampNeg (.int (nar .short x)) ∧ own_AI Z h' a .short n (own_upd g0 i (nar .short x)) ∧ ∀ t, Steps p.tables e below (T'.setTop { g with pc := g.pc + 1, stack := rest }) t → Steps p.tables e below (T.setTop g) t := by
  obtain ⟨cl, A, S, q, H⟩ := F
  obtain ⟨T', h', X', e', W, st⟩ := stS X hx hZ eT A (own_inb hj S hi) hg hs hd
  exact ⟨T', h', X', e', W, (own_AV.set A S q H hj hi W).cong fun k _ => by simp only [own_upd]; split <;> rfl, st⟩
theorem own_stC {g0 : Nat → Int32} (X : Stand p l e R s m args below meth c T locs cells slots) (hx : p.tables.exec = Jvm.exec) (hZ : Z.Warmed39 s.vm) (eT : T.heap = h) (F : own_AI Z h a .char n g0) {j x : Int32} (i : Nat) (hj : j.toInt = (i : Int)) (hi : i < n) {g : JFrame} (hg : g.method = m) {rest : List Value} (hs : g.stack = .int x :: .int j :: .ref a :: rest) (hd : decode c.code g.pc = .ok (.castore, 1)) :
    ∃ T' h', Stand p l e R s m args below meth c T' (locs ++ [⟨a, j.toNatClampNeg⟩]) cells slots ∧ T'.heap = h' ∧ Wr h h' a j.toNatClampNeg (.int (nar .char x)) ∧ own_AI Z h' a .char n (own_upd g0 i (nar .char x)) ∧ ∀ t, Steps p.tables e below (T'.setTop { g with pc := g.pc + 1, stack := rest }) t → Steps p.tables e below (T.setTop g) t := by
  obtain ⟨cl, A, S, q, H⟩ := F
  obtain ⟨T', h', X', e', W, st⟩ := stC X hx hZ eT A (own_inb hj S hi) hg hs hd
  exact ⟨T', h', X', e', W, (own_AV.set A S q H hj hi W).cong fun k _ => by simp only [own_upd]; split <;> rfl, st⟩
theorem own_stJ {g0 : Nat → Int64} (X : Stand p l e R s m args below meth c T locs cells slots) (hx : p.tables.exec = Jvm.exec) (hZ : Z.Warmed39 s.vm) (eT : T.heap = h) (F : own_AJ Z h a n g0) {j : Int32} {x : Int64} (i : Nat) (hj : j.toInt = (i : Int)) (hi : i < n) {g : JFrame} (hg : g.method = m) {rest : List Value} (hs : g.stack = .long x :: .int j :: .ref a :: rest) (hd : decode c.code g.pc = .ok (.lastore, 1)) :
    ∃ T' h', Stand p l e R s m args below meth c T' (locs ++ [⟨a, j.toNatClampNeg⟩]) cells slots ∧ T'.heap = h' ∧ Wr h h' a j.toNatClampNeg (.long x) ∧ own_AJ Z h' a n (own_upd g0 i x) ∧ ∀ t, Steps p.tables e below (T'.setTop { g with pc := g.pc + 1, stack := rest }) t → Steps p.tables e below (T.setTop g) t := by
  obtain ⟨cl, A, S, q, H⟩ := F
  obtain ⟨T', h', X', e', W, st⟩ := stJ X hx hZ eT A (own_inb hj S hi) hg hs hd
  exact ⟨T', h', X', e', W, (own_AV.set A S q H hj hi W).cong fun k _ => by simp only [own_upd]; split <;> rfl, st⟩
theorem own_newA (X : Stand p l e R s m args below meth c T locs cells slots) (hx : p.tables.exec = Jvm.exec) (hZ : Z.Warmed39 s.vm) {aty : ArrayType} (w : (Cond.arrayClass (newarray.typeOf aty)).before a0 Z = true) (eT : T.heap = h) {z : Int32} (hz : z.toInt = (n : Int)) {cap : Nat} (hcap : n ≤ cap) {g : JFrame} (hg : g.method = m) (hd : decode c.code g.pc = .ok (.newarray aty, 2)) {rest : List Value} (hs : g.stack = .int z :: rest)
    (hb : cap * 8 ≤ 536870912) (hc : cells + 1 ≤ R.cells) (hl : slots + cap ≤ R.slots) {ad : String} (had : "[" ++ (newarray.typeOf aty).toString = ad) :
    ∃ T' h' b, b = h.size ∧ Stand p l e R s m args below meth c T' locs (cells + 1) (slots + cap) ∧ T'.heap = h' ∧ Ext h h' ∧ own_AV Z h' b (newarray.typeOf aty) n (fun _ => defaultValue (newarray.typeOf aty)) ∧ Exa Z h' b ad ∧
      ∀ t, Steps p.tables e below (T'.setTop { g with pc := g.pc + 2, stack := .ref b :: rest }) t → Steps p.tables e below (T.setTop g) t := by
  obtain ⟨q1, q2⟩ := own_clamp hz
  obtain ⟨T', h', k, X', e', E, A, Ea, st⟩ := newPE X hx hZ w eT hg hd hs q2 (by rw [q1]; exact hcap) hb hc hl had
  exact ⟨T', h', _, rfl, X', e', E, own_AV.new A hz, Ea, st⟩
end Own
def own_two {α : Type} (x y : α) : Nat → α
  | 0 => x
  | _ => y
theorem own_two_0 {α : Type} (x y : α) : own_two x y 0 = x := rfl
theorem own_two_1 {α : Type} (x y : α) : own_two x y 1 = y := rfl
theorem own_nlt {i n : Nat} (hi : i < n) (hn : n < 2 ^ 31) : i.toInt32 < n.toInt32 := by
  rw [Int32.lt_iff_toInt_lt, len_toInt hn, len_toInt (by omega)]; omega
theorem own_nge {i n : Nat} (hi : n ≤ i) (hn : i < 2 ^ 31) : ¬ i.toInt32 < n.toInt32 := by
  rw [Int32.lt_iff_toInt_lt, len_toInt hn, len_toInt (by omega)]; omega
theorem own_nsucc {i : Nat} (hn : i + 1 < 2 ^ 31) : i.toInt32 + (1 : Int32) = (i + 1).toInt32 := by
  have e1 : (1 : Int32).toInt = 1 := rfl
  have h1 := c_iadd i.toInt32 1
  have h2 := rng32 (i.toInt32 + 1)
  rw [← Int32.toInt_inj, len_toInt hn]
  rw [len_toInt (by omega), e1] at h1
  omega
theorem own_and3 (x : Int32) : (x &&& (3 : Int32)) = 0 ∨ (x &&& (3 : Int32)) = 1 ∨ (x &&& (3 : Int32)) = 2 ∨ (x &&& (3 : Int32)) = 3 := by
  have h := c_mask x 3 2 (by decide) (by decide)
  have e : ((2 ^ 2 : Nat) : Int) = 4 := by decide
  rw [e] at h
  have e0 : (0 : Int32).toInt = 0 := rfl
  have e1 : (1 : Int32).toInt = 1 := rfl
  have e2 : (2 : Int32).toInt = 2 := rfl
  have e3 : (3 : Int32).toInt = 3 := rfl
  simp only [← Int32.toInt_inj]
  omega
theorem own_i0 : (0 : Int32).toInt = 0 := rfl
theorem own_i1 : (1 : Int32).toInt = 1 := rfl
theorem own_im1 : (-1 : Int32).toInt = -1 := rfl
def own_inc (f : Nat → Int32) (v : Int32) : Nat → Int32 := fun j => if (j : Int) = v.toInt then f j + 1 else f j
def own_sz (be : Nat → Int32) : Nat → Int32 := own_inc (own_inc (own_inc (own_inc (fun _ => (0 : Int32)) (be 0)) (be 1)) (be 2)) (be 3)
def own_ps (sz : Nat → Int32) : Nat → Int32
  | 0 => 0
  | n + 1 => own_ps sz n + sz n
def own_cnt (be : Nat → Int32) (sg : Nat → Nat) (x : Int32) : Nat → Int32
  | 0 => 0
  | n + 1 => if be (sg n) = x then own_cnt be sg x n + 1 else own_cnt be sg x n
def own_rv (be sz : Nat → Int32) (sg : Nat → Nat) (i : Nat) : Int32 := if be (sg i) < 0 then -1 else own_ps sz (be (sg i)).toInt.toNat + own_cnt be sg (be (sg i)) i
def own_rk (be sz : Nat → Int32) (sg : Nat → Nat) : Nat → Nat → Int32
  | 0 => fun _ => 0
  | i + 1 => own_upd (own_rk be sz sg i) (sg i) (own_rv be sz sg i)
def own_s1 (sz : Nat → Int32) (i : Nat) : Nat → Int32 := fun j => if j < i then own_ps sz j else 0
def own_sf (be sz : Nat → Int32) (sg : Nat → Nat) (i : Nat) : Nat → Int32 := fun j => own_ps sz j + own_cnt be sg j.toInt32 i
def own_bef (be pi : Nat → Int32) (d e : Nat) : Int32 := if be e < 0 then 0 else if be e < be d then 1 else if be e = be d ∧ pi e < pi d then 1 else 0
def own_expd (be pi : Nat → Int32) (d : Nat) : Int32 := if be d < 0 then -1 else ((own_bef be pi d 0 + own_bef be pi d 1) + own_bef be pi d 2) + own_bef be pi d 3
def own_sw {α : Type} (f : Nat → α) (i j : Nat) : Nat → α := own_upd (own_upd f i (f j)) j (f i)
def own_lt (be : Nat → Int32) (n : Int) (e : Nat) : Int := if 0 ≤ (be e).toInt ∧ (be e).toInt < n then 1 else 0
def own_cs (be : Nat → Int32) (sg : Nat → Nat) (x : Int32) : Nat → Int
  | 0 => 0
  | n + 1 => own_cs be sg x n + (if be (sg n) = x then 1 else 0)
theorem own_addS {a b : Int32} {m n : Int} (ha : a.toInt = m) (hb : b.toInt = n) (h1 : -1000 ≤ m + n) (h2 : m + n ≤ 1000) : (a + b).toInt = m + n := by
  have a1 := c_iadd a b
  have r := rng32 (a + b)
  omega
theorem own_inc_v {f : Nat → Int32} {v : Int32} {j : Nat} {m : Int} (h : (f j).toInt = m) (h0 : 0 ≤ m) (h1 : m ≤ 100) : (own_inc f v j).toInt = m + (if (j : Int) = v.toInt then 1 else 0) := by
  unfold own_inc
  split
  · exact own_addS h own_i1 (by omega) (by omega)
  · rw [h]; omega
theorem own_sz_v (be : Nat → Int32) (j : Nat) : (own_sz be j).toInt = (if (j : Int) = (be 0).toInt then 1 else 0) + (if (j : Int) = (be 1).toInt then 1 else 0) + (if (j : Int) = (be 2).toInt then 1 else 0) + (if (j : Int) = (be 3).toInt then 1 else 0) := by
  unfold own_sz
  have e0 : (((fun _ => (0 : Int32)) : Nat → Int32) j).toInt = 0 := rfl
  have e1 := own_inc_v (f := fun _ => (0 : Int32)) (j := j) (v := be 0) e0 (by omega) (by omega)
  have b1 : 0 ≤ (if (j : Int) = (be 0).toInt then (1 : Int) else 0) ∧ (if (j : Int) = (be 0).toInt then (1 : Int) else 0) ≤ 1 := by split <;> omega
  have b2 : 0 ≤ (if (j : Int) = (be 1).toInt then (1 : Int) else 0) ∧ (if (j : Int) = (be 1).toInt then (1 : Int) else 0) ≤ 1 := by split <;> omega
  have b3 : 0 ≤ (if (j : Int) = (be 2).toInt then (1 : Int) else 0) ∧ (if (j : Int) = (be 2).toInt then (1 : Int) else 0) ≤ 1 := by split <;> omega
  have e2 := own_inc_v (v := be 1) e1 (by omega) (by omega)
  have e3 := own_inc_v (v := be 2) e2 (by omega) (by omega)
  have e4 := own_inc_v (v := be 3) e3 (by omega) (by omega)
  rw [e4]; omega
theorem own_ind (x : Int) (n : Nat) : (if 0 ≤ x ∧ x < ((n + 1 : Nat) : Int) then (1 : Int) else 0) = (if 0 ≤ x ∧ x < (n : Int) then 1 else 0) + (if (n : Int) = x then 1 else 0) := by
  by_cases a : 0 ≤ x ∧ x < (n : Int)
  · rw [if_pos a, if_pos (by omega), if_neg (by omega)]; rfl
  · rw [if_neg a]
    by_cases b : (n : Int) = x
    · rw [if_pos b, if_pos (by omega)]; rfl
    · rw [if_neg b, if_neg (by omega)]; rfl
theorem own_lt_b (be : Nat → Int32) (n : Int) (e : Nat) : 0 ≤ own_lt be n e ∧ own_lt be n e ≤ 1 := by unfold own_lt; split <;> omega
theorem own_ps_v (be : Nat → Int32) : ∀ n : Nat, (own_ps (own_sz be) n).toInt = own_lt be n 0 + own_lt be n 1 + own_lt be n 2 + own_lt be n 3
  | 0 => by
    have z : ∀ e, own_lt be ((0 : Nat) : Int) e = 0 := fun e => by unfold own_lt; rw [if_neg (by omega)]
    rw [z, z, z, z]; rfl
  | n + 1 => by
    have ih := own_ps_v be n
    have q := own_sz_v be n
    have z : ∀ e, own_lt be ((n + 1 : Nat) : Int) e = own_lt be n e + (if (n : Int) = (be e).toInt then 1 else 0) := fun e => own_ind _ n
    have b0 := own_lt_b be n 0; have b1 := own_lt_b be n 1; have b2 := own_lt_b be n 2; have b3 := own_lt_b be n 3
    have c : ∀ e, 0 ≤ (if (n : Int) = (be e).toInt then (1 : Int) else 0) ∧ (if (n : Int) = (be e).toInt then (1 : Int) else 0) ≤ 1 := fun e => by split <;> omega
    have c0 := c 0; have c1 := c 1; have c2 := c 2; have c3 := c 3
    rw [own_ps, own_addS ih q (by omega) (by omega), z, z, z, z]
    omega
theorem own_cs_b (be : Nat → Int32) (sg : Nat → Nat) (x : Int32) : ∀ n, 0 ≤ own_cs be sg x n ∧ own_cs be sg x n ≤ n
  | 0 => ⟨Int.le_refl _, Int.le_refl _⟩
  | n + 1 => by have := own_cs_b be sg x n; unfold own_cs; split <;> omega
theorem own_cnt_v (be : Nat → Int32) (sg : Nat → Nat) (x : Int32) : ∀ n, n ≤ 100 → (own_cnt be sg x n).toInt = own_cs be sg x n
  | 0, _ => rfl
  | n + 1, h => by
    have ih := own_cnt_v be sg x n (by omega)
    have b := own_cs_b be sg x n
    unfold own_cnt own_cs
    split
    · exact own_addS ih own_i1 (by omega) (by omega)
    · rw [ih]; omega
theorem own_bef_v {be pi : Nat → Int32} {d e : Nat} (hd : ¬ be d < 0) : (own_bef be pi d e).toInt = own_lt be (be d).toInt e + (if be e = be d ∧ pi e < pi d then 1 else 0) := by
  rw [Int32.lt_iff_toInt_lt, own_i0] at hd
  unfold own_bef own_lt
  by_cases a : be e < 0
  · have a' := a
    rw [Int32.lt_iff_toInt_lt, own_i0] at a'
    rw [if_pos a, if_neg (by omega), if_neg (fun z => by rw [z.1] at a'; omega)]; rfl
  · have a' := a
    rw [Int32.lt_iff_toInt_lt, own_i0] at a'
    rw [if_neg a]
    by_cases b : be e < be d
    · have b' := b
      rw [Int32.lt_iff_toInt_lt] at b'
      rw [if_pos b, if_pos (by omega), if_neg (fun z => by rw [z.1] at b'; omega)]; rfl
    · have b' := b
      rw [Int32.lt_iff_toInt_lt] at b'
      rw [if_neg b, if_neg (by omega : ¬ (0 ≤ (be e).toInt ∧ (be e).toInt < (be d).toInt))]
      split <;> rfl
/-- what is known of the order -/
def own_Perm (sg : Nat → Nat) : Prop := (∀ g : Nat → Int, g (sg 0) + g (sg 1) + g (sg 2) + g (sg 3) = g 0 + g 1 + g 2 + g 3) ∧ (sg 0 < 4 ∧ sg 1 < 4 ∧ sg 2 < 4 ∧ sg 3 < 4) ∧ (sg 0 ≠ sg 1 ∧ sg 0 ≠ sg 2 ∧ sg 0 ≠ sg 3 ∧ sg 1 ≠ sg 2 ∧ sg 1 ≠ sg 3 ∧ sg 2 ≠ sg 3) ∧ ((sg 0 = 0 ∨ sg 1 = 0 ∨ sg 2 = 0 ∨ sg 3 = 0) ∧ (sg 0 = 1 ∨ sg 1 = 1 ∨ sg 2 = 1 ∨ sg 3 = 1) ∧ (sg 0 = 2 ∨ sg 1 = 2 ∨ sg 2 = 2 ∨ sg 3 = 2) ∧ (sg 0 = 3 ∨ sg 1 = 3 ∨ sg 2 = 3 ∨ sg 3 = 3))
theorem own_perm {j3 j2 j1 : Nat} (h3 : j3 < 4) (h2 : j2 < 3) (h1 : j1 < 2) : own_Perm (own_sw (own_sw (own_sw (fun i => i) 3 j3) 2 j2) 1 j1) := by
  rcases (by omega : j3 = 0 ∨ j3 = 1 ∨ j3 = 2 ∨ j3 = 3) with rfl | rfl | rfl | rfl <;> rcases (by omega : j2 = 0 ∨ j2 = 1 ∨ j2 = 2) with rfl | rfl | rfl <;> rcases (by omega : j1 = 0 ∨ j1 = 1) with rfl | rfl <;>
    exact ⟨fun g => by simp [own_sw, own_upd] <;> omega, by decide, by decide, by decide⟩
def own_pos (sg : Nat → Nat) : Nat → Int32 := own_upd (own_upd (own_upd (own_upd (fun _ => (0 : Int32)) (sg 0) (0 : Int32)) (sg 1) (1 : Int32)) (sg 2) (2 : Int32)) (sg 3) (3 : Int32)
theorem own_pos_v {sg : Nat → Nat} (H : own_Perm sg) : own_pos sg (sg 0) = 0 ∧ own_pos sg (sg 1) = 1 ∧ own_pos sg (sg 2) = 2 ∧ own_pos sg (sg 3) = 3 := by
  obtain ⟨-, -, ⟨n01, n02, n03, n12, n13, n23⟩, -⟩ := H
  unfold own_pos
  exact ⟨by rw [own_upd_miss _ _ n03, own_upd_miss _ _ n02, own_upd_miss _ _ n01, own_upd_hit], by rw [own_upd_miss _ _ n13, own_upd_miss _ _ n12, own_upd_hit], by rw [own_upd_miss _ _ n23, own_upd_hit], by rw [own_upd_hit]⟩
theorem own_rk_v {be sz : Nat → Int32} {sg : Nat → Nat} (H : own_Perm sg) : own_rk be sz sg 4 (sg 0) = own_rv be sz sg 0 ∧ own_rk be sz sg 4 (sg 1) = own_rv be sz sg 1 ∧ own_rk be sz sg 4 (sg 2) = own_rv be sz sg 2 ∧ own_rk be sz sg 4 (sg 3) = own_rv be sz sg 3 := by
  obtain ⟨-, -, ⟨n01, n02, n03, n12, n13, n23⟩, -⟩ := H
  simp only [own_rk]
  exact ⟨by rw [own_upd_miss _ _ n03, own_upd_miss _ _ n02, own_upd_miss _ _ n01, own_upd_hit], by rw [own_upd_miss _ _ n13, own_upd_miss _ _ n12, own_upd_hit], by rw [own_upd_miss _ _ n23, own_upd_hit], by rw [own_upd_hit]⟩
theorem own_one {be : Nat → Int32} {sg : Nat → Nat} (H : own_Perm sg) {k : Nat} (hk : k < 4) (hr : own_rk be (own_sz be) sg 4 (sg k) = own_rv be (own_sz be) sg k)
    (hG : (if be (sg 0) = be (sg k) ∧ own_pos sg (sg 0) < own_pos sg (sg k) then (1 : Int) else 0) + (if be (sg 1) = be (sg k) ∧ own_pos sg (sg 1) < own_pos sg (sg k) then 1 else 0) + (if be (sg 2) = be (sg k) ∧ own_pos sg (sg 2) < own_pos sg (sg k) then 1 else 0) + (if be (sg 3) = be (sg k) ∧ own_pos sg (sg 3) < own_pos sg (sg k) then 1 else 0) = own_cs be sg (be (sg k)) k) :
    own_rk be (own_sz be) sg 4 (sg k) = own_expd be (own_pos sg) (sg k) := by
  rw [hr]
  unfold own_rv own_expd
  by_cases c : be (sg k) < 0
  · rw [if_pos c, if_pos c]
  · rw [if_neg c, if_neg c]
    have hP := H.1 (fun e => if be e = be (sg k) ∧ own_pos sg e < own_pos sg (sg k) then (1 : Int) else 0)
    have B := fun e => own_bef_v (be := be) (pi := own_pos sg) (d := sg k) (e := e) c
    have G := fun e => (by split <;> omega : 0 ≤ (if be e = be (sg k) ∧ own_pos sg e < own_pos sg (sg k) then (1 : Int) else 0) ∧ (if be e = be (sg k) ∧ own_pos sg e < own_pos sg (sg k) then (1 : Int) else 0) ≤ 1)
    have Lb := fun e => own_lt_b be (be (sg k)).toInt e
    have c' := c
    rw [Int32.lt_iff_toInt_lt, own_i0] at c'
    have pv := own_ps_v be (be (sg k)).toInt.toNat
    rw [show (((be (sg k)).toInt.toNat : Nat) : Int) = (be (sg k)).toInt by omega] at pv
    have cv := own_cnt_v be sg (be (sg k)) k (by omega)
    have cb := own_cs_b be sg (be (sg k)) k
    have L0 := Lb 0; have L1 := Lb 1; have L2 := Lb 2; have L3 := Lb 3
    have G0 := G 0; have G1 := G 1; have G2 := G 2; have G3 := G 3
    have s1 := own_addS (B 0) (B 1) (by omega) (by omega)
    have s2 := own_addS s1 (B 2) (by omega) (by omega)
    have s3 := own_addS s2 (B 3) (by omega) (by omega)
    rw [← Int32.toInt_inj, s3, own_addS pv cv (by omega) (by omega)]
    omega
theorem own_all {be : Nat → Int32} {sg : Nat → Nat} (H : own_Perm sg) {k : Nat} (hk : k < 4) : own_rk be (own_sz be) sg 4 (sg k) = own_expd be (own_pos sg) (sg k) := by
  obtain ⟨q0, q1, q2, q3⟩ := own_pos_v H
  obtain ⟨r0, r1, r2, r3⟩ := own_rk_v (be := be) (sz := own_sz be) H
  have d01 : (0 : Int32) < 1 := by decide
  have d02 : (0 : Int32) < 2 := by decide
  have d03 : (0 : Int32) < 3 := by decide
  have d12 : (1 : Int32) < 2 := by decide
  have d13 : (1 : Int32) < 3 := by decide
  have d23 : (2 : Int32) < 3 := by decide
  have e10 : ¬ (1 : Int32) < 0 := by decide
  have e20 : ¬ (2 : Int32) < 0 := by decide
  have e30 : ¬ (3 : Int32) < 0 := by decide
  have e21 : ¬ (2 : Int32) < 1 := by decide
  have e31 : ¬ (3 : Int32) < 1 := by decide
  have e32 : ¬ (3 : Int32) < 2 := by decide
  have e00 : ¬ (0 : Int32) < 0 := by decide
  have e11 : ¬ (1 : Int32) < 1 := by decide
  have e22 : ¬ (2 : Int32) < 2 := by decide
  have e33 : ¬ (3 : Int32) < 3 := by decide
  rcases (by omega : k = 0 ∨ k = 1 ∨ k = 2 ∨ k = 3) with rfl | rfl | rfl | rfl
  · exact own_one H hk r0 (by rw [q0, q1, q2, q3]; simp only [e00, e10, e20, e30, and_false, if_false, own_cs]; rfl)
  · exact own_one H hk r1 (by rw [q0, q1, q2, q3]; simp only [d01, e11, e21, e31, and_false, and_true, if_false, own_cs]; omega)
  · exact own_one H hk r2 (by rw [q0, q1, q2, q3]; simp only [d02, d12, e22, e32, and_false, and_true, if_false, own_cs]; omega)
  · exact own_one H hk r3 (by rw [q0, q1, q2, q3]; simp only [d03, d13, d23, e33, and_false, and_true, if_false, own_cs]; omega)
theorem own_every {be : Nat → Int32} {sg : Nat → Nat} (H : own_Perm sg) : own_rk be (own_sz be) sg 4 0 = own_expd be (own_pos sg) 0 ∧ own_rk be (own_sz be) sg 4 1 = own_expd be (own_pos sg) 1 ∧ own_rk be (own_sz be) sg 4 2 = own_expd be (own_pos sg) 2 ∧ own_rk be (own_sz be) sg 4 3 = own_expd be (own_pos sg) 3 := by
  have A0 := own_all (be := be) H (k := 0) (by omega)
  have A1 := own_all (be := be) H (k := 1) (by omega)
  have A2 := own_all (be := be) H (k := 2) (by omega)
  have A3 := own_all (be := be) H (k := 3) (by omega)
  obtain ⟨-, -, -, s0, s1, s2, s3⟩ := H
  have f : ∀ d, (sg 0 = d ∨ sg 1 = d ∨ sg 2 = d ∨ sg 3 = d) → own_rk be (own_sz be) sg 4 d = own_expd be (own_pos sg) d := fun d h => by
    rcases h with h | h | h | h
    · rw [← h]; exact A0
    · rw [← h]; exact A1
    · rw [← h]; exact A2
    · rw [← h]; exact A3
  exact ⟨f 0 s0, f 1 s1, f 2 s2, f 3 s3⟩
theorem own_sw_map (f : Nat → Nat) (i j : Nat) : own_sw (fun k => (f k).toInt32) i j = fun k => (own_sw f i j k).toInt32 := by
  funext k; simp only [own_sw, own_upd]; split <;> (try split) <;> rfl
theorem own_s1_up {sz : Nat → Int32} {i : Nat} : ∀ j, own_upd (own_s1 sz (i + 1)) (i + 1) (own_ps sz i + sz i) j = own_s1 sz (i + 1 + 1) j := fun j => by
  unfold own_upd own_s1
  by_cases a : j = i + 1
  · rw [if_pos a, if_pos (by omega), a]; rfl
  · rw [if_neg a]
    by_cases b : j < i + 1
    · rw [if_pos b, if_pos (by omega)]
    · rw [if_neg b, if_neg (by omega)]
theorem own_sf_0 {be sz : Nat → Int32} {sg : Nat → Nat} {n j : Nat} (h : j < n) : own_s1 sz n j = own_sf be sz sg 0 j := by
  unfold own_s1 own_sf; rw [if_pos h]; simp [own_cnt]
theorem own_sf_no {be sz : Nat → Int32} {sg : Nat → Nat} {i j : Nat} (h : be (sg i) < 0) (hj : j < 100) : own_sf be sz sg (i + 1) j = own_sf be sz sg i j := by
  unfold own_sf
  rw [own_cnt, if_neg]
  intro q
  rw [q, Int32.lt_iff_toInt_lt, len_toInt (by omega), own_i0] at h
  omega
theorem own_sf_yes {be sz : Nat → Int32} {sg : Nat → Nat} {i j x : Nat} (h : (be (sg i)).toInt = (x : Int)) (hj : j < 100) : own_sf be sz sg (i + 1) j = own_upd (own_sf be sz sg i) x (own_sf be sz sg i x + 1) j := by
  by_cases a : j = x
  · subst a
    rw [own_upd_hit]
    have e : be (sg i) = j.toInt32 := by rw [← Int32.toInt_inj, h, len_toInt (by omega)]
    unfold own_sf
    rw [own_cnt, if_pos e, Int32.add_assoc]
  · rw [own_upd_miss _ _ a]
    unfold own_sf
    rw [own_cnt, if_neg]
    intro q
    rw [q, len_toInt (by omega)] at h
    omega
theorem own_rv_yes {be sz : Nat → Int32} {sg : Nat → Nat} {i x : Nat} (hn : ¬ be (sg i) < 0) (h : (be (sg i)).toInt = (x : Int)) (hx : x < 100) : own_sf be sz sg i x = own_rv be sz sg i := by
  have e : be (sg i) = x.toInt32 := by rw [← Int32.toInt_inj, h, len_toInt (by omega)]
  unfold own_rv own_sf
  rw [if_neg hn, h, Int.toNat_natCast, e]
theorem own_rv_no {be sz : Nat → Int32} {sg : Nat → Nat} {i : Nat} (hn : be (sg i) < 0) : (-1 : Int32) = own_rv be sz sg i := by
  unfold own_rv; rw [if_pos hn]
theorem own_dupX2 {tb : Tables} [Ours tb] {e : Env} {below : List Frame} {T target : State} {m : MethodId} {c : Code} {g : JFrame} (h : At T m c below) (hx : tb.exec = Jvm.exec) (hg : g.method = m) {x y z : Value} {rest : List Value} (hd : decode c.code g.pc = .ok (.dup_x2, 1)) (hs : g.stack = x :: y :: z :: rest) (hc : x.category = 1) (hc' : y.category = 1) (hc2 : z.category = 1)
    (hr : Steps tb e below (T.setTop { g with pc := g.pc + 1, stack := x :: y :: z :: x :: rest }) target) : Steps tb e below (T.setTop g) target := by
  subst hg
  jvm_step h [h.top, hx, hd, hs, hc, hc', hc2]
  exact hr
theorem own_add {a b : Int32} {i j : Nat} (ha : a.toInt = (i : Int)) (hb : b.toInt = (j : Int)) (h : i + j < 2 ^ 31) : (a + b).toInt = ((i + j : Nat) : Int) := by
  have a1 := c_iadd a b
  have r := rng32 (a + b)
  omega
theorem own_pred {a : Int32} {i : Nat} (ha : a.toInt = ((i + 1 : Nat) : Int)) : (a - (1 : Int32)).toInt = (i : Int) := by
  have a1 := c_isub a 1
  have r := rng32 (a - 1); have r' := rng32 a
  rw [own_i1] at a1
  omega
theorem own_d1_0 : decode method_3_code 0 = .ok (.iload_n 1, 1) := by decide +kernel
theorem own_d1_1 : decode method_3_code 1 = .ok (.ifCond .lt 11, 3) := by decide +kernel
theorem own_d1_4 : decode method_3_code 4 = .ok (.aload_n 0, 1) := by decide +kernel
theorem own_d1_5 : decode method_3_code 5 = .ok (.iload_n 1, 1) := by decide +kernel
theorem own_d1_6 : decode method_3_code 6 = .ok (.aload_n 0, 1) := by decide +kernel
theorem own_d1_7 : decode method_3_code 7 = .ok (.iload_n 1, 1) := by decide +kernel
theorem own_d1_8 : decode method_3_code 8 = .ok (.iaload, 1) := by decide +kernel
theorem own_d1_9 : decode method_3_code 9 = .ok (.iconst 1, 1) := by decide +kernel
theorem own_d1_10 : decode method_3_code 10 = .ok (.iadd, 1) := by decide +kernel
theorem own_d1_11 : decode method_3_code 11 = .ok (.iastore, 1) := by decide +kernel
theorem own_d1_12 : decode method_3_code 12 = .ok (.return_, 1) := by decide +kernel
theorem own_pn0 : plainName "com/example/rankbucket/rankbucket/BucketingRanksPinLaw" = true := by first | (simp [plainName, overriddenIn]; done) | decide +kernel
theorem own_ef1 (m : MethodId) (a1 : Addr) (p1 : Int32) : entryFrame m #[(.ref a1), (.int p1)] 2 = mkF m 0 #[.val (.ref a1), .val (.int p1)] [] := by first | (simp [entryFrame, mkF, argsToLocals, Value.category]; done) | rfl
def own_Q1 (Z : State) (a1 : Addr) (p1 : Int32) (f : Nat → Int32) (nb : Nat) (h0 : Heap) (n0 : Nat) (v : Option Value) (h : Heap) (L : List Loc) : Prop := v = none ∧ Fr n0 L ∧ Keep h0 h [a1] ∧ own_AI Z h a1 .int nb (own_inc f p1)
set_option maxRecDepth 65536 in
set_option maxHeartbeats 40000000 in
theorem own_rm1 (l : Launch) (Z : State) (a0 : Array Value) (hw : ∀ d ∈ tables_1, d.before a0 Z = true) (ws : List Jvm.Cond) (a1 : Addr) (p1 : Int32) (f : Nat → Int32) (nb : Nat) (h0 : Heap) (n0 : Nat) (Z0 : n0 ≤ h0.size) (pA : own_AI Z h0 a1 .int nb f) (pg : n0 ≤ a1) (hb_ : p1.toInt < (nb : Int)) :
    MetFree l (⟨"com/example/rankbucket/rankbucket/BucketingRanksPinLaw", "count", "([IS)V"⟩ : MethodName) (head1 (Jvm.Cond.code (⟨"com/example/rankbucket/rankbucket/BucketingRanksPinLaw", "count", "([IS)V"⟩ : MethodName) method_3_code 2 none :: ws) ({ frames := 0, cells := 0, slots := 0, locals := 0 } : Room)) (fun a U => a = #[(.ref a1), (.int p1)] ∧ Z.Warmed39 U.vm ∧ U.heap = h0) (fun _ _ _ _ _ => True) (fun _ U o U' => ∃ v L, o = .returned v ∧ own_Q1 Z a1 p1 f nb h0 n0 v U'.heap L ∧ FrameEnd U o U' L ({ frames := 0, cells := 0, slots := 0, locals := 0 } : Room).cells ({ frames := 0, cells := 0, slots := 0, locals := 0 } : Room).slots) := by
  refine MetFree.of_bodySF (plainFor_of_name own_pn0) hisR ?_
  intro p e s m args below meth c s₁ Bd hml0 hP hK
  obtain ⟨rfl, hZ, hh⟩ := hP
  have hx := Bd.exec
  have hby := Bd.bytes
  have hml : c.maxLocals = 2 := hml0
  have hown : s.vm.findClass "com/example/rankbucket/rankbucket/BucketingRanksPinLaw" = some m.cls := findClass_of_methodNamed Bd.named
  have hnm := (name_of_methodNamed Bd.named Bd.method).1
  have X0 : Stand p l e ({ frames := 0, cells := 0, slots := 0, locals := 0 } : Room) s m #[(.ref a1), (.int p1)] below meth c s₁ [] 0 0 := Stand.of_body Bd
  have e0 : s₁.heap = h0 := by rw [← hh, Bd.state]; rfl
  have N0 := Fr.nil n0
  refine own_nm (st := s₁.setTop (entryFrame m #[(.ref a1), (.int p1)] 2)) fun P fin => ?_
  refine own_fwd (fun tt kt => castTop (own_ef1 m a1 p1) kt) ?_
  show own_R p.tables e below P (s₁.setTop (mkF m 0 #[.val (.ref a1), .val (.int p1)] []))
  have K0 := Keep.refl h0 [a1]
  refine own_fwd (fun tt kt => XS.iloadN X0.here hx rfl (hb hby own_d1_0) rfl kt) ?_
  show own_R p.tables e below P (s₁.setTop (mkF m 1 #[.val (.ref a1), .val (.int p1)] [(.int p1)]))
  by_cases hc1 : p1 < (0 : Int32)
  · refine own_fwd (fun tt kt => XS.ifYes X0.here hx rfl (pc0 := 1) (pc' := 12) rfl (hb hby own_d1_1) rfl ((if0 _ _).trans (tlt hc1).1) (by decide) (by decide) kt) ?_
    show own_R p.tables e below P (s₁.setTop (mkF m 12 #[.val (.ref a1), .val (.int p1)] []))
    have hc' := hc1
    rw [Int32.lt_iff_toInt_lt, own_i0] at hc'
    obtain ⟨fs2, hr2, hrun2, hended2, hW2, hsame2⟩ := X0.leave (v := none) (fun _ => rfl)
    refine ⟨_, _, X0.returnOut hx Bd.returns (hb hby own_d1_12) hr2, fin _ _ ⟨hrun2, hended2, _, _, rfl, ?_, ⟨_, rfl⟩, hW2, hsame2.mono (by decide) (by decide)⟩⟩
    show own_Q1 Z a1 p1 f nb h0 n0 _ s₁.heap _
    rw [e0]
    exact ⟨rfl, N0, K0, pA.cong fun i _ => by rw [own_inc, if_neg (by omega)]⟩
  · refine own_fwd (fun tt kt => XS.ifNo X0.here hx rfl (hb hby own_d1_1) rfl ((if0 _ _).trans (flt hc1).1) kt) ?_
    show own_R p.tables e below P (s₁.setTop (mkF m 4 #[.val (.ref a1), .val (.int p1)] []))
    have hc' := hc1
    rw [Int32.lt_iff_toInt_lt, own_i0] at hc'
    refine own_fwd (fun tt kt => XS.aloadN X0.here hx rfl (hb hby own_d1_4) rfl rfl kt) ?_
    show own_R p.tables e below P (s₁.setTop (mkF m 5 #[.val (.ref a1), .val (.int p1)] [(.ref a1)]))
    refine own_fwd (fun tt kt => XS.iloadN X0.here hx rfl (hb hby own_d1_5) rfl kt) ?_
    show own_R p.tables e below P (s₁.setTop (mkF m 6 #[.val (.ref a1), .val (.int p1)] [(.int p1), (.ref a1)]))
    refine own_fwd (fun tt kt => XS.aloadN X0.here hx rfl (hb hby own_d1_6) rfl rfl kt) ?_
    show own_R p.tables e below P (s₁.setTop (mkF m 7 #[.val (.ref a1), .val (.int p1)] [(.ref a1), (.int p1), (.ref a1)]))
    refine own_fwd (fun tt kt => XS.iloadN X0.here hx rfl (hb hby own_d1_7) rfl kt) ?_
    show own_R p.tables e below P (s₁.setTop (mkF m 8 #[.val (.ref a1), .val (.int p1)] [(.int p1), (.ref a1), (.int p1), (.ref a1)]))
    refine own_fwd (own_ldI X0 hx hZ e0 pA (j := p1) (p1.toInt.toNat) (by omega) (by omega) (g := (mkF m 8 #[.val (.ref a1), .val (.int p1)] [(.int p1), (.ref a1), (.int p1), (.ref a1)])) rfl rfl (hb hby own_d1_8)) ?_
    show own_R p.tables e below P (s₁.setTop (mkF m 9 #[.val (.ref a1), .val (.int p1)] [(.int (f (p1.toInt.toNat))), (.int p1), (.ref a1)]))
    refine own_fwd (fun tt kt => XS.iconst X0.here hx rfl (hb hby own_d1_9) kt) ?_
    show own_R p.tables e below P (s₁.setTop (mkF m 10 #[.val (.ref a1), .val (.int p1)] [(.int (1 : Int32)), (.int (f (p1.toInt.toNat))), (.int p1), (.ref a1)]))
    refine own_fwd (fun tt kt => XS.iadd X0.here hx rfl (hb hby own_d1_10) rfl kt) ?_
    show own_R p.tables e below P (s₁.setTop (mkF m 11 #[.val (.ref a1), .val (.int p1)] [(.int ((f (p1.toInt.toNat)) + (1 : Int32))), (.int p1), (.ref a1)]))
    obtain ⟨T3, h3, X3, e3, W3, A3_, st3⟩ := own_stI X0 hx hZ e0 pA (j := p1) (p1.toInt.toNat) (by omega) (by omega) (g := (mkF m 11 #[.val (.ref a1), .val (.int p1)] [(.int ((f (p1.toInt.toNat)) + (1 : Int32))), (.int p1), (.ref a1)])) rfl rfl (hb hby own_d1_11)
    have N3 := Fr.snoc X3 N0 pg
    have Z3 : n0 ≤ h3.size := by rw [W3.size]; exact Z0
    have K3 := K0.wr W3 (Or.inl (List.mem_of_getElem? (i := 0) rfl))
    have Y3 : h0.size ≤ h3.size := by rw [W3.size]; exact (Nat.le_refl h0.size)
    refine own_fwd st3 ?_
    show own_R p.tables e below P (T3.setTop (mkF m 12 #[.val (.ref a1), .val (.int p1)] []))
    obtain ⟨fs4, hr4, hrun4, hended4, hW4, hsame4⟩ := X3.leave (v := none) (fun _ => rfl)
    refine ⟨_, _, X3.returnOut hx Bd.returns (hb hby own_d1_12) hr4, fin _ _ ⟨hrun4, hended4, _, _, rfl, ?_, ⟨_, rfl⟩, hW4, hsame4.mono (by decide) (by decide)⟩⟩
    show own_Q1 Z a1 p1 f nb h0 n0 _ T3.heap _
    rw [e3]
    exact ⟨rfl, N3, K3, A3_.cong fun i _ => by
      unfold own_inc own_upd
      by_cases c : i = p1.toInt.toNat
      · rw [if_pos c, if_pos (by omega), c]
      · rw [if_neg c, if_neg (by omega)]⟩
theorem own_d2_0 : decode method_4_code 0 = .ok (.aload_n 0, 1) := by decide +kernel
theorem own_d2_1 : decode method_4_code 1 = .ok (.iload_n 1, 1) := by decide +kernel
theorem own_d2_2 : decode method_4_code 2 = .ok (.iaload, 1) := by decide +kernel
theorem own_d2_3 : decode method_4_code 3 = .ok (.istore_n 3, 1) := by decide +kernel
theorem own_d2_4 : decode method_4_code 4 = .ok (.aload_n 0, 1) := by decide +kernel
theorem own_d2_5 : decode method_4_code 5 = .ok (.iload_n 1, 1) := by decide +kernel
theorem own_d2_6 : decode method_4_code 6 = .ok (.aload_n 0, 1) := by decide +kernel
theorem own_d2_7 : decode method_4_code 7 = .ok (.iload_n 2, 1) := by decide +kernel
theorem own_d2_8 : decode method_4_code 8 = .ok (.iaload, 1) := by decide +kernel
theorem own_d2_9 : decode method_4_code 9 = .ok (.iastore, 1) := by decide +kernel
theorem own_d2_10 : decode method_4_code 10 = .ok (.aload_n 0, 1) := by decide +kernel
theorem own_d2_11 : decode method_4_code 11 = .ok (.iload_n 2, 1) := by decide +kernel
theorem own_d2_12 : decode method_4_code 12 = .ok (.iload_n 3, 1) := by decide +kernel
theorem own_d2_13 : decode method_4_code 13 = .ok (.iastore, 1) := by decide +kernel
theorem own_d2_14 : decode method_4_code 14 = .ok (.return_, 1) := by decide +kernel
theorem own_ef2 (m : MethodId) (a1 : Addr) (p1 : Int32) (p2 : Int32) : entryFrame m #[(.ref a1), (.int p1), (.int p2)] 4 = mkF m 0 #[.val (.ref a1), .val (.int p1), .val (.int p2), .unset] [] := by first | (simp [entryFrame, mkF, argsToLocals, Value.category]; done) | rfl
def own_Q2 (Z : State) (a1 : Addr) (p1 p2 : Int32) (f : Nat → Int32) (i j : Nat) (h0 : Heap) (n0 : Nat) (v : Option Value) (h : Heap) (L : List Loc) : Prop := v = none ∧ Fr n0 L ∧ Keep h0 h [a1] ∧ own_AI Z h a1 .int 4 (own_sw f i j)
set_option maxRecDepth 65536 in
set_option maxHeartbeats 40000000 in
theorem own_rm2 (l : Launch) (Z : State) (a0 : Array Value) (hw : ∀ d ∈ tables_1, d.before a0 Z = true) (ws : List Jvm.Cond) (a1 : Addr) (p1 p2 : Int32) (f : Nat → Int32) (i j : Nat) (h0 : Heap) (n0 : Nat) (Z0 : n0 ≤ h0.size) (pA : own_AI Z h0 a1 .int 4 f) (pg : n0 ≤ a1) (hi : p1.toInt = (i : Int)) (hj : p2.toInt = (j : Int)) (bi : i < 4) (bj : j < 4) :
    MetFree l (⟨"com/example/rankbucket/rankbucket/BucketingRanksPinLaw", "swap", "([III)V"⟩ : MethodName) (head1 (Jvm.Cond.code (⟨"com/example/rankbucket/rankbucket/BucketingRanksPinLaw", "swap", "([III)V"⟩ : MethodName) method_4_code 4 none :: ws) ({ frames := 0, cells := 0, slots := 0, locals := 0 } : Room)) (fun a U => a = #[(.ref a1), (.int p1), (.int p2)] ∧ Z.Warmed39 U.vm ∧ U.heap = h0) (fun _ _ _ _ _ => True) (fun _ U o U' => ∃ v L, o = .returned v ∧ own_Q2 Z a1 p1 p2 f i j h0 n0 v U'.heap L ∧ FrameEnd U o U' L ({ frames := 0, cells := 0, slots := 0, locals := 0 } : Room).cells ({ frames := 0, cells := 0, slots := 0, locals := 0 } : Room).slots) := by
  refine MetFree.of_bodySF (plainFor_of_name own_pn0) hisR ?_
  intro p e s m args below meth c s₁ Bd hml0 hP hK
  obtain ⟨rfl, hZ, hh⟩ := hP
  have hx := Bd.exec
  have hby := Bd.bytes
  have hml : c.maxLocals = 4 := hml0
  have hown : s.vm.findClass "com/example/rankbucket/rankbucket/BucketingRanksPinLaw" = some m.cls := findClass_of_methodNamed Bd.named
  have hnm := (name_of_methodNamed Bd.named Bd.method).1
  have X0 : Stand p l e ({ frames := 0, cells := 0, slots := 0, locals := 0 } : Room) s m #[(.ref a1), (.int p1), (.int p2)] below meth c s₁ [] 0 0 := Stand.of_body Bd
  have e0 : s₁.heap = h0 := by rw [← hh, Bd.state]; rfl
  have N0 := Fr.nil n0
  refine own_nm (st := s₁.setTop (entryFrame m #[(.ref a1), (.int p1), (.int p2)] 4)) fun P fin => ?_
  refine own_fwd (fun tt kt => castTop (own_ef2 m a1 p1 p2) kt) ?_
  show own_R p.tables e below P (s₁.setTop (mkF m 0 #[.val (.ref a1), .val (.int p1), .val (.int p2), .unset] []))
  have K0 := Keep.refl h0 [a1]
  refine own_fwd (fun tt kt => XS.aloadN X0.here hx rfl (hb hby own_d2_0) rfl rfl kt) ?_
  show own_R p.tables e below P (s₁.setTop (mkF m 1 #[.val (.ref a1), .val (.int p1), .val (.int p2), .unset] [(.ref a1)]))
  refine own_fwd (fun tt kt => XS.iloadN X0.here hx rfl (hb hby own_d2_1) rfl kt) ?_
  show own_R p.tables e below P (s₁.setTop (mkF m 2 #[.val (.ref a1), .val (.int p1), .val (.int p2), .unset] [(.int p1), (.ref a1)]))
  refine own_fwd (own_ldI X0 hx hZ e0 pA (j := p1) i hi bi (g := (mkF m 2 #[.val (.ref a1), .val (.int p1), .val (.int p2), .unset] [(.int p1), (.ref a1)])) rfl rfl (hb hby own_d2_2)) ?_
  show own_R p.tables e below P (s₁.setTop (mkF m 3 #[.val (.ref a1), .val (.int p1), .val (.int p2), .unset] [(.int (f i))]))
  refine own_fwd (fun tt kt => XS.istoreN X0.here hx rfl (hb hby own_d2_3) rfl (l' := #[.val (.ref a1), .val (.int p1), .val (.int p2), .val (.int (f i))]) rfl kt) ?_
  show own_R p.tables e below P (s₁.setTop (mkF m 4 #[.val (.ref a1), .val (.int p1), .val (.int p2), .val (.int (f i))] []))
  refine own_fwd (fun tt kt => XS.aloadN X0.here hx rfl (hb hby own_d2_4) rfl rfl kt) ?_
  show own_R p.tables e below P (s₁.setTop (mkF m 5 #[.val (.ref a1), .val (.int p1), .val (.int p2), .val (.int (f i))] [(.ref a1)]))
  refine own_fwd (fun tt kt => XS.iloadN X0.here hx rfl (hb hby own_d2_5) rfl kt) ?_
  show own_R p.tables e below P (s₁.setTop (mkF m 6 #[.val (.ref a1), .val (.int p1), .val (.int p2), .val (.int (f i))] [(.int p1), (.ref a1)]))
  refine own_fwd (fun tt kt => XS.aloadN X0.here hx rfl (hb hby own_d2_6) rfl rfl kt) ?_
  show own_R p.tables e below P (s₁.setTop (mkF m 7 #[.val (.ref a1), .val (.int p1), .val (.int p2), .val (.int (f i))] [(.ref a1), (.int p1), (.ref a1)]))
  refine own_fwd (fun tt kt => XS.iloadN X0.here hx rfl (hb hby own_d2_7) rfl kt) ?_
  show own_R p.tables e below P (s₁.setTop (mkF m 8 #[.val (.ref a1), .val (.int p1), .val (.int p2), .val (.int (f i))] [(.int p2), (.ref a1), (.int p1), (.ref a1)]))
  refine own_fwd (own_ldI X0 hx hZ e0 pA (j := p2) j hj bj (g := (mkF m 8 #[.val (.ref a1), .val (.int p1), .val (.int p2), .val (.int (f i))] [(.int p2), (.ref a1), (.int p1), (.ref a1)])) rfl rfl (hb hby own_d2_8)) ?_
  show own_R p.tables e below P (s₁.setTop (mkF m 9 #[.val (.ref a1), .val (.int p1), .val (.int p2), .val (.int (f i))] [(.int (f j)), (.int p1), (.ref a1)]))
  obtain ⟨T5, h5, X5, e5, W5, A5_, st5⟩ := own_stI X0 hx hZ e0 pA (j := p1) i hi bi (g := (mkF m 9 #[.val (.ref a1), .val (.int p1), .val (.int p2), .val (.int (f i))] [(.int (f j)), (.int p1), (.ref a1)])) rfl rfl (hb hby own_d2_9)
  have N5 := Fr.snoc X5 N0 pg
  have Z5 : n0 ≤ h5.size := by rw [W5.size]; exact Z0
  have K5 := K0.wr W5 (Or.inl (List.mem_of_getElem? (i := 0) rfl))
  have Y5 : h0.size ≤ h5.size := by rw [W5.size]; exact (Nat.le_refl h0.size)
  refine own_fwd st5 ?_
  show own_R p.tables e below P (T5.setTop (mkF m 10 #[.val (.ref a1), .val (.int p1), .val (.int p2), .val (.int (f i))] []))
  refine own_fwd (fun tt kt => XS.aloadN X5.here hx rfl (hb hby own_d2_10) rfl rfl kt) ?_
  show own_R p.tables e below P (T5.setTop (mkF m 11 #[.val (.ref a1), .val (.int p1), .val (.int p2), .val (.int (f i))] [(.ref a1)]))
  refine own_fwd (fun tt kt => XS.iloadN X5.here hx rfl (hb hby own_d2_11) rfl kt) ?_
  show own_R p.tables e below P (T5.setTop (mkF m 12 #[.val (.ref a1), .val (.int p1), .val (.int p2), .val (.int (f i))] [(.int p2), (.ref a1)]))
  refine own_fwd (fun tt kt => XS.iloadN X5.here hx rfl (hb hby own_d2_12) rfl kt) ?_
  show own_R p.tables e below P (T5.setTop (mkF m 13 #[.val (.ref a1), .val (.int p1), .val (.int p2), .val (.int (f i))] [(.int (f i)), (.int p2), (.ref a1)]))
  obtain ⟨T6, h6, X6, e6, W6, A6_, st6⟩ := own_stI X5 hx hZ e5 A5_ (j := p2) j hj bj (g := (mkF m 13 #[.val (.ref a1), .val (.int p1), .val (.int p2), .val (.int (f i))] [(.int (f i)), (.int p2), (.ref a1)])) rfl rfl (hb hby own_d2_13)
  have N6 := Fr.snoc X6 N5 pg
  have Z6 : n0 ≤ h6.size := by rw [W6.size]; exact Z5
  have K6 := K5.wr W6 (Or.inl (List.mem_of_getElem? (i := 0) rfl))
  have Y6 : h0.size ≤ h6.size := by rw [W6.size]; exact Y5
  refine own_fwd st6 ?_
  show own_R p.tables e below P (T6.setTop (mkF m 14 #[.val (.ref a1), .val (.int p1), .val (.int p2), .val (.int (f i))] []))
  obtain ⟨fs7, hr7, hrun7, hended7, hW7, hsame7⟩ := X6.leave (v := none) (fun _ => rfl)
  refine ⟨_, _, X6.returnOut hx Bd.returns (hb hby own_d2_14) hr7, fin _ _ ⟨hrun7, hended7, _, _, rfl, ?_, ⟨_, rfl⟩, hW7, hsame7.mono (by decide) (by decide)⟩⟩
  show own_Q2 Z a1 p1 p2 f i j h0 n0 _ T6.heap _
  rw [e6]
  exact ⟨rfl, N6, K6, A6_⟩
theorem own_d5_0 : decode method_6_code 0 = .ok (.aload_n 0, 1) := by decide +kernel
theorem own_d5_1 : decode method_6_code 1 = .ok (.iload_n 3, 1) := by decide +kernel
theorem own_d5_2 : decode method_6_code 2 = .ok (.saload, 1) := by decide +kernel
theorem own_d5_3 : decode method_6_code 3 = .ok (.ifCond .ge 5, 3) := by decide +kernel
theorem own_d5_6 : decode method_6_code 6 = .ok (.iconst 0, 1) := by decide +kernel
theorem own_d5_7 : decode method_6_code 7 = .ok (.ireturn, 1) := by decide +kernel
theorem own_d5_8 : decode method_6_code 8 = .ok (.aload_n 0, 1) := by decide +kernel
theorem own_d5_9 : decode method_6_code 9 = .ok (.iload_n 3, 1) := by decide +kernel
theorem own_d5_10 : decode method_6_code 10 = .ok (.saload, 1) := by decide +kernel
theorem own_d5_11 : decode method_6_code 11 = .ok (.aload_n 0, 1) := by decide +kernel
theorem own_d5_12 : decode method_6_code 12 = .ok (.iload_n 2, 1) := by decide +kernel
theorem own_d5_13 : decode method_6_code 13 = .ok (.saload, 1) := by decide +kernel
theorem own_d5_14 : decode method_6_code 14 = .ok (.if_icmp .ge 5, 3) := by decide +kernel
theorem own_d5_17 : decode method_6_code 17 = .ok (.iconst 1, 1) := by decide +kernel
theorem own_d5_18 : decode method_6_code 18 = .ok (.ireturn, 1) := by decide +kernel
theorem own_d5_19 : decode method_6_code 19 = .ok (.aload_n 0, 1) := by decide +kernel
theorem own_d5_20 : decode method_6_code 20 = .ok (.iload_n 3, 1) := by decide +kernel
theorem own_d5_21 : decode method_6_code 21 = .ok (.saload, 1) := by decide +kernel
theorem own_d5_22 : decode method_6_code 22 = .ok (.aload_n 0, 1) := by decide +kernel
theorem own_d5_23 : decode method_6_code 23 = .ok (.iload_n 2, 1) := by decide +kernel
theorem own_d5_24 : decode method_6_code 24 = .ok (.saload, 1) := by decide +kernel
theorem own_d5_25 : decode method_6_code 25 = .ok (.if_icmp .ne 14, 3) := by decide +kernel
theorem own_d5_28 : decode method_6_code 28 = .ok (.aload_n 1, 1) := by decide +kernel
theorem own_d5_29 : decode method_6_code 29 = .ok (.iload_n 3, 1) := by decide +kernel
theorem own_d5_30 : decode method_6_code 30 = .ok (.iaload, 1) := by decide +kernel
theorem own_d5_31 : decode method_6_code 31 = .ok (.aload_n 1, 1) := by decide +kernel
theorem own_d5_32 : decode method_6_code 32 = .ok (.iload_n 2, 1) := by decide +kernel
theorem own_d5_33 : decode method_6_code 33 = .ok (.iaload, 1) := by decide +kernel
theorem own_d5_34 : decode method_6_code 34 = .ok (.if_icmp .ge 5, 3) := by decide +kernel
theorem own_d5_37 : decode method_6_code 37 = .ok (.iconst 1, 1) := by decide +kernel
theorem own_d5_38 : decode method_6_code 38 = .ok (.ireturn, 1) := by decide +kernel
theorem own_d5_39 : decode method_6_code 39 = .ok (.iconst 0, 1) := by decide +kernel
theorem own_d5_40 : decode method_6_code 40 = .ok (.ireturn, 1) := by decide +kernel
theorem own_ef5 (m : MethodId) (a1 : Addr) (a2 : Addr) (p1 : Int32) (p2 : Int32) : entryFrame m #[(.ref a1), (.ref a2), (.int p1), (.int p2)] 4 = mkF m 0 #[.val (.ref a1), .val (.ref a2), .val (.int p1), .val (.int p2)] [] := by first | (simp [entryFrame, mkF, argsToLocals, Value.category]; done) | rfl
def own_Q5 (Z : State) (a1 a2 : Addr) (p1 p2 : Int32) (be pi : Nat → Int32) (d k : Nat) (h0 : Heap) (n0 : Nat) (v : Option Value) (h : Heap) (L : List Loc) : Prop := v = some (.int (own_bef be pi d k)) ∧ Fr n0 L ∧ h = h0
set_option maxRecDepth 65536 in
set_option maxHeartbeats 40000000 in
theorem own_rm5 (l : Launch) (Z : State) (a0 : Array Value) (hw : ∀ d ∈ tables_1, d.before a0 Z = true) (ws : List Jvm.Cond) (a1 a2 : Addr) (p1 p2 : Int32) (be pi : Nat → Int32) (d k : Nat) (h0 : Heap) (n0 : Nat) (Z0 : n0 ≤ h0.size) (pA : own_AI Z h0 a1 .short 4 be) (pP : own_AI Z h0 a2 .int 4 pi) (hd : p1.toInt = (d : Int)) (hk : p2.toInt = (k : Int)) (bd : d < 4) (bk : k < 4) :
    MetFree l (⟨"com/example/rankbucket/rankbucket/BucketingRanksPinLaw", "before", "([S[III)I"⟩ : MethodName) (head1 (Jvm.Cond.code (⟨"com/example/rankbucket/rankbucket/BucketingRanksPinLaw", "before", "([S[III)I"⟩ : MethodName) method_6_code 4 (some .int) :: ws) ({ frames := 0, cells := 0, slots := 0, locals := 0 } : Room)) (fun a U => a = #[(.ref a1), (.ref a2), (.int p1), (.int p2)] ∧ Z.Warmed39 U.vm ∧ U.heap = h0) (fun _ _ _ _ _ => True) (fun _ U o U' => ∃ v L, o = .returned v ∧ own_Q5 Z a1 a2 p1 p2 be pi d k h0 n0 v U'.heap L ∧ FrameEnd U o U' L ({ frames := 0, cells := 0, slots := 0, locals := 0 } : Room).cells ({ frames := 0, cells := 0, slots := 0, locals := 0 } : Room).slots) := by
  refine MetFree.of_bodySF (plainFor_of_name own_pn0) hisR ?_
  intro p e s m args below meth c s₁ Bd hml0 hP hK
  obtain ⟨rfl, hZ, hh⟩ := hP
  have hx := Bd.exec
  have hby := Bd.bytes
  have hml : c.maxLocals = 4 := hml0
  have hown : s.vm.findClass "com/example/rankbucket/rankbucket/BucketingRanksPinLaw" = some m.cls := findClass_of_methodNamed Bd.named
  have hnm := (name_of_methodNamed Bd.named Bd.method).1
  have X0 : Stand p l e ({ frames := 0, cells := 0, slots := 0, locals := 0 } : Room) s m #[(.ref a1), (.ref a2), (.int p1), (.int p2)] below meth c s₁ [] 0 0 := Stand.of_body Bd
  have e0 : s₁.heap = h0 := by rw [← hh, Bd.state]; rfl
  have N0 := Fr.nil n0
  refine own_nm (st := s₁.setTop (entryFrame m #[(.ref a1), (.ref a2), (.int p1), (.int p2)] 4)) fun P fin => ?_
  refine own_fwd (fun tt kt => castTop (own_ef5 m a1 a2 p1 p2) kt) ?_
  show own_R p.tables e below P (s₁.setTop (mkF m 0 #[.val (.ref a1), .val (.ref a2), .val (.int p1), .val (.int p2)] []))
  refine own_fwd (fun tt kt => XS.aloadN X0.here hx rfl (hb hby own_d5_0) rfl rfl kt) ?_
  show own_R p.tables e below P (s₁.setTop (mkF m 1 #[.val (.ref a1), .val (.ref a2), .val (.int p1), .val (.int p2)] [(.ref a1)]))
  refine own_fwd (fun tt kt => XS.iloadN X0.here hx rfl (hb hby own_d5_1) rfl kt) ?_
  show own_R p.tables e below P (s₁.setTop (mkF m 2 #[.val (.ref a1), .val (.ref a2), .val (.int p1), .val (.int p2)] [(.int p2), (.ref a1)]))
  refine own_fwd (own_ldS X0 hx hZ e0 pA (j := p2) k hk bk (g := (mkF m 2 #[.val (.ref a1), .val (.ref a2), .val (.int p1), .val (.int p2)] [(.int p2), (.ref a1)])) rfl rfl (hb hby own_d5_2)) ?_
  show own_R p.tables e below P (s₁.setTop (mkF m 3 #[.val (.ref a1), .val (.ref a2), .val (.int p1), .val (.int p2)] [(.int (be k))]))
  by_cases hc8 : (be k) < (0 : Int32)
  · refine own_fwd (fun tt kt => XS.ifNo X0.here hx rfl (hb hby own_d5_3) rfl ((if0 _ _).trans (tlt hc8).2.1) kt) ?_
    show own_R p.tables e below P (s₁.setTop (mkF m 6 #[.val (.ref a1), .val (.ref a2), .val (.int p1), .val (.int p2)] []))
    refine own_fwd (fun tt kt => XS.iconst X0.here hx rfl (hb hby own_d5_6) kt) ?_
    show own_R p.tables e below P (s₁.setTop (mkF m 7 #[.val (.ref a1), .val (.ref a2), .val (.int p1), .val (.int p2)] [(.int (0 : Int32))]))
    obtain ⟨fs9, hr9, hrun9, hended9, hW9, hsame9⟩ := X0.leave (v := some (.int (0 : Int32))) (fun h => by rw [Bd.returns] at h; cases h)
    refine ⟨_, _, X0.ireturnOut hx (w := (0 : Int32)) Bd.returns rfl (by simp) (hb hby own_d5_7) hr9, fin _ _ ⟨hrun9, hended9, _, _, rfl, ?_, ⟨_, rfl⟩, hW9, hsame9.mono (by decide) (by decide)⟩⟩
    show own_Q5 Z a1 a2 p1 p2 be pi d k h0 n0 _ s₁.heap _
    rw [e0]
    exact ⟨by rw [own_bef, if_pos hc8], N0, rfl⟩
  · refine own_fwd (fun tt kt => XS.ifYes X0.here hx rfl (pc0 := 3) (pc' := 8) rfl (hb hby own_d5_3) rfl ((if0 _ _).trans (flt hc8).2.1) (by decide) (by decide) kt) ?_
    show own_R p.tables e below P (s₁.setTop (mkF m 8 #[.val (.ref a1), .val (.ref a2), .val (.int p1), .val (.int p2)] []))
    refine own_fwd (fun tt kt => XS.aloadN X0.here hx rfl (hb hby own_d5_8) rfl rfl kt) ?_
    show own_R p.tables e below P (s₁.setTop (mkF m 9 #[.val (.ref a1), .val (.ref a2), .val (.int p1), .val (.int p2)] [(.ref a1)]))
    refine own_fwd (fun tt kt => XS.iloadN X0.here hx rfl (hb hby own_d5_9) rfl kt) ?_
    show own_R p.tables e below P (s₁.setTop (mkF m 10 #[.val (.ref a1), .val (.ref a2), .val (.int p1), .val (.int p2)] [(.int p2), (.ref a1)]))
    refine own_fwd (own_ldS X0 hx hZ e0 pA (j := p2) k hk bk (g := (mkF m 10 #[.val (.ref a1), .val (.ref a2), .val (.int p1), .val (.int p2)] [(.int p2), (.ref a1)])) rfl rfl (hb hby own_d5_10)) ?_
    show own_R p.tables e below P (s₁.setTop (mkF m 11 #[.val (.ref a1), .val (.ref a2), .val (.int p1), .val (.int p2)] [(.int (be k))]))
    refine own_fwd (fun tt kt => XS.aloadN X0.here hx rfl (hb hby own_d5_11) rfl rfl kt) ?_
    show own_R p.tables e below P (s₁.setTop (mkF m 12 #[.val (.ref a1), .val (.ref a2), .val (.int p1), .val (.int p2)] [(.ref a1), (.int (be k))]))
    refine own_fwd (fun tt kt => XS.iloadN X0.here hx rfl (hb hby own_d5_12) rfl kt) ?_
    show own_R p.tables e below P (s₁.setTop (mkF m 13 #[.val (.ref a1), .val (.ref a2), .val (.int p1), .val (.int p2)] [(.int p1), (.ref a1), (.int (be k))]))
    refine own_fwd (own_ldS X0 hx hZ e0 pA (j := p1) d hd bd (g := (mkF m 13 #[.val (.ref a1), .val (.ref a2), .val (.int p1), .val (.int p2)] [(.int p1), (.ref a1), (.int (be k))])) rfl rfl (hb hby own_d5_13)) ?_
    show own_R p.tables e below P (s₁.setTop (mkF m 14 #[.val (.ref a1), .val (.ref a2), .val (.int p1), .val (.int p2)] [(.int (be d)), (.int (be k))]))
    by_cases hc10 : (be k) < (be d)
    · refine own_fwd (fun tt kt => XS.icmpNo X0.here hx rfl (hb hby own_d5_14) rfl (tlt hc10).2.1 kt) ?_
      show own_R p.tables e below P (s₁.setTop (mkF m 17 #[.val (.ref a1), .val (.ref a2), .val (.int p1), .val (.int p2)] []))
      refine own_fwd (fun tt kt => XS.iconst X0.here hx rfl (hb hby own_d5_17) kt) ?_
      show own_R p.tables e below P (s₁.setTop (mkF m 18 #[.val (.ref a1), .val (.ref a2), .val (.int p1), .val (.int p2)] [(.int (1 : Int32))]))
      obtain ⟨fs11, hr11, hrun11, hended11, hW11, hsame11⟩ := X0.leave (v := some (.int (1 : Int32))) (fun h => by rw [Bd.returns] at h; cases h)
      refine ⟨_, _, X0.ireturnOut hx (w := (1 : Int32)) Bd.returns rfl (by simp) (hb hby own_d5_18) hr11, fin _ _ ⟨hrun11, hended11, _, _, rfl, ?_, ⟨_, rfl⟩, hW11, hsame11.mono (by decide) (by decide)⟩⟩
      show own_Q5 Z a1 a2 p1 p2 be pi d k h0 n0 _ s₁.heap _
      rw [e0]
      exact ⟨by rw [own_bef, if_neg hc8, if_pos hc10], N0, rfl⟩
    · refine own_fwd (fun tt kt => XS.icmpYes X0.here hx rfl (pc0 := 14) (pc' := 19) rfl (hb hby own_d5_14) rfl (flt hc10).2.1 (by decide) (by decide) kt) ?_
      show own_R p.tables e below P (s₁.setTop (mkF m 19 #[.val (.ref a1), .val (.ref a2), .val (.int p1), .val (.int p2)] []))
      refine own_fwd (fun tt kt => XS.aloadN X0.here hx rfl (hb hby own_d5_19) rfl rfl kt) ?_
      show own_R p.tables e below P (s₁.setTop (mkF m 20 #[.val (.ref a1), .val (.ref a2), .val (.int p1), .val (.int p2)] [(.ref a1)]))
      refine own_fwd (fun tt kt => XS.iloadN X0.here hx rfl (hb hby own_d5_20) rfl kt) ?_
      show own_R p.tables e below P (s₁.setTop (mkF m 21 #[.val (.ref a1), .val (.ref a2), .val (.int p1), .val (.int p2)] [(.int p2), (.ref a1)]))
      refine own_fwd (own_ldS X0 hx hZ e0 pA (j := p2) k hk bk (g := (mkF m 21 #[.val (.ref a1), .val (.ref a2), .val (.int p1), .val (.int p2)] [(.int p2), (.ref a1)])) rfl rfl (hb hby own_d5_21)) ?_
      show own_R p.tables e below P (s₁.setTop (mkF m 22 #[.val (.ref a1), .val (.ref a2), .val (.int p1), .val (.int p2)] [(.int (be k))]))
      refine own_fwd (fun tt kt => XS.aloadN X0.here hx rfl (hb hby own_d5_22) rfl rfl kt) ?_
      show own_R p.tables e below P (s₁.setTop (mkF m 23 #[.val (.ref a1), .val (.ref a2), .val (.int p1), .val (.int p2)] [(.ref a1), (.int (be k))]))
      refine own_fwd (fun tt kt => XS.iloadN X0.here hx rfl (hb hby own_d5_23) rfl kt) ?_
      show own_R p.tables e below P (s₁.setTop (mkF m 24 #[.val (.ref a1), .val (.ref a2), .val (.int p1), .val (.int p2)] [(.int p1), (.ref a1), (.int (be k))]))
      refine own_fwd (own_ldS X0 hx hZ e0 pA (j := p1) d hd bd (g := (mkF m 24 #[.val (.ref a1), .val (.ref a2), .val (.int p1), .val (.int p2)] [(.int p1), (.ref a1), (.int (be k))])) rfl rfl (hb hby own_d5_24)) ?_
      show own_R p.tables e below P (s₁.setTop (mkF m 25 #[.val (.ref a1), .val (.ref a2), .val (.int p1), .val (.int p2)] [(.int (be d)), (.int (be k))]))
      by_cases hc12 : (be k) = (be d)
      · refine own_fwd (fun tt kt => XS.icmpNo X0.here hx rfl (hb hby own_d5_25) rfl (teq hc12).2 kt) ?_
        show own_R p.tables e below P (s₁.setTop (mkF m 28 #[.val (.ref a1), .val (.ref a2), .val (.int p1), .val (.int p2)] []))
        refine own_fwd (fun tt kt => XS.aloadN X0.here hx rfl (hb hby own_d5_28) rfl rfl kt) ?_
        show own_R p.tables e below P (s₁.setTop (mkF m 29 #[.val (.ref a1), .val (.ref a2), .val (.int p1), .val (.int p2)] [(.ref a2)]))
        refine own_fwd (fun tt kt => XS.iloadN X0.here hx rfl (hb hby own_d5_29) rfl kt) ?_
        show own_R p.tables e below P (s₁.setTop (mkF m 30 #[.val (.ref a1), .val (.ref a2), .val (.int p1), .val (.int p2)] [(.int p2), (.ref a2)]))
        refine own_fwd (own_ldI X0 hx hZ e0 pP (j := p2) k hk bk (g := (mkF m 30 #[.val (.ref a1), .val (.ref a2), .val (.int p1), .val (.int p2)] [(.int p2), (.ref a2)])) rfl rfl (hb hby own_d5_30)) ?_
        show own_R p.tables e below P (s₁.setTop (mkF m 31 #[.val (.ref a1), .val (.ref a2), .val (.int p1), .val (.int p2)] [(.int (pi k))]))
        refine own_fwd (fun tt kt => XS.aloadN X0.here hx rfl (hb hby own_d5_31) rfl rfl kt) ?_
        show own_R p.tables e below P (s₁.setTop (mkF m 32 #[.val (.ref a1), .val (.ref a2), .val (.int p1), .val (.int p2)] [(.ref a2), (.int (pi k))]))
        refine own_fwd (fun tt kt => XS.iloadN X0.here hx rfl (hb hby own_d5_32) rfl kt) ?_
        show own_R p.tables e below P (s₁.setTop (mkF m 33 #[.val (.ref a1), .val (.ref a2), .val (.int p1), .val (.int p2)] [(.int p1), (.ref a2), (.int (pi k))]))
        refine own_fwd (own_ldI X0 hx hZ e0 pP (j := p1) d hd bd (g := (mkF m 33 #[.val (.ref a1), .val (.ref a2), .val (.int p1), .val (.int p2)] [(.int p1), (.ref a2), (.int (pi k))])) rfl rfl (hb hby own_d5_33)) ?_
        show own_R p.tables e below P (s₁.setTop (mkF m 34 #[.val (.ref a1), .val (.ref a2), .val (.int p1), .val (.int p2)] [(.int (pi d)), (.int (pi k))]))
        by_cases hc13 : (pi k) < (pi d)
        · refine own_fwd (fun tt kt => XS.icmpNo X0.here hx rfl (hb hby own_d5_34) rfl (tlt hc13).2.1 kt) ?_
          show own_R p.tables e below P (s₁.setTop (mkF m 37 #[.val (.ref a1), .val (.ref a2), .val (.int p1), .val (.int p2)] []))
          refine own_fwd (fun tt kt => XS.iconst X0.here hx rfl (hb hby own_d5_37) kt) ?_
          show own_R p.tables e below P (s₁.setTop (mkF m 38 #[.val (.ref a1), .val (.ref a2), .val (.int p1), .val (.int p2)] [(.int (1 : Int32))]))
          obtain ⟨fs14, hr14, hrun14, hended14, hW14, hsame14⟩ := X0.leave (v := some (.int (1 : Int32))) (fun h => by rw [Bd.returns] at h; cases h)
          refine ⟨_, _, X0.ireturnOut hx (w := (1 : Int32)) Bd.returns rfl (by simp) (hb hby own_d5_38) hr14, fin _ _ ⟨hrun14, hended14, _, _, rfl, ?_, ⟨_, rfl⟩, hW14, hsame14.mono (by decide) (by decide)⟩⟩
          show own_Q5 Z a1 a2 p1 p2 be pi d k h0 n0 _ s₁.heap _
          rw [e0]
          exact ⟨by rw [own_bef, if_neg hc8, if_neg hc10, if_pos ⟨hc12, hc13⟩], N0, rfl⟩
        · refine own_fwd (fun tt kt => XS.icmpYes X0.here hx rfl (pc0 := 34) (pc' := 39) rfl (hb hby own_d5_34) rfl (flt hc13).2.1 (by decide) (by decide) kt) ?_
          show own_R p.tables e below P (s₁.setTop (mkF m 39 #[.val (.ref a1), .val (.ref a2), .val (.int p1), .val (.int p2)] []))
          refine own_fwd (fun tt kt => XS.iconst X0.here hx rfl (hb hby own_d5_39) kt) ?_
          show own_R p.tables e below P (s₁.setTop (mkF m 40 #[.val (.ref a1), .val (.ref a2), .val (.int p1), .val (.int p2)] [(.int (0 : Int32))]))
          obtain ⟨fs15, hr15, hrun15, hended15, hW15, hsame15⟩ := X0.leave (v := some (.int (0 : Int32))) (fun h => by rw [Bd.returns] at h; cases h)
          refine ⟨_, _, X0.ireturnOut hx (w := (0 : Int32)) Bd.returns rfl (by simp) (hb hby own_d5_40) hr15, fin _ _ ⟨hrun15, hended15, _, _, rfl, ?_, ⟨_, rfl⟩, hW15, hsame15.mono (by decide) (by decide)⟩⟩
          show own_Q5 Z a1 a2 p1 p2 be pi d k h0 n0 _ s₁.heap _
          rw [e0]
          exact ⟨by rw [own_bef, if_neg hc8, if_neg hc10, if_neg (fun z => hc13 z.2)], N0, rfl⟩
      · refine own_fwd (fun tt kt => XS.icmpYes X0.here hx rfl (pc0 := 25) (pc' := 39) rfl (hb hby own_d5_25) rfl (feq hc12).2 (by decide) (by decide) kt) ?_
        show own_R p.tables e below P (s₁.setTop (mkF m 39 #[.val (.ref a1), .val (.ref a2), .val (.int p1), .val (.int p2)] []))
        refine own_fwd (fun tt kt => XS.iconst X0.here hx rfl (hb hby own_d5_39) kt) ?_
        show own_R p.tables e below P (s₁.setTop (mkF m 40 #[.val (.ref a1), .val (.ref a2), .val (.int p1), .val (.int p2)] [(.int (0 : Int32))]))
        obtain ⟨fs16, hr16, hrun16, hended16, hW16, hsame16⟩ := X0.leave (v := some (.int (0 : Int32))) (fun h => by rw [Bd.returns] at h; cases h)
        refine ⟨_, _, X0.ireturnOut hx (w := (0 : Int32)) Bd.returns rfl (by simp) (hb hby own_d5_40) hr16, fin _ _ ⟨hrun16, hended16, _, _, rfl, ?_, ⟨_, rfl⟩, hW16, hsame16.mono (by decide) (by decide)⟩⟩
        show own_Q5 Z a1 a2 p1 p2 be pi d k h0 n0 _ s₁.heap _
        rw [e0]
        exact ⟨by rw [own_bef, if_neg hc8, if_neg hc10, if_neg (fun z => hc12 z.1)], N0, rfl⟩
theorem own_d4_0 : decode method_5_code 0 = .ok (.aload_n 0, 1) := by decide +kernel
theorem own_d4_1 : decode method_5_code 1 = .ok (.iload_n 2, 1) := by decide +kernel
theorem own_d4_2 : decode method_5_code 2 = .ok (.saload, 1) := by decide +kernel
theorem own_d4_3 : decode method_5_code 3 = .ok (.ifCond .ge 5, 3) := by decide +kernel
theorem own_d4_6 : decode method_5_code 6 = .ok (.iconst (-1), 1) := by decide +kernel
theorem own_d4_7 : decode method_5_code 7 = .ok (.ireturn, 1) := by decide +kernel
theorem own_d4_8 : decode method_5_code 8 = .ok (.aload_n 0, 1) := by decide +kernel
theorem own_d4_9 : decode method_5_code 9 = .ok (.aload_n 1, 1) := by decide +kernel
theorem own_d4_10 : decode method_5_code 10 = .ok (.iload_n 2, 1) := by decide +kernel
theorem own_d4_11 : decode method_5_code 11 = .ok (.iconst 0, 1) := by decide +kernel
theorem own_d4_12 : decode method_5_code 12 = .ok (.invokestatic 28, 3) := by decide +kernel
theorem own_d4_15 : decode method_5_code 15 = .ok (.aload_n 0, 1) := by decide +kernel
theorem own_d4_16 : decode method_5_code 16 = .ok (.aload_n 1, 1) := by decide +kernel
theorem own_d4_17 : decode method_5_code 17 = .ok (.iload_n 2, 1) := by decide +kernel
theorem own_d4_18 : decode method_5_code 18 = .ok (.iconst 1, 1) := by decide +kernel
theorem own_d4_19 : decode method_5_code 19 = .ok (.invokestatic 28, 3) := by decide +kernel
theorem own_d4_22 : decode method_5_code 22 = .ok (.iadd, 1) := by decide +kernel
theorem own_d4_23 : decode method_5_code 23 = .ok (.aload_n 0, 1) := by decide +kernel
theorem own_d4_24 : decode method_5_code 24 = .ok (.aload_n 1, 1) := by decide +kernel
theorem own_d4_25 : decode method_5_code 25 = .ok (.iload_n 2, 1) := by decide +kernel
theorem own_d4_26 : decode method_5_code 26 = .ok (.iconst 2, 1) := by decide +kernel
theorem own_d4_27 : decode method_5_code 27 = .ok (.invokestatic 28, 3) := by decide +kernel
theorem own_d4_30 : decode method_5_code 30 = .ok (.iadd, 1) := by decide +kernel
theorem own_d4_31 : decode method_5_code 31 = .ok (.aload_n 0, 1) := by decide +kernel
theorem own_d4_32 : decode method_5_code 32 = .ok (.aload_n 1, 1) := by decide +kernel
theorem own_d4_33 : decode method_5_code 33 = .ok (.iload_n 2, 1) := by decide +kernel
theorem own_d4_34 : decode method_5_code 34 = .ok (.iconst 3, 1) := by decide +kernel
theorem own_d4_35 : decode method_5_code 35 = .ok (.invokestatic 28, 3) := by decide +kernel
theorem own_d4_38 : decode method_5_code 38 = .ok (.iadd, 1) := by decide +kernel
theorem own_d4_39 : decode method_5_code 39 = .ok (.ireturn, 1) := by decide +kernel
theorem own_pd0 : parseMethodDescriptor "([S[III)I" = some ⟨[(.array .short), (.array .int), .int, .int], some .int⟩ := by decide +kernel
theorem own_ef4 (m : MethodId) (a1 : Addr) (a2 : Addr) (p1 : Int32) : entryFrame m #[(.ref a1), (.ref a2), (.int p1)] 3 = mkF m 0 #[.val (.ref a1), .val (.ref a2), .val (.int p1)] [] := by first | (simp [entryFrame, mkF, argsToLocals, Value.category]; done) | rfl
def own_Q4 (Z : State) (a1 a2 : Addr) (p1 : Int32) (be pi : Nat → Int32) (d : Nat) (h0 : Heap) (n0 : Nat) (v : Option Value) (h : Heap) (L : List Loc) : Prop := v = some (.int (own_expd be pi d)) ∧ Fr n0 L ∧ h = h0
set_option maxRecDepth 65536 in
set_option maxHeartbeats 40000000 in
theorem own_rm4 (l : Launch) (Z : State) (a0 : Array Value) (hw : ∀ d ∈ tables_1, d.before a0 Z = true) (ws : List Jvm.Cond) (a1 a2 : Addr) (p1 : Int32) (be pi : Nat → Int32) (d : Nat) (h0 : Heap) (n0 : Nat) (Z0 : n0 ≤ h0.size) (pA : own_AI Z h0 a1 .short 4 be) (pP : own_AI Z h0 a2 .int 4 pi) (hd : p1.toInt = (d : Int)) (bd : d < 4) :
    MetFree l (⟨"com/example/rankbucket/rankbucket/BucketingRanksPinLaw", "expected", "([S[II)I"⟩ : MethodName) (head1 (Jvm.Cond.code (⟨"com/example/rankbucket/rankbucket/BucketingRanksPinLaw", "expected", "([S[II)I"⟩ : MethodName) method_5_code 3 (some .int) :: ws) ({ frames := 1, cells := 0, slots := 0, locals := 16 } : Room)) (fun a U => a = #[(.ref a1), (.ref a2), (.int p1)] ∧ Z.Warmed39 U.vm ∧ U.heap = h0) (fun _ _ _ _ _ => True) (fun _ U o U' => ∃ v L, o = .returned v ∧ own_Q4 Z a1 a2 p1 be pi d h0 n0 v U'.heap L ∧ FrameEnd U o U' L ({ frames := 1, cells := 0, slots := 0, locals := 16 } : Room).cells ({ frames := 1, cells := 0, slots := 0, locals := 16 } : Room).slots) := by
  refine MetFree.of_bodySF (plainFor_of_name own_pn0) hisR ?_
  intro p e s m args below meth c s₁ Bd hml0 hP hK
  obtain ⟨rfl, hZ, hh⟩ := hP
  have hx := Bd.exec
  have hby := Bd.bytes
  have hml : c.maxLocals = 3 := hml0
  have hown : s.vm.findClass "com/example/rankbucket/rankbucket/BucketingRanksPinLaw" = some m.cls := findClass_of_methodNamed Bd.named
  have hnm := (name_of_methodNamed Bd.named Bd.method).1
  have X0 : Stand p l e ({ frames := 1, cells := 0, slots := 0, locals := 16 } : Room) s m #[(.ref a1), (.ref a2), (.int p1)] below meth c s₁ [] 0 0 := Stand.of_body Bd
  have e0 : s₁.heap = h0 := by rw [← hh, Bd.state]; rfl
  have N0 := Fr.nil n0
  refine own_nm (st := s₁.setTop (entryFrame m #[(.ref a1), (.ref a2), (.int p1)] 3)) fun P fin => ?_
  refine own_fwd (fun tt kt => castTop (own_ef4 m a1 a2 p1) kt) ?_
  show own_R p.tables e below P (s₁.setTop (mkF m 0 #[.val (.ref a1), .val (.ref a2), .val (.int p1)] []))
  refine own_fwd (fun tt kt => XS.aloadN X0.here hx rfl (hb hby own_d4_0) rfl rfl kt) ?_
  show own_R p.tables e below P (s₁.setTop (mkF m 1 #[.val (.ref a1), .val (.ref a2), .val (.int p1)] [(.ref a1)]))
  refine own_fwd (fun tt kt => XS.iloadN X0.here hx rfl (hb hby own_d4_1) rfl kt) ?_
  show own_R p.tables e below P (s₁.setTop (mkF m 2 #[.val (.ref a1), .val (.ref a2), .val (.int p1)] [(.int p1), (.ref a1)]))
  refine own_fwd (own_ldS X0 hx hZ e0 pA (j := p1) d hd bd (g := (mkF m 2 #[.val (.ref a1), .val (.ref a2), .val (.int p1)] [(.int p1), (.ref a1)])) rfl rfl (hb hby own_d4_2)) ?_
  show own_R p.tables e below P (s₁.setTop (mkF m 3 #[.val (.ref a1), .val (.ref a2), .val (.int p1)] [(.int (be d))]))
  by_cases hc17 : (be d) < (0 : Int32)
  · refine own_fwd (fun tt kt => XS.ifNo X0.here hx rfl (hb hby own_d4_3) rfl ((if0 _ _).trans (tlt hc17).2.1) kt) ?_
    show own_R p.tables e below P (s₁.setTop (mkF m 6 #[.val (.ref a1), .val (.ref a2), .val (.int p1)] []))
    refine own_fwd (fun tt kt => XS.iconst X0.here hx rfl (hb hby own_d4_6) kt) ?_
    show own_R p.tables e below P (s₁.setTop (mkF m 7 #[.val (.ref a1), .val (.ref a2), .val (.int p1)] [(.int (-1 : Int32))]))
    obtain ⟨fs18, hr18, hrun18, hended18, hW18, hsame18⟩ := X0.leave (v := some (.int (-1 : Int32))) (fun h => by rw [Bd.returns] at h; cases h)
    refine ⟨_, _, X0.ireturnOut hx (w := (-1 : Int32)) Bd.returns rfl (by simp) (hb hby own_d4_7) hr18, fin _ _ ⟨hrun18, hended18, _, _, rfl, ?_, ⟨_, rfl⟩, hW18, hsame18.mono (by decide) (by decide)⟩⟩
    show own_Q4 Z a1 a2 p1 be pi d h0 n0 _ s₁.heap _
    rw [e0]
    exact ⟨by rw [own_expd, if_pos hc17], N0, rfl⟩
  · refine own_fwd (fun tt kt => XS.ifYes X0.here hx rfl (pc0 := 3) (pc' := 8) rfl (hb hby own_d4_3) rfl ((if0 _ _).trans (flt hc17).2.1) (by decide) (by decide) kt) ?_
    show own_R p.tables e below P (s₁.setTop (mkF m 8 #[.val (.ref a1), .val (.ref a2), .val (.int p1)] []))
    refine own_fwd (fun tt kt => XS.aloadN X0.here hx rfl (hb hby own_d4_8) rfl rfl kt) ?_
    show own_R p.tables e below P (s₁.setTop (mkF m 9 #[.val (.ref a1), .val (.ref a2), .val (.int p1)] [(.ref a1)]))
    refine own_fwd (fun tt kt => XS.aloadN X0.here hx rfl (hb hby own_d4_9) rfl rfl kt) ?_
    show own_R p.tables e below P (s₁.setTop (mkF m 10 #[.val (.ref a1), .val (.ref a2), .val (.int p1)] [(.ref a2), (.ref a1)]))
    refine own_fwd (fun tt kt => XS.iloadN X0.here hx rfl (hb hby own_d4_10) rfl kt) ?_
    show own_R p.tables e below P (s₁.setTop (mkF m 11 #[.val (.ref a1), .val (.ref a2), .val (.int p1)] [(.int p1), (.ref a2), (.ref a1)]))
    refine own_fwd (fun tt kt => XS.iconst X0.here hx rfl (hb hby own_d4_11) kt) ?_
    show own_R p.tables e below P (s₁.setTop (mkF m 12 #[.val (.ref a1), .val (.ref a2), .val (.int p1)] [(.int (0 : Int32)), (.int p1), (.ref a2), (.ref a1)]))
    obtain ⟨_, _, ⟨T19, L19, k19, n19⟩, -, X19, ⟨Lc19, hQ19, l19, y19, z19⟩, st19⟩ := Jvm.LawKit.callS X0 hx (y := (⟨"com/example/rankbucket/rankbucket/BucketingRanksPinLaw", "before", "([S[III)I"⟩ : MethodName)) hown (mvT hZ (hw _ (List.mem_of_getElem? (i := 17) rfl))) (mvT hZ (hw _ (List.mem_of_getElem? (i := 18) rfl))) (mvT hZ (hw _ (List.mem_of_getElem? (i := 4) rfl))) (mvT hZ (hw _ (List.mem_of_getElem? (i := 19) rfl))) (by decide) (backOf (W := 0) (own_rm5 l Z a0 hw [] a1 a2 p1 0 be pi d 0 h0 n0 Z0 pA pP hd rfl bd (by decide)) hZ (hw _ (List.mem_of_getElem? (i := 19) rfl)) (hw _ (List.mem_of_getElem? (i := 4) rfl)) (by decide) (by decide)) (g := (mkF m 12 #[.val (.ref a1), .val (.ref a2), .val (.int p1)] [(.int (0 : Int32)), (.int p1), (.ref a2), (.ref a1)])) rfl (by rw [hml]; rfl) (argsL := [(.ref a1), (.ref a2), (.int p1), (.int (0 : Int32))]) (rest := []) (lenOf own_pd0 rfl) rfl (by show 2 * 0 + _ ≤ _; exact Nat.le_of_eq rfl) (hb hby own_d4_12) (fun _ _ => ⟨rfl, e0, (by decide : 0 + 0 ≤ _), (by decide : 0 + 0 ≤ _)⟩)
    dsimp only [Pt.U, Pt.locs, Pt.cells, Pt.slots] at X19 l19 y19 z19 st19 hQ19
    rw [l19, (show k19 = 0 from y19), (show n19 = 0 from z19)] at X19
    obtain ⟨h19, e19⟩ : ∃ z, T19.heap = z := ⟨_, rfl⟩
    rw [e19] at hQ19
    obtain ⟨hq19, N19q, q19⟩ := hQ19
    rw [q19] at e19
    rw [hq19] at st19
    have N19 := Fr.app N0 N19q
    refine own_fwd st19 ?_
    show own_R p.tables e below P (T19.setTop (mkF m 15 #[.val (.ref a1), .val (.ref a2), .val (.int p1)] [(.int (own_bef be pi d 0))]))
    refine own_fwd (fun tt kt => XS.aloadN X19.here hx rfl (hb hby own_d4_15) rfl rfl kt) ?_
    show own_R p.tables e below P (T19.setTop (mkF m 16 #[.val (.ref a1), .val (.ref a2), .val (.int p1)] [(.ref a1), (.int (own_bef be pi d 0))]))
    refine own_fwd (fun tt kt => XS.aloadN X19.here hx rfl (hb hby own_d4_16) rfl rfl kt) ?_
    show own_R p.tables e below P (T19.setTop (mkF m 17 #[.val (.ref a1), .val (.ref a2), .val (.int p1)] [(.ref a2), (.ref a1), (.int (own_bef be pi d 0))]))
    refine own_fwd (fun tt kt => XS.iloadN X19.here hx rfl (hb hby own_d4_17) rfl kt) ?_
    show own_R p.tables e below P (T19.setTop (mkF m 18 #[.val (.ref a1), .val (.ref a2), .val (.int p1)] [(.int p1), (.ref a2), (.ref a1), (.int (own_bef be pi d 0))]))
    refine own_fwd (fun tt kt => XS.iconst X19.here hx rfl (hb hby own_d4_18) kt) ?_
    show own_R p.tables e below P (T19.setTop (mkF m 19 #[.val (.ref a1), .val (.ref a2), .val (.int p1)] [(.int (1 : Int32)), (.int p1), (.ref a2), (.ref a1), (.int (own_bef be pi d 0))]))
    obtain ⟨_, _, ⟨T20, L20, k20, n20⟩, -, X20, ⟨Lc20, hQ20, l20, y20, z20⟩, st20⟩ := Jvm.LawKit.callS X19 hx (y := (⟨"com/example/rankbucket/rankbucket/BucketingRanksPinLaw", "before", "([S[III)I"⟩ : MethodName)) hown (mvT hZ (hw _ (List.mem_of_getElem? (i := 17) rfl))) (mvT hZ (hw _ (List.mem_of_getElem? (i := 18) rfl))) (mvT hZ (hw _ (List.mem_of_getElem? (i := 4) rfl))) (mvT hZ (hw _ (List.mem_of_getElem? (i := 19) rfl))) (by decide) (backOf (W := 1) (own_rm5 l Z a0 hw [] a1 a2 p1 1 be pi d 1 h0 n0 Z0 pA pP hd rfl bd (by decide)) hZ (hw _ (List.mem_of_getElem? (i := 19) rfl)) (hw _ (List.mem_of_getElem? (i := 4) rfl)) (by decide) (by decide)) (g := (mkF m 19 #[.val (.ref a1), .val (.ref a2), .val (.int p1)] [(.int (1 : Int32)), (.int p1), (.ref a2), (.ref a1), (.int (own_bef be pi d 0))])) rfl (by rw [hml]; rfl) (argsL := [(.ref a1), (.ref a2), (.int p1), (.int (1 : Int32))]) (rest := [(.int (own_bef be pi d 0))]) (lenOf own_pd0 rfl) rfl (by show 2 * 0 + _ ≤ _; exact Nat.le_of_eq rfl) (hb hby own_d4_19) (fun _ _ => ⟨rfl, e19, (by decide : 0 + 0 ≤ _), (by decide : 0 + 0 ≤ _)⟩)
    dsimp only [Pt.U, Pt.locs, Pt.cells, Pt.slots] at X20 l20 y20 z20 st20 hQ20
    rw [l20, (show k20 = 0 from y20), (show n20 = 0 from z20)] at X20
    obtain ⟨h20, e20⟩ : ∃ z, T20.heap = z := ⟨_, rfl⟩
    rw [e20] at hQ20
    obtain ⟨hq20, N20q, q20⟩ := hQ20
    rw [q20] at e20
    rw [hq20] at st20
    have N20 := Fr.app N19 N20q
    refine own_fwd st20 ?_
    show own_R p.tables e below P (T20.setTop (mkF m 22 #[.val (.ref a1), .val (.ref a2), .val (.int p1)] [(.int (own_bef be pi d 1)), (.int (own_bef be pi d 0))]))
    refine own_fwd (fun tt kt => XS.iadd X20.here hx rfl (hb hby own_d4_22) rfl kt) ?_
    show own_R p.tables e below P (T20.setTop (mkF m 23 #[.val (.ref a1), .val (.ref a2), .val (.int p1)] [(.int ((own_bef be pi d 0) + (own_bef be pi d 1)))]))
    refine own_fwd (fun tt kt => XS.aloadN X20.here hx rfl (hb hby own_d4_23) rfl rfl kt) ?_
    show own_R p.tables e below P (T20.setTop (mkF m 24 #[.val (.ref a1), .val (.ref a2), .val (.int p1)] [(.ref a1), (.int ((own_bef be pi d 0) + (own_bef be pi d 1)))]))
    refine own_fwd (fun tt kt => XS.aloadN X20.here hx rfl (hb hby own_d4_24) rfl rfl kt) ?_
    show own_R p.tables e below P (T20.setTop (mkF m 25 #[.val (.ref a1), .val (.ref a2), .val (.int p1)] [(.ref a2), (.ref a1), (.int ((own_bef be pi d 0) + (own_bef be pi d 1)))]))
    refine own_fwd (fun tt kt => XS.iloadN X20.here hx rfl (hb hby own_d4_25) rfl kt) ?_
    show own_R p.tables e below P (T20.setTop (mkF m 26 #[.val (.ref a1), .val (.ref a2), .val (.int p1)] [(.int p1), (.ref a2), (.ref a1), (.int ((own_bef be pi d 0) + (own_bef be pi d 1)))]))
    refine own_fwd (fun tt kt => XS.iconst X20.here hx rfl (hb hby own_d4_26) kt) ?_
    show own_R p.tables e below P (T20.setTop (mkF m 27 #[.val (.ref a1), .val (.ref a2), .val (.int p1)] [(.int (2 : Int32)), (.int p1), (.ref a2), (.ref a1), (.int ((own_bef be pi d 0) + (own_bef be pi d 1)))]))
    obtain ⟨_, _, ⟨T21, L21, k21, n21⟩, -, X21, ⟨Lc21, hQ21, l21, y21, z21⟩, st21⟩ := Jvm.LawKit.callS X20 hx (y := (⟨"com/example/rankbucket/rankbucket/BucketingRanksPinLaw", "before", "([S[III)I"⟩ : MethodName)) hown (mvT hZ (hw _ (List.mem_of_getElem? (i := 17) rfl))) (mvT hZ (hw _ (List.mem_of_getElem? (i := 18) rfl))) (mvT hZ (hw _ (List.mem_of_getElem? (i := 4) rfl))) (mvT hZ (hw _ (List.mem_of_getElem? (i := 19) rfl))) (by decide) (backOf (W := 1) (own_rm5 l Z a0 hw [] a1 a2 p1 2 be pi d 2 h0 n0 Z0 pA pP hd rfl bd (by decide)) hZ (hw _ (List.mem_of_getElem? (i := 19) rfl)) (hw _ (List.mem_of_getElem? (i := 4) rfl)) (by decide) (by decide)) (g := (mkF m 27 #[.val (.ref a1), .val (.ref a2), .val (.int p1)] [(.int (2 : Int32)), (.int p1), (.ref a2), (.ref a1), (.int ((own_bef be pi d 0) + (own_bef be pi d 1)))])) rfl (by rw [hml]; rfl) (argsL := [(.ref a1), (.ref a2), (.int p1), (.int (2 : Int32))]) (rest := [(.int ((own_bef be pi d 0) + (own_bef be pi d 1)))]) (lenOf own_pd0 rfl) rfl (by show 2 * 0 + _ ≤ _; exact Nat.le_of_eq rfl) (hb hby own_d4_27) (fun _ _ => ⟨rfl, e20, (by decide : 0 + 0 ≤ _), (by decide : 0 + 0 ≤ _)⟩)
    dsimp only [Pt.U, Pt.locs, Pt.cells, Pt.slots] at X21 l21 y21 z21 st21 hQ21
    rw [l21, (show k21 = 0 from y21), (show n21 = 0 from z21)] at X21
    obtain ⟨h21, e21⟩ : ∃ z, T21.heap = z := ⟨_, rfl⟩
    rw [e21] at hQ21
    obtain ⟨hq21, N21q, q21⟩ := hQ21
    rw [q21] at e21
    rw [hq21] at st21
    have N21 := Fr.app N20 N21q
    refine own_fwd st21 ?_
    show own_R p.tables e below P (T21.setTop (mkF m 30 #[.val (.ref a1), .val (.ref a2), .val (.int p1)] [(.int (own_bef be pi d 2)), (.int ((own_bef be pi d 0) + (own_bef be pi d 1)))]))
    refine own_fwd (fun tt kt => XS.iadd X21.here hx rfl (hb hby own_d4_30) rfl kt) ?_
    show own_R p.tables e below P (T21.setTop (mkF m 31 #[.val (.ref a1), .val (.ref a2), .val (.int p1)] [(.int (((own_bef be pi d 0) + (own_bef be pi d 1)) + (own_bef be pi d 2)))]))
    refine own_fwd (fun tt kt => XS.aloadN X21.here hx rfl (hb hby own_d4_31) rfl rfl kt) ?_
    show own_R p.tables e below P (T21.setTop (mkF m 32 #[.val (.ref a1), .val (.ref a2), .val (.int p1)] [(.ref a1), (.int (((own_bef be pi d 0) + (own_bef be pi d 1)) + (own_bef be pi d 2)))]))
    refine own_fwd (fun tt kt => XS.aloadN X21.here hx rfl (hb hby own_d4_32) rfl rfl kt) ?_
    show own_R p.tables e below P (T21.setTop (mkF m 33 #[.val (.ref a1), .val (.ref a2), .val (.int p1)] [(.ref a2), (.ref a1), (.int (((own_bef be pi d 0) + (own_bef be pi d 1)) + (own_bef be pi d 2)))]))
    refine own_fwd (fun tt kt => XS.iloadN X21.here hx rfl (hb hby own_d4_33) rfl kt) ?_
    show own_R p.tables e below P (T21.setTop (mkF m 34 #[.val (.ref a1), .val (.ref a2), .val (.int p1)] [(.int p1), (.ref a2), (.ref a1), (.int (((own_bef be pi d 0) + (own_bef be pi d 1)) + (own_bef be pi d 2)))]))
    refine own_fwd (fun tt kt => XS.iconst X21.here hx rfl (hb hby own_d4_34) kt) ?_
    show own_R p.tables e below P (T21.setTop (mkF m 35 #[.val (.ref a1), .val (.ref a2), .val (.int p1)] [(.int (3 : Int32)), (.int p1), (.ref a2), (.ref a1), (.int (((own_bef be pi d 0) + (own_bef be pi d 1)) + (own_bef be pi d 2)))]))
    obtain ⟨_, _, ⟨T22, L22, k22, n22⟩, -, X22, ⟨Lc22, hQ22, l22, y22, z22⟩, st22⟩ := Jvm.LawKit.callS X21 hx (y := (⟨"com/example/rankbucket/rankbucket/BucketingRanksPinLaw", "before", "([S[III)I"⟩ : MethodName)) hown (mvT hZ (hw _ (List.mem_of_getElem? (i := 17) rfl))) (mvT hZ (hw _ (List.mem_of_getElem? (i := 18) rfl))) (mvT hZ (hw _ (List.mem_of_getElem? (i := 4) rfl))) (mvT hZ (hw _ (List.mem_of_getElem? (i := 19) rfl))) (by decide) (backOf (W := 1) (own_rm5 l Z a0 hw [] a1 a2 p1 3 be pi d 3 h0 n0 Z0 pA pP hd rfl bd (by decide)) hZ (hw _ (List.mem_of_getElem? (i := 19) rfl)) (hw _ (List.mem_of_getElem? (i := 4) rfl)) (by decide) (by decide)) (g := (mkF m 35 #[.val (.ref a1), .val (.ref a2), .val (.int p1)] [(.int (3 : Int32)), (.int p1), (.ref a2), (.ref a1), (.int (((own_bef be pi d 0) + (own_bef be pi d 1)) + (own_bef be pi d 2)))])) rfl (by rw [hml]; rfl) (argsL := [(.ref a1), (.ref a2), (.int p1), (.int (3 : Int32))]) (rest := [(.int (((own_bef be pi d 0) + (own_bef be pi d 1)) + (own_bef be pi d 2)))]) (lenOf own_pd0 rfl) rfl (by show 2 * 0 + _ ≤ _; exact Nat.le_of_eq rfl) (hb hby own_d4_35) (fun _ _ => ⟨rfl, e21, (by decide : 0 + 0 ≤ _), (by decide : 0 + 0 ≤ _)⟩)
    dsimp only [Pt.U, Pt.locs, Pt.cells, Pt.slots] at X22 l22 y22 z22 st22 hQ22
    rw [l22, (show k22 = 0 from y22), (show n22 = 0 from z22)] at X22
    obtain ⟨h22, e22⟩ : ∃ z, T22.heap = z := ⟨_, rfl⟩
    rw [e22] at hQ22
    obtain ⟨hq22, N22q, q22⟩ := hQ22
    rw [q22] at e22
    rw [hq22] at st22
    have N22 := Fr.app N21 N22q
    refine own_fwd st22 ?_
    show own_R p.tables e below P (T22.setTop (mkF m 38 #[.val (.ref a1), .val (.ref a2), .val (.int p1)] [(.int (own_bef be pi d 3)), (.int (((own_bef be pi d 0) + (own_bef be pi d 1)) + (own_bef be pi d 2)))]))
    refine own_fwd (fun tt kt => XS.iadd X22.here hx rfl (hb hby own_d4_38) rfl kt) ?_
    show own_R p.tables e below P (T22.setTop (mkF m 39 #[.val (.ref a1), .val (.ref a2), .val (.int p1)] [(.int ((((own_bef be pi d 0) + (own_bef be pi d 1)) + (own_bef be pi d 2)) + (own_bef be pi d 3)))]))
    obtain ⟨fs23, hr23, hrun23, hended23, hW23, hsame23⟩ := X22.leave (v := some (.int ((((own_bef be pi d 0) + (own_bef be pi d 1)) + (own_bef be pi d 2)) + (own_bef be pi d 3)))) (fun h => by rw [Bd.returns] at h; cases h)
    refine ⟨_, _, X22.ireturnOut hx (w := ((((own_bef be pi d 0) + (own_bef be pi d 1)) + (own_bef be pi d 2)) + (own_bef be pi d 3))) Bd.returns rfl (by simp) (hb hby own_d4_39) hr23, fin _ _ ⟨hrun23, hended23, _, _, rfl, ?_, ⟨_, rfl⟩, hW23, hsame23.mono (by decide) (by decide)⟩⟩
    show own_Q4 Z a1 a2 p1 be pi d h0 n0 _ T22.heap _
    rw [e22]
    exact ⟨by rw [own_expd, if_neg hc17], N22, rfl⟩
theorem own_d3_0 : decode prog_6_method_15_code 0 = .ok (.aload_n 1, 1) := by decide +kernel
theorem own_d3_1 : decode prog_6_method_15_code 1 = .ok (.arraylength, 1) := by decide +kernel
theorem own_d3_2 : decode prog_6_method_15_code 2 = .ok (.newarray .int, 2) := by decide +kernel
theorem own_d3_4 : decode prog_6_method_15_code 4 = .ok (.astore_n 3, 1) := by decide +kernel
theorem own_d3_5 : decode prog_6_method_15_code 5 = .ok (.iconst 1, 1) := by decide +kernel
theorem own_d3_6 : decode prog_6_method_15_code 6 = .ok (.istore 4, 2) := by decide +kernel
theorem own_d3_8 : decode prog_6_method_15_code 8 = .ok (.iload 4, 2) := by decide +kernel
theorem own_d3_10 : decode prog_6_method_15_code 10 = .ok (.aload_n 1, 1) := by decide +kernel
theorem own_d3_11 : decode prog_6_method_15_code 11 = .ok (.arraylength, 1) := by decide +kernel
theorem own_d3_12 : decode prog_6_method_15_code 12 = .ok (.if_icmp .ge 26, 3) := by decide +kernel
theorem own_d3_15 : decode prog_6_method_15_code 15 = .ok (.aload_n 3, 1) := by decide +kernel
theorem own_d3_16 : decode prog_6_method_15_code 16 = .ok (.iload 4, 2) := by decide +kernel
theorem own_d3_18 : decode prog_6_method_15_code 18 = .ok (.aload_n 3, 1) := by decide +kernel
theorem own_d3_19 : decode prog_6_method_15_code 19 = .ok (.iload 4, 2) := by decide +kernel
theorem own_d3_21 : decode prog_6_method_15_code 21 = .ok (.iconst 1, 1) := by decide +kernel
theorem own_d3_22 : decode prog_6_method_15_code 22 = .ok (.isub, 1) := by decide +kernel
theorem own_d3_23 : decode prog_6_method_15_code 23 = .ok (.iaload, 1) := by decide +kernel
theorem own_d3_24 : decode prog_6_method_15_code 24 = .ok (.aload_n 1, 1) := by decide +kernel
theorem own_d3_25 : decode prog_6_method_15_code 25 = .ok (.iload 4, 2) := by decide +kernel
theorem own_d3_27 : decode prog_6_method_15_code 27 = .ok (.iconst 1, 1) := by decide +kernel
theorem own_d3_28 : decode prog_6_method_15_code 28 = .ok (.isub, 1) := by decide +kernel
theorem own_d3_29 : decode prog_6_method_15_code 29 = .ok (.iaload, 1) := by decide +kernel
theorem own_d3_30 : decode prog_6_method_15_code 30 = .ok (.iadd, 1) := by decide +kernel
theorem own_d3_31 : decode prog_6_method_15_code 31 = .ok (.iastore, 1) := by decide +kernel
theorem own_d3_32 : decode prog_6_method_15_code 32 = .ok (.iinc 4 1, 3) := by decide +kernel
theorem own_d3_35 : decode prog_6_method_15_code 35 = .ok (.goto (-27), 3) := by decide +kernel
theorem own_d3_38 : decode prog_6_method_15_code 38 = .ok (.aload_n 0, 1) := by decide +kernel
theorem own_d3_39 : decode prog_6_method_15_code 39 = .ok (.arraylength, 1) := by decide +kernel
theorem own_d3_40 : decode prog_6_method_15_code 40 = .ok (.newarray .int, 2) := by decide +kernel
theorem own_d3_42 : decode prog_6_method_15_code 42 = .ok (.astore 4, 2) := by decide +kernel
theorem own_d3_44 : decode prog_6_method_15_code 44 = .ok (.aload_n 2, 1) := by decide +kernel
theorem own_d3_45 : decode prog_6_method_15_code 45 = .ok (.astore 5, 2) := by decide +kernel
theorem own_d3_47 : decode prog_6_method_15_code 47 = .ok (.aload 5, 2) := by decide +kernel
theorem own_d3_49 : decode prog_6_method_15_code 49 = .ok (.arraylength, 1) := by decide +kernel
theorem own_d3_50 : decode prog_6_method_15_code 50 = .ok (.istore 6, 2) := by decide +kernel
theorem own_d3_52 : decode prog_6_method_15_code 52 = .ok (.iconst 0, 1) := by decide +kernel
theorem own_d3_53 : decode prog_6_method_15_code 53 = .ok (.istore 7, 2) := by decide +kernel
theorem own_d3_55 : decode prog_6_method_15_code 55 = .ok (.iload 7, 2) := by decide +kernel
theorem own_d3_57 : decode prog_6_method_15_code 57 = .ok (.iload 6, 2) := by decide +kernel
theorem own_d3_59 : decode prog_6_method_15_code 59 = .ok (.if_icmp .ge 43, 3) := by decide +kernel
theorem own_d3_62 : decode prog_6_method_15_code 62 = .ok (.aload 5, 2) := by decide +kernel
theorem own_d3_64 : decode prog_6_method_15_code 64 = .ok (.iload 7, 2) := by decide +kernel
theorem own_d3_66 : decode prog_6_method_15_code 66 = .ok (.iaload, 1) := by decide +kernel
theorem own_d3_67 : decode prog_6_method_15_code 67 = .ok (.istore 8, 2) := by decide +kernel
theorem own_d3_69 : decode prog_6_method_15_code 69 = .ok (.aload 4, 2) := by decide +kernel
theorem own_d3_71 : decode prog_6_method_15_code 71 = .ok (.iload 8, 2) := by decide +kernel
theorem own_d3_73 : decode prog_6_method_15_code 73 = .ok (.aload_n 0, 1) := by decide +kernel
theorem own_d3_74 : decode prog_6_method_15_code 74 = .ok (.iload 8, 2) := by decide +kernel
theorem own_d3_76 : decode prog_6_method_15_code 76 = .ok (.saload, 1) := by decide +kernel
theorem own_d3_77 : decode prog_6_method_15_code 77 = .ok (.ifCond .ge 7, 3) := by decide +kernel
theorem own_d3_80 : decode prog_6_method_15_code 80 = .ok (.iconst (-1), 1) := by decide +kernel
theorem own_d3_81 : decode prog_6_method_15_code 81 = .ok (.goto 14, 3) := by decide +kernel
theorem own_d3_84 : decode prog_6_method_15_code 84 = .ok (.aload_n 3, 1) := by decide +kernel
theorem own_d3_85 : decode prog_6_method_15_code 85 = .ok (.aload_n 0, 1) := by decide +kernel
theorem own_d3_86 : decode prog_6_method_15_code 86 = .ok (.iload 8, 2) := by decide +kernel
theorem own_d3_88 : decode prog_6_method_15_code 88 = .ok (.saload, 1) := by decide +kernel
theorem own_d3_89 : decode prog_6_method_15_code 89 = .ok (.dup2, 1) := by decide +kernel
theorem own_d3_90 : decode prog_6_method_15_code 90 = .ok (.iaload, 1) := by decide +kernel
theorem own_d3_91 : decode prog_6_method_15_code 91 = .ok (.dup_x2, 1) := by decide +kernel
theorem own_d3_92 : decode prog_6_method_15_code 92 = .ok (.iconst 1, 1) := by decide +kernel
theorem own_d3_93 : decode prog_6_method_15_code 93 = .ok (.iadd, 1) := by decide +kernel
theorem own_d3_94 : decode prog_6_method_15_code 94 = .ok (.iastore, 1) := by decide +kernel
theorem own_d3_95 : decode prog_6_method_15_code 95 = .ok (.iastore, 1) := by decide +kernel
theorem own_d3_96 : decode prog_6_method_15_code 96 = .ok (.iinc 7 1, 3) := by decide +kernel
theorem own_d3_99 : decode prog_6_method_15_code 99 = .ok (.goto (-44), 3) := by decide +kernel
theorem own_d3_102 : decode prog_6_method_15_code 102 = .ok (.aload 4, 2) := by decide +kernel
theorem own_d3_104 : decode prog_6_method_15_code 104 = .ok (.areturn, 1) := by decide +kernel
theorem own_pn1 : plainName "com/example/rankbucket/rankbucket/Bucketing" = true := by first | (simp [plainName, overriddenIn]; done) | decide +kernel
theorem own_ef3 (m : MethodId) (a1 : Addr) (a2 : Addr) (a3 : Addr) : entryFrame m #[(.ref a1), (.ref a2), (.ref a3)] 9 = mkF m 0 #[.val (.ref a1), .val (.ref a2), .val (.ref a3), .unset, .unset, .unset, .unset, .unset, .unset] [] := by first | (simp [entryFrame, mkF, argsToLocals, Value.category]; done) | rfl
def own_Q3 (Z : State) (a1 a2 a3 : Addr) (be sz om : Nat → Int32) (sg : Nat → Nat) (nb : Nat) (h0 : Heap) (n0 : Nat) (v : Option Value) (h : Heap) (L : List Loc) : Prop := ∃ b, v = some (.ref b) ∧ Fr n0 L ∧ n0 ≤ b ∧ h0.size ≤ b ∧ Keep h0 h [] ∧ own_AI Z h b .int 4 (own_rk be sz sg 4)
set_option maxRecDepth 65536 in
set_option maxHeartbeats 40000000 in
theorem own_rm3 (l : Launch) (Z : State) (a0 : Array Value) (hw : ∀ d ∈ tables_1, d.before a0 Z = true) (ws : List Jvm.Cond) (a1 a2 a3 : Addr) (be sz om : Nat → Int32) (sg : Nat → Nat) (nb : Nat) (h0 : Heap) (n0 : Nat) (Z0 : n0 ≤ h0.size) (pA : own_AI Z h0 a1 .short 4 be) (pS : own_AI Z h0 a2 .int nb sz) (pO : own_AI Z h0 a3 .int 4 om) (hom : ∀ i, i < 4 → (om i).toInt = (sg i : Int)) (bsg : ∀ i, i < 4 → sg i < 4) (bb1 : 1 ≤ nb) (bb4 : nb ≤ 4) (hbe : ∀ i, i < 4 → (be i).toInt < (nb : Int)) :
    MetFree l (⟨"com/example/rankbucket/rankbucket/Bucketing", "ranks", "([S[I[I)[I"⟩ : MethodName) (head1 (Jvm.Cond.code (⟨"com/example/rankbucket/rankbucket/Bucketing", "ranks", "([S[I[I)[I"⟩ : MethodName) prog_6_method_15_code 9 (some (.array .int)) :: ws) ({ frames := 0, cells := 2, slots := 8, locals := 0 } : Room)) (fun a U => a = #[(.ref a1), (.ref a2), (.ref a3)] ∧ Z.Warmed39 U.vm ∧ U.heap = h0) (fun _ _ _ _ _ => True) (fun _ U o U' => ∃ v L, o = .returned v ∧ own_Q3 Z a1 a2 a3 be sz om sg nb h0 n0 v U'.heap L ∧ FrameEnd U o U' L ({ frames := 0, cells := 2, slots := 8, locals := 0 } : Room).cells ({ frames := 0, cells := 2, slots := 8, locals := 0 } : Room).slots) := by
  refine MetFree.of_bodySF (plainFor_of_name own_pn1) hisR ?_
  intro p e s m args below meth c s₁ Bd hml0 hP hK
  obtain ⟨rfl, hZ, hh⟩ := hP
  have hx := Bd.exec
  have hby := Bd.bytes
  have hml : c.maxLocals = 9 := hml0
  have hown : s.vm.findClass "com/example/rankbucket/rankbucket/Bucketing" = some m.cls := findClass_of_methodNamed Bd.named
  have hnm := (name_of_methodNamed Bd.named Bd.method).1
  have X0 : Stand p l e ({ frames := 0, cells := 2, slots := 8, locals := 0 } : Room) s m #[(.ref a1), (.ref a2), (.ref a3)] below meth c s₁ [] 0 0 := Stand.of_body Bd
  have e0 : s₁.heap = h0 := by rw [← hh, Bd.state]; rfl
  have N0 := Fr.nil n0
  refine own_nm (st := s₁.setTop (entryFrame m #[(.ref a1), (.ref a2), (.ref a3)] 9)) fun P fin => ?_
  refine own_fwd (fun tt kt => castTop (own_ef3 m a1 a2 a3) kt) ?_
  show own_R p.tables e below P (s₁.setTop (mkF m 0 #[.val (.ref a1), .val (.ref a2), .val (.ref a3), .unset, .unset, .unset, .unset, .unset, .unset] []))
  have K0 := Keep.refl h0 []
  refine own_fwd (fun tt kt => XS.aloadN X0.here hx rfl (hb hby own_d3_0) rfl rfl kt) ?_
  show own_R p.tables e below P (s₁.setTop (mkF m 1 #[.val (.ref a1), .val (.ref a2), .val (.ref a3), .unset, .unset, .unset, .unset, .unset, .unset] [(.ref a2)]))
  refine own_fwd (own_len X0 hx hZ e0 pS nb.toInt32 (len_toInt pS.bd) (g := (mkF m 1 #[.val (.ref a1), .val (.ref a2), .val (.ref a3), .unset, .unset, .unset, .unset, .unset, .unset] [(.ref a2)])) rfl rfl (hb hby own_d3_1)) ?_
  show own_R p.tables e below P (s₁.setTop (mkF m 2 #[.val (.ref a1), .val (.ref a2), .val (.ref a3), .unset, .unset, .unset, .unset, .unset, .unset] [(.int nb.toInt32)]))
  obtain ⟨T24, h24, b24, g24, X24, e24, E24, A24, B24, st24⟩ := own_newA (n := nb) X0 hx hZ (hw _ (List.mem_of_getElem? (i := 1) rfl)) e0 (z := nb.toInt32) (len_toInt pS.bd) (cap := 4) bb4 (g := (mkF m 2 #[.val (.ref a1), .val (.ref a2), .val (.ref a3), .unset, .unset, .unset, .unset, .unset, .unset] [(.int nb.toInt32)])) rfl (hb hby own_d3_2) rfl (by decide) (by decide) (by decide) (ad := "[I") (by decide)
  have ne24_a1 : a1 ≠ b24 := Nat.ne_of_lt (by rw [g24]; exact pA.lt)
  have ne24_a2 : a2 ≠ b24 := Nat.ne_of_lt (by rw [g24]; exact pS.lt)
  have ne24_a3 : a3 ≠ b24 := Nat.ne_of_lt (by rw [g24]; exact pO.lt)
  have ge_b24 : n0 ≤ b24 := by rw [g24]; exact Z0
  have sz_b24 : h0.size ≤ b24 := by rw [g24]; exact (Nat.le_refl h0.size)
  have pA_x24 := pA.ext E24
  have pS_x24 := pS.ext E24
  have pO_x24 := pO.ext E24
  have A24_ : own_AI Z h24 b24 .int nb (fun _ => (0 : Int32)) := A24
  have Z24 : n0 ≤ h24.size := Nat.le_trans Z0 E24.1
  have K24 := K0.ext E24
  have Y24 : h0.size ≤ h24.size := Nat.le_trans (Nat.le_refl h0.size) E24.1
  refine own_fwd st24 ?_
  show own_R p.tables e below P (T24.setTop (mkF m 4 #[.val (.ref a1), .val (.ref a2), .val (.ref a3), .unset, .unset, .unset, .unset, .unset, .unset] [(.ref b24)]))
  refine own_fwd (fun tt kt => XS.astoreN X24.here hx rfl (hb hby own_d3_4) rfl rfl (l' := #[.val (.ref a1), .val (.ref a2), .val (.ref a3), .val (.ref b24), .unset, .unset, .unset, .unset, .unset]) rfl kt) ?_
  show own_R p.tables e below P (T24.setTop (mkF m 5 #[.val (.ref a1), .val (.ref a2), .val (.ref a3), .val (.ref b24), .unset, .unset, .unset, .unset, .unset] []))
  refine own_fwd (fun tt kt => XS.iconst X24.here hx rfl (hb hby own_d3_5) kt) ?_
  show own_R p.tables e below P (T24.setTop (mkF m 6 #[.val (.ref a1), .val (.ref a2), .val (.ref a3), .val (.ref b24), .unset, .unset, .unset, .unset, .unset] [(.int (1 : Int32))]))
  refine own_fwd (fun tt kt => XS.istore X24.here hx rfl (hb hby own_d3_6) rfl (l' := #[.val (.ref a1), .val (.ref a2), .val (.ref a3), .val (.ref b24), .val (.int (1 : Int32)), .unset, .unset, .unset, .unset]) rfl kt) ?_
  show own_R p.tables e below P (T24.setTop (mkF m 8 #[.val (.ref a1), .val (.ref a2), .val (.ref a3), .val (.ref b24), .val (.int (1 : Int32)), .unset, .unset, .unset, .unset] []))
  have St1 : own_AI Z h24 b24 .int nb (own_s1 sz (0 + 1)) := A24_.cong fun j _ => by
    unfold own_s1
    by_cases c : j < 0 + 1
    · rw [if_pos c]; obtain rfl : j = 0 := by omega
      rfl
    · rw [if_neg c]
  have loop1 : ∀ (k i : Nat) (zi : Int32) (T : State) (h : Heap) (locs : List Loc) (X : Stand p l e ({ frames := 0, cells := 2, slots := 8, locals := 0 } : Room) s m #[(.ref a1), (.ref a2), (.ref a3)] below meth c T locs 1 4) (eT : T.heap = h) (N : Fr n0 locs) (Zs : n0 ≤ h.size) (Y : h0.size ≤ h.size) (Kp : Keep h0 h []) (gA : own_AI Z h a1 .short 4 be) (gS : own_AI Z h a2 .int nb sz) (gO : own_AI Z h a3 .int 4 om) (gT : own_AI Z h b24 .int nb (own_s1 sz (i + 1))), (i + 1) + k = nb → zi.toInt = ((i + 1 : Nat) : Int) → own_R p.tables e below P (T.setTop (mkF m 8 #[.val (.ref a1), .val (.ref a2), .val (.ref a3), .val (.ref b24), .val (.int zi), .unset, .unset, .unset, .unset] [])) := by
    intro k
    induction k with
    | zero =>
      intro i zi T h locs X eT N Zs Y Kp gA gS gO gT hik hzi
      refine own_fwd (fun tt kt => XS.iload X.here hx rfl (hb hby own_d3_8) rfl kt) ?_
      show own_R p.tables e below P (T.setTop (mkF m 10 #[.val (.ref a1), .val (.ref a2), .val (.ref a3), .val (.ref b24), .val (.int zi), .unset, .unset, .unset, .unset] [(.int zi)]))
      refine own_fwd (fun tt kt => XS.aloadN X.here hx rfl (hb hby own_d3_10) rfl rfl kt) ?_
      show own_R p.tables e below P (T.setTop (mkF m 11 #[.val (.ref a1), .val (.ref a2), .val (.ref a3), .val (.ref b24), .val (.int zi), .unset, .unset, .unset, .unset] [(.ref a2), (.int zi)]))
      refine own_fwd (own_len X hx hZ eT gS nb.toInt32 (len_toInt pS.bd) (g := (mkF m 11 #[.val (.ref a1), .val (.ref a2), .val (.ref a3), .val (.ref b24), .val (.int zi), .unset, .unset, .unset, .unset] [(.ref a2), (.int zi)])) rfl rfl (hb hby own_d3_11)) ?_
      show own_R p.tables e below P (T.setTop (mkF m 12 #[.val (.ref a1), .val (.ref a2), .val (.ref a3), .val (.ref b24), .val (.int zi), .unset, .unset, .unset, .unset] [(.int nb.toInt32), (.int zi)]))
      have hc25 : ¬ (zi < nb.toInt32) := by rw [Int32.lt_iff_toInt_lt, len_toInt pS.bd]; omega
      refine own_fwd (fun tt kt => XS.icmpYes X.here hx rfl (pc0 := 12) (pc' := 38) rfl (hb hby own_d3_12) rfl (flt hc25).2.1 (by decide) (by decide) kt) ?_
      show own_R p.tables e below P (T.setTop (mkF m 38 #[.val (.ref a1), .val (.ref a2), .val (.ref a3), .val (.ref b24), .val (.int zi), .unset, .unset, .unset, .unset] []))
      refine own_fwd (fun tt kt => XS.aloadN X.here hx rfl (hb hby own_d3_38) rfl rfl kt) ?_
      show own_R p.tables e below P (T.setTop (mkF m 39 #[.val (.ref a1), .val (.ref a2), .val (.ref a3), .val (.ref b24), .val (.int zi), .unset, .unset, .unset, .unset] [(.ref a1)]))
      refine own_fwd (own_len X hx hZ eT gA (4 : Int32) (by decide) (g := (mkF m 39 #[.val (.ref a1), .val (.ref a2), .val (.ref a3), .val (.ref b24), .val (.int zi), .unset, .unset, .unset, .unset] [(.ref a1)])) rfl rfl (hb hby own_d3_39)) ?_
      show own_R p.tables e below P (T.setTop (mkF m 40 #[.val (.ref a1), .val (.ref a2), .val (.ref a3), .val (.ref b24), .val (.int zi), .unset, .unset, .unset, .unset] [(.int (4 : Int32))]))
      obtain ⟨T26, h26, b26, g26, X26, e26, E26, A26, B26, st26⟩ := own_newA (n := 4) X hx hZ (hw _ (List.mem_of_getElem? (i := 1) rfl)) eT (z := (4 : Int32)) (by decide) (cap := 4) (by decide) (g := (mkF m 40 #[.val (.ref a1), .val (.ref a2), .val (.ref a3), .val (.ref b24), .val (.int zi), .unset, .unset, .unset, .unset] [(.int (4 : Int32))])) rfl (hb hby own_d3_40) rfl (by decide) (by decide) (by decide) (ad := "[I") (by decide)
      have ne26_a1 : a1 ≠ b26 := Nat.ne_of_lt (by rw [g26]; exact gA.lt)
      have ne26_a2 : a2 ≠ b26 := Nat.ne_of_lt (by rw [g26]; exact gS.lt)
      have ne26_a3 : a3 ≠ b26 := Nat.ne_of_lt (by rw [g26]; exact gO.lt)
      have ne26_b24 : b24 ≠ b26 := Nat.ne_of_lt (by rw [g26]; exact gT.lt)
      have ge_b26 : n0 ≤ b26 := by rw [g26]; exact Zs
      have sz_b26 : h0.size ≤ b26 := by rw [g26]; exact Y
      have gA_x26 := gA.ext E26
      have gS_x26 := gS.ext E26
      have gO_x26 := gO.ext E26
      have gT_x26 := gT.ext E26
      have A26_ : own_AI Z h26 b26 .int 4 (fun _ => (0 : Int32)) := A26
      have Z26 : n0 ≤ h26.size := Nat.le_trans Zs E26.1
      have K26 := Kp.ext E26
      have Y26 : h0.size ≤ h26.size := Nat.le_trans Y E26.1
      refine own_fwd st26 ?_
      show own_R p.tables e below P (T26.setTop (mkF m 42 #[.val (.ref a1), .val (.ref a2), .val (.ref a3), .val (.ref b24), .val (.int zi), .unset, .unset, .unset, .unset] [(.ref b26)]))
      refine own_fwd (fun tt kt => XS.astore X26.here hx rfl (hb hby own_d3_42) rfl rfl (l' := #[.val (.ref a1), .val (.ref a2), .val (.ref a3), .val (.ref b24), .val (.ref b26), .unset, .unset, .unset, .unset]) rfl kt) ?_
      show own_R p.tables e below P (T26.setTop (mkF m 44 #[.val (.ref a1), .val (.ref a2), .val (.ref a3), .val (.ref b24), .val (.ref b26), .unset, .unset, .unset, .unset] []))
      refine own_fwd (fun tt kt => XS.aloadN X26.here hx rfl (hb hby own_d3_44) rfl rfl kt) ?_
      show own_R p.tables e below P (T26.setTop (mkF m 45 #[.val (.ref a1), .val (.ref a2), .val (.ref a3), .val (.ref b24), .val (.ref b26), .unset, .unset, .unset, .unset] [(.ref a3)]))
      refine own_fwd (fun tt kt => XS.astore X26.here hx rfl (hb hby own_d3_45) rfl rfl (l' := #[.val (.ref a1), .val (.ref a2), .val (.ref a3), .val (.ref b24), .val (.ref b26), .val (.ref a3), .unset, .unset, .unset]) rfl kt) ?_
      show own_R p.tables e below P (T26.setTop (mkF m 47 #[.val (.ref a1), .val (.ref a2), .val (.ref a3), .val (.ref b24), .val (.ref b26), .val (.ref a3), .unset, .unset, .unset] []))
      refine own_fwd (fun tt kt => XS.aload X26.here hx rfl (hb hby own_d3_47) rfl rfl kt) ?_
      show own_R p.tables e below P (T26.setTop (mkF m 49 #[.val (.ref a1), .val (.ref a2), .val (.ref a3), .val (.ref b24), .val (.ref b26), .val (.ref a3), .unset, .unset, .unset] [(.ref a3)]))
      refine own_fwd (own_len X26 hx hZ e26 gO_x26 (4 : Int32) (by decide) (g := (mkF m 49 #[.val (.ref a1), .val (.ref a2), .val (.ref a3), .val (.ref b24), .val (.ref b26), .val (.ref a3), .unset, .unset, .unset] [(.ref a3)])) rfl rfl (hb hby own_d3_49)) ?_
      show own_R p.tables e below P (T26.setTop (mkF m 50 #[.val (.ref a1), .val (.ref a2), .val (.ref a3), .val (.ref b24), .val (.ref b26), .val (.ref a3), .unset, .unset, .unset] [(.int (4 : Int32))]))
      refine own_fwd (fun tt kt => XS.istore X26.here hx rfl (hb hby own_d3_50) rfl (l' := #[.val (.ref a1), .val (.ref a2), .val (.ref a3), .val (.ref b24), .val (.ref b26), .val (.ref a3), .val (.int (4 : Int32)), .unset, .unset]) rfl kt) ?_
      show own_R p.tables e below P (T26.setTop (mkF m 52 #[.val (.ref a1), .val (.ref a2), .val (.ref a3), .val (.ref b24), .val (.ref b26), .val (.ref a3), .val (.int (4 : Int32)), .unset, .unset] []))
      refine own_fwd (fun tt kt => XS.iconst X26.here hx rfl (hb hby own_d3_52) kt) ?_
      show own_R p.tables e below P (T26.setTop (mkF m 53 #[.val (.ref a1), .val (.ref a2), .val (.ref a3), .val (.ref b24), .val (.ref b26), .val (.ref a3), .val (.int (4 : Int32)), .unset, .unset] [(.int (0 : Int32))]))
      refine own_fwd (fun tt kt => XS.istore X26.here hx rfl (hb hby own_d3_53) rfl (l' := #[.val (.ref a1), .val (.ref a2), .val (.ref a3), .val (.ref b24), .val (.ref b26), .val (.ref a3), .val (.int (4 : Int32)), .val (.int (0 : Int32)), .unset]) rfl kt) ?_
      show own_R p.tables e below P (T26.setTop (mkF m 55 #[.val (.ref a1), .val (.ref a2), .val (.ref a3), .val (.ref b24), .val (.ref b26), .val (.ref a3), .val (.int (4 : Int32)), .val (.int (0 : Int32)), .unset] []))
      have gT0 : own_AI Z h26 b24 .int nb (own_sf be sz sg 0) := gT_x26.cong fun j hj => by rw [own_sf_0 (n := i + 1) (by omega)]
      have gR0 : own_AI Z h26 b26 .int 4 (own_rk be sz sg 0) := A26_
      have loop2 : ∀ (k2 i2 : Nat) (z2 : Int32) (s8 : Slot) (hs8 : One s8) (T : State) (h : Heap) (locs : List Loc) (X : Stand p l e ({ frames := 0, cells := 2, slots := 8, locals := 0 } : Room) s m #[(.ref a1), (.ref a2), (.ref a3)] below meth c T locs 2 8) (eT : T.heap = h) (N : Fr n0 locs) (Zs : n0 ≤ h.size) (Y : h0.size ≤ h.size) (Kp : Keep h0 h []) (gA : own_AI Z h a1 .short 4 be) (gS : own_AI Z h a2 .int nb sz) (gO : own_AI Z h a3 .int 4 om) (gR : own_AI Z h b26 .int 4 (own_rk be sz sg i2)) (gT : own_AI Z h b24 .int nb (own_sf be sz sg i2)), i2 + k2 = 4 → z2.toInt = (i2 : Int) → own_R p.tables e below P (T.setTop (mkF m 55 #[.val (.ref a1), .val (.ref a2), .val (.ref a3), .val (.ref b24), .val (.ref b26), .val (.ref a3), .val (.int (4 : Int32)), .val (.int z2), s8] [])) := by
        intro k2
        induction k2 with
        | zero =>
          intro i2 z2 s8 hs8 T h locs X eT N Zs Y Kp gA gS gO gR gT hik2 hz2
          refine own_fwd (fun tt kt => XS.iload X.here hx rfl (hb hby own_d3_55) rfl kt) ?_
          show own_R p.tables e below P (T.setTop (mkF m 57 #[.val (.ref a1), .val (.ref a2), .val (.ref a3), .val (.ref b24), .val (.ref b26), .val (.ref a3), .val (.int (4 : Int32)), .val (.int z2), s8] [(.int z2)]))
          refine own_fwd (fun tt kt => XS.iload X.here hx rfl (hb hby own_d3_57) rfl kt) ?_
          show own_R p.tables e below P (T.setTop (mkF m 59 #[.val (.ref a1), .val (.ref a2), .val (.ref a3), .val (.ref b24), .val (.ref b26), .val (.ref a3), .val (.int (4 : Int32)), .val (.int z2), s8] [(.int (4 : Int32)), (.int z2)]))
          have hc27 : ¬ (z2 < (4 : Int32)) := by rw [Int32.lt_iff_toInt_lt, hz2]; have q4 : (4 : Int32).toInt = 4 := rfl; omega
          refine own_fwd (fun tt kt => XS.icmpYes X.here hx rfl (pc0 := 59) (pc' := 102) rfl (hb hby own_d3_59) rfl (flt hc27).2.1 (by decide) (by decide) kt) ?_
          show own_R p.tables e below P (T.setTop (mkF m 102 #[.val (.ref a1), .val (.ref a2), .val (.ref a3), .val (.ref b24), .val (.ref b26), .val (.ref a3), .val (.int (4 : Int32)), .val (.int z2), s8] []))
          refine own_fwd (fun tt kt => XS.aload X.here hx rfl (hb hby own_d3_102) rfl rfl kt) ?_
          show own_R p.tables e below P (T.setTop (mkF m 104 #[.val (.ref a1), .val (.ref a2), .val (.ref a3), .val (.ref b24), .val (.ref b26), .val (.ref a3), .val (.int (4 : Int32)), .val (.int z2), s8] [(.ref b26)]))
          obtain ⟨fs28, hr28, hrun28, hended28, hW28, hsame28⟩ := X.leave (v := some (.ref b26)) (fun h => by rw [Bd.returns] at h; cases h)
          refine ⟨_, _, X.areturnOut hx rfl Bd.returns rfl (hb hby own_d3_104) hr28, fin _ _ ⟨hrun28, hended28, _, _, rfl, ?_, ⟨_, rfl⟩, hW28, hsame28.mono (by decide) (by decide)⟩⟩
          show own_Q3 Z a1 a2 a3 be sz om sg nb h0 n0 _ T.heap _
          rw [eT]
          obtain rfl : i2 = 4 := by omega
          exact ⟨b26, rfl, N, ge_b26, sz_b26, Kp, gR⟩
        | succ k2 ih2 =>
          intro i2 z2 s8 hs8 T h locs X eT N Zs Y Kp gA gS gO gR gT hik2 hz2
          refine own_fwd (fun tt kt => XS.iload X.here hx rfl (hb hby own_d3_55) rfl kt) ?_
          show own_R p.tables e below P (T.setTop (mkF m 57 #[.val (.ref a1), .val (.ref a2), .val (.ref a3), .val (.ref b24), .val (.ref b26), .val (.ref a3), .val (.int (4 : Int32)), .val (.int z2), s8] [(.int z2)]))
          refine own_fwd (fun tt kt => XS.iload X.here hx rfl (hb hby own_d3_57) rfl kt) ?_
          show own_R p.tables e below P (T.setTop (mkF m 59 #[.val (.ref a1), .val (.ref a2), .val (.ref a3), .val (.ref b24), .val (.ref b26), .val (.ref a3), .val (.int (4 : Int32)), .val (.int z2), s8] [(.int (4 : Int32)), (.int z2)]))
          have hc29 : z2 < (4 : Int32) := by rw [Int32.lt_iff_toInt_lt, hz2]; have q4 : (4 : Int32).toInt = 4 := rfl; omega
          refine own_fwd (fun tt kt => XS.icmpNo X.here hx rfl (hb hby own_d3_59) rfl (tlt hc29).2.1 kt) ?_
          show own_R p.tables e below P (T.setTop (mkF m 62 #[.val (.ref a1), .val (.ref a2), .val (.ref a3), .val (.ref b24), .val (.ref b26), .val (.ref a3), .val (.int (4 : Int32)), .val (.int z2), s8] []))
          refine own_fwd (fun tt kt => XS.aload X.here hx rfl (hb hby own_d3_62) rfl rfl kt) ?_
          show own_R p.tables e below P (T.setTop (mkF m 64 #[.val (.ref a1), .val (.ref a2), .val (.ref a3), .val (.ref b24), .val (.ref b26), .val (.ref a3), .val (.int (4 : Int32)), .val (.int z2), s8] [(.ref a3)]))
          refine own_fwd (fun tt kt => XS.iload X.here hx rfl (hb hby own_d3_64) rfl kt) ?_
          show own_R p.tables e below P (T.setTop (mkF m 66 #[.val (.ref a1), .val (.ref a2), .val (.ref a3), .val (.ref b24), .val (.ref b26), .val (.ref a3), .val (.int (4 : Int32)), .val (.int z2), s8] [(.int z2), (.ref a3)]))
          refine own_fwd (own_ldI X hx hZ eT gO (j := z2) i2 hz2 (by omega) (g := (mkF m 66 #[.val (.ref a1), .val (.ref a2), .val (.ref a3), .val (.ref b24), .val (.ref b26), .val (.ref a3), .val (.int (4 : Int32)), .val (.int z2), s8] [(.int z2), (.ref a3)])) rfl rfl (hb hby own_d3_66)) ?_
          show own_R p.tables e below P (T.setTop (mkF m 67 #[.val (.ref a1), .val (.ref a2), .val (.ref a3), .val (.ref b24), .val (.ref b26), .val (.ref a3), .val (.int (4 : Int32)), .val (.int z2), s8] [(.int (om i2))]))
          refine own_fwd (fun tt kt => XS.istoreS X.here hx rfl (hb hby own_d3_67) rfl rfl hs8 kt) ?_
          show own_R p.tables e below P (T.setTop (mkF m 69 #[.val (.ref a1), .val (.ref a2), .val (.ref a3), .val (.ref b24), .val (.ref b26), .val (.ref a3), .val (.int (4 : Int32)), .val (.int z2), .val (.int (om i2))] []))
          refine own_fwd (fun tt kt => XS.aload X.here hx rfl (hb hby own_d3_69) rfl rfl kt) ?_
          show own_R p.tables e below P (T.setTop (mkF m 71 #[.val (.ref a1), .val (.ref a2), .val (.ref a3), .val (.ref b24), .val (.ref b26), .val (.ref a3), .val (.int (4 : Int32)), .val (.int z2), .val (.int (om i2))] [(.ref b26)]))
          refine own_fwd (fun tt kt => XS.iload X.here hx rfl (hb hby own_d3_71) rfl kt) ?_
          show own_R p.tables e below P (T.setTop (mkF m 73 #[.val (.ref a1), .val (.ref a2), .val (.ref a3), .val (.ref b24), .val (.ref b26), .val (.ref a3), .val (.int (4 : Int32)), .val (.int z2), .val (.int (om i2))] [(.int (om i2)), (.ref b26)]))
          refine own_fwd (fun tt kt => XS.aloadN X.here hx rfl (hb hby own_d3_73) rfl rfl kt) ?_
          show own_R p.tables e below P (T.setTop (mkF m 74 #[.val (.ref a1), .val (.ref a2), .val (.ref a3), .val (.ref b24), .val (.ref b26), .val (.ref a3), .val (.int (4 : Int32)), .val (.int z2), .val (.int (om i2))] [(.ref a1), (.int (om i2)), (.ref b26)]))
          refine own_fwd (fun tt kt => XS.iload X.here hx rfl (hb hby own_d3_74) rfl kt) ?_
          show own_R p.tables e below P (T.setTop (mkF m 76 #[.val (.ref a1), .val (.ref a2), .val (.ref a3), .val (.ref b24), .val (.ref b26), .val (.ref a3), .val (.int (4 : Int32)), .val (.int z2), .val (.int (om i2))] [(.int (om i2)), (.ref a1), (.int (om i2)), (.ref b26)]))
          refine own_fwd (own_ldS X hx hZ eT gA (j := (om i2)) (sg i2) (hom i2 (by omega)) (bsg i2 (by omega)) (g := (mkF m 76 #[.val (.ref a1), .val (.ref a2), .val (.ref a3), .val (.ref b24), .val (.ref b26), .val (.ref a3), .val (.int (4 : Int32)), .val (.int z2), .val (.int (om i2))] [(.int (om i2)), (.ref a1), (.int (om i2)), (.ref b26)])) rfl rfl (hb hby own_d3_76)) ?_
          show own_R p.tables e below P (T.setTop (mkF m 77 #[.val (.ref a1), .val (.ref a2), .val (.ref a3), .val (.ref b24), .val (.ref b26), .val (.ref a3), .val (.int (4 : Int32)), .val (.int z2), .val (.int (om i2))] [(.int (be (sg i2))), (.int (om i2)), (.ref b26)]))
          by_cases hc30 : (be (sg i2)) < (0 : Int32)
          · refine own_fwd (fun tt kt => XS.ifNo X.here hx rfl (hb hby own_d3_77) rfl ((if0 _ _).trans (tlt hc30).2.1) kt) ?_
            show own_R p.tables e below P (T.setTop (mkF m 80 #[.val (.ref a1), .val (.ref a2), .val (.ref a3), .val (.ref b24), .val (.ref b26), .val (.ref a3), .val (.int (4 : Int32)), .val (.int z2), .val (.int (om i2))] [(.int (om i2)), (.ref b26)]))
            have hx' := hc30
            rw [Int32.lt_iff_toInt_lt, own_i0] at hx'
            have hbb := hbe (sg i2) (bsg i2 (by omega))
            refine own_fwd (fun tt kt => XS.iconst X.here hx rfl (hb hby own_d3_80) kt) ?_
            show own_R p.tables e below P (T.setTop (mkF m 81 #[.val (.ref a1), .val (.ref a2), .val (.ref a3), .val (.ref b24), .val (.ref b26), .val (.ref a3), .val (.int (4 : Int32)), .val (.int z2), .val (.int (om i2))] [(.int (-1 : Int32)), (.int (om i2)), (.ref b26)]))
            refine own_fwd (fun tt kt => XS.goto X.here hx rfl (pc0 := 81) (pc' := 95) rfl (hb hby own_d3_81) (by decide) (by decide) kt) ?_
            show own_R p.tables e below P (T.setTop (mkF m 95 #[.val (.ref a1), .val (.ref a2), .val (.ref a3), .val (.ref b24), .val (.ref b26), .val (.ref a3), .val (.int (4 : Int32)), .val (.int z2), .val (.int (om i2))] [(.int (-1 : Int32)), (.int (om i2)), (.ref b26)]))
            have hv31 : (-1 : Int32) = (own_rv be sz sg i2) := own_rv_no hc30
            rw [hv31]
            show own_R p.tables e below P (T.setTop (mkF m 95 #[.val (.ref a1), .val (.ref a2), .val (.ref a3), .val (.ref b24), .val (.ref b26), .val (.ref a3), .val (.int (4 : Int32)), .val (.int z2), .val (.int (om i2))] [(.int (own_rv be sz sg i2)), (.int (om i2)), (.ref b26)]))
            obtain ⟨T32, h32, X32, e32, W32, A32_, st32⟩ := own_stI X hx hZ eT gR (j := (om i2)) (sg i2) (hom i2 (by omega)) (bsg i2 (by omega)) (g := (mkF m 95 #[.val (.ref a1), .val (.ref a2), .val (.ref a3), .val (.ref b24), .val (.ref b26), .val (.ref a3), .val (.int (4 : Int32)), .val (.int z2), .val (.int (om i2))] [(.int (own_rv be sz sg i2)), (.int (om i2)), (.ref b26)])) rfl rfl (hb hby own_d3_95)
            have gA_x32 := gA.other W32 ne26_a1
            have gS_x32 := gS.other W32 ne26_a2
            have gO_x32 := gO.other W32 ne26_a3
            have gT_x32 := gT.other W32 ne26_b24
            have N32 := Fr.snoc X32 N ge_b26
            have Z32 : n0 ≤ h32.size := by rw [W32.size]; exact Zs
            have K32 := Kp.wr W32 (Or.inr sz_b26)
            have Y32 : h0.size ≤ h32.size := by rw [W32.size]; exact Y
            refine own_fwd st32 ?_
            show own_R p.tables e below P (T32.setTop (mkF m 96 #[.val (.ref a1), .val (.ref a2), .val (.ref a3), .val (.ref b24), .val (.ref b26), .val (.ref a3), .val (.int (4 : Int32)), .val (.int z2), .val (.int (om i2))] []))
            refine own_fwd (fun tt kt => XS.iinc X32.here hx rfl (hb hby own_d3_96) rfl (l' := #[.val (.ref a1), .val (.ref a2), .val (.ref a3), .val (.ref b24), .val (.ref b26), .val (.ref a3), .val (.int (4 : Int32)), .val (.int (z2 + (1 : Int32))), .val (.int (om i2))]) rfl kt) ?_
            show own_R p.tables e below P (T32.setTop (mkF m 99 #[.val (.ref a1), .val (.ref a2), .val (.ref a3), .val (.ref b24), .val (.ref b26), .val (.ref a3), .val (.int (4 : Int32)), .val (.int (z2 + (1 : Int32))), .val (.int (om i2))] []))
            refine own_fwd (fun tt kt => XS.goto X32.here hx rfl (pc0 := 99) (pc' := 55) rfl (hb hby own_d3_99) (by decide) (by decide) kt) ?_
            show own_R p.tables e below P (T32.setTop (mkF m 55 #[.val (.ref a1), .val (.ref a2), .val (.ref a3), .val (.ref b24), .val (.ref b26), .val (.ref a3), .val (.int (4 : Int32)), .val (.int (z2 + (1 : Int32))), .val (.int (om i2))] []))
            have gTn : own_AI Z h32 b24 .int nb (own_sf be sz sg (i2 + 1)) := gT_x32.cong fun j hj => by rw [own_sf_no hc30 (by omega)]
            exact ih2 (i2 + 1) _ _ (One.val rfl) _ _ _ X32 e32 N32 Z32 Y32 K32 gA_x32 gS_x32 gO_x32 A32_ gTn (by omega) (own_add (j := 1) hz2 own_i1 (by omega))
          · refine own_fwd (fun tt kt => XS.ifYes X.here hx rfl (pc0 := 77) (pc' := 84) rfl (hb hby own_d3_77) rfl ((if0 _ _).trans (flt hc30).2.1) (by decide) (by decide) kt) ?_
            show own_R p.tables e below P (T.setTop (mkF m 84 #[.val (.ref a1), .val (.ref a2), .val (.ref a3), .val (.ref b24), .val (.ref b26), .val (.ref a3), .val (.int (4 : Int32)), .val (.int z2), .val (.int (om i2))] [(.int (om i2)), (.ref b26)]))
            have hx' := hc30
            rw [Int32.lt_iff_toInt_lt, own_i0] at hx'
            have hbb := hbe (sg i2) (bsg i2 (by omega))
            refine own_fwd (fun tt kt => XS.aloadN X.here hx rfl (hb hby own_d3_84) rfl rfl kt) ?_
            show own_R p.tables e below P (T.setTop (mkF m 85 #[.val (.ref a1), .val (.ref a2), .val (.ref a3), .val (.ref b24), .val (.ref b26), .val (.ref a3), .val (.int (4 : Int32)), .val (.int z2), .val (.int (om i2))] [(.ref b24), (.int (om i2)), (.ref b26)]))
            refine own_fwd (fun tt kt => XS.aloadN X.here hx rfl (hb hby own_d3_85) rfl rfl kt) ?_
            show own_R p.tables e below P (T.setTop (mkF m 86 #[.val (.ref a1), .val (.ref a2), .val (.ref a3), .val (.ref b24), .val (.ref b26), .val (.ref a3), .val (.int (4 : Int32)), .val (.int z2), .val (.int (om i2))] [(.ref a1), (.ref b24), (.int (om i2)), (.ref b26)]))
            refine own_fwd (fun tt kt => XS.iload X.here hx rfl (hb hby own_d3_86) rfl kt) ?_
            show own_R p.tables e below P (T.setTop (mkF m 88 #[.val (.ref a1), .val (.ref a2), .val (.ref a3), .val (.ref b24), .val (.ref b26), .val (.ref a3), .val (.int (4 : Int32)), .val (.int z2), .val (.int (om i2))] [(.int (om i2)), (.ref a1), (.ref b24), (.int (om i2)), (.ref b26)]))
            refine own_fwd (own_ldS X hx hZ eT gA (j := (om i2)) (sg i2) (hom i2 (by omega)) (bsg i2 (by omega)) (g := (mkF m 88 #[.val (.ref a1), .val (.ref a2), .val (.ref a3), .val (.ref b24), .val (.ref b26), .val (.ref a3), .val (.int (4 : Int32)), .val (.int z2), .val (.int (om i2))] [(.int (om i2)), (.ref a1), (.ref b24), (.int (om i2)), (.ref b26)])) rfl rfl (hb hby own_d3_88)) ?_
            show own_R p.tables e below P (T.setTop (mkF m 89 #[.val (.ref a1), .val (.ref a2), .val (.ref a3), .val (.ref b24), .val (.ref b26), .val (.ref a3), .val (.int (4 : Int32)), .val (.int z2), .val (.int (om i2))] [(.int (be (sg i2))), (.ref b24), (.int (om i2)), (.ref b26)]))
            refine own_fwd (fun tt kt => XT.dup2 X.here hx rfl (hb hby own_d3_89) rfl rfl rfl kt) ?_
            show own_R p.tables e below P (T.setTop (mkF m 90 #[.val (.ref a1), .val (.ref a2), .val (.ref a3), .val (.ref b24), .val (.ref b26), .val (.ref a3), .val (.int (4 : Int32)), .val (.int z2), .val (.int (om i2))] [(.int (be (sg i2))), (.ref b24), (.int (be (sg i2))), (.ref b24), (.int (om i2)), (.ref b26)]))
            refine own_fwd (own_ldI X hx hZ eT gT (j := (be (sg i2))) ((be (sg i2)).toInt.toNat) (by omega) (by omega) (g := (mkF m 90 #[.val (.ref a1), .val (.ref a2), .val (.ref a3), .val (.ref b24), .val (.ref b26), .val (.ref a3), .val (.int (4 : Int32)), .val (.int z2), .val (.int (om i2))] [(.int (be (sg i2))), (.ref b24), (.int (be (sg i2))), (.ref b24), (.int (om i2)), (.ref b26)])) rfl rfl (hb hby own_d3_90)) ?_
            show own_R p.tables e below P (T.setTop (mkF m 91 #[.val (.ref a1), .val (.ref a2), .val (.ref a3), .val (.ref b24), .val (.ref b26), .val (.ref a3), .val (.int (4 : Int32)), .val (.int z2), .val (.int (om i2))] [(.int ((own_sf be sz sg i2) ((be (sg i2)).toInt.toNat))), (.int (be (sg i2))), (.ref b24), (.int (om i2)), (.ref b26)]))
            have hv33 : ((own_sf be sz sg i2) ((be (sg i2)).toInt.toNat)) = (own_rv be sz sg i2) := own_rv_yes hc30 (by omega) (by omega)
            rw [hv33]
            show own_R p.tables e below P (T.setTop (mkF m 91 #[.val (.ref a1), .val (.ref a2), .val (.ref a3), .val (.ref b24), .val (.ref b26), .val (.ref a3), .val (.int (4 : Int32)), .val (.int z2), .val (.int (om i2))] [(.int (own_rv be sz sg i2)), (.int (be (sg i2))), (.ref b24), (.int (om i2)), (.ref b26)]))
            refine own_fwd (fun tt kt => own_dupX2 X.here hx rfl (hb hby own_d3_91) rfl rfl rfl rfl kt) ?_
            show own_R p.tables e below P (T.setTop (mkF m 92 #[.val (.ref a1), .val (.ref a2), .val (.ref a3), .val (.ref b24), .val (.ref b26), .val (.ref a3), .val (.int (4 : Int32)), .val (.int z2), .val (.int (om i2))] [(.int (own_rv be sz sg i2)), (.int (be (sg i2))), (.ref b24), (.int (own_rv be sz sg i2)), (.int (om i2)), (.ref b26)]))
            refine own_fwd (fun tt kt => XS.iconst X.here hx rfl (hb hby own_d3_92) kt) ?_
            show own_R p.tables e below P (T.setTop (mkF m 93 #[.val (.ref a1), .val (.ref a2), .val (.ref a3), .val (.ref b24), .val (.ref b26), .val (.ref a3), .val (.int (4 : Int32)), .val (.int z2), .val (.int (om i2))] [(.int (1 : Int32)), (.int (own_rv be sz sg i2)), (.int (be (sg i2))), (.ref b24), (.int (own_rv be sz sg i2)), (.int (om i2)), (.ref b26)]))
            refine own_fwd (fun tt kt => XS.iadd X.here hx rfl (hb hby own_d3_93) rfl kt) ?_
            show own_R p.tables e below P (T.setTop (mkF m 94 #[.val (.ref a1), .val (.ref a2), .val (.ref a3), .val (.ref b24), .val (.ref b26), .val (.ref a3), .val (.int (4 : Int32)), .val (.int z2), .val (.int (om i2))] [(.int ((own_rv be sz sg i2) + (1 : Int32))), (.int (be (sg i2))), (.ref b24), (.int (own_rv be sz sg i2)), (.int (om i2)), (.ref b26)]))
            obtain ⟨T34, h34, X34, e34, W34, A34_, st34⟩ := own_stI X hx hZ eT gT (j := (be (sg i2))) ((be (sg i2)).toInt.toNat) (by omega) (by omega) (g := (mkF m 94 #[.val (.ref a1), .val (.ref a2), .val (.ref a3), .val (.ref b24), .val (.ref b26), .val (.ref a3), .val (.int (4 : Int32)), .val (.int z2), .val (.int (om i2))] [(.int ((own_rv be sz sg i2) + (1 : Int32))), (.int (be (sg i2))), (.ref b24), (.int (own_rv be sz sg i2)), (.int (om i2)), (.ref b26)])) rfl rfl (hb hby own_d3_94)
            have gA_x34 := gA.other W34 ne24_a1
            have gS_x34 := gS.other W34 ne24_a2
            have gO_x34 := gO.other W34 ne24_a3
            have gR_x34 := gR.other W34 (Ne.symm ne26_b24)
            have N34 := Fr.snoc X34 N ge_b24
            have Z34 : n0 ≤ h34.size := by rw [W34.size]; exact Zs
            have K34 := Kp.wr W34 (Or.inr sz_b24)
            have Y34 : h0.size ≤ h34.size := by rw [W34.size]; exact Y
            refine own_fwd st34 ?_
            show own_R p.tables e below P (T34.setTop (mkF m 95 #[.val (.ref a1), .val (.ref a2), .val (.ref a3), .val (.ref b24), .val (.ref b26), .val (.ref a3), .val (.int (4 : Int32)), .val (.int z2), .val (.int (om i2))] [(.int (own_rv be sz sg i2)), (.int (om i2)), (.ref b26)]))
            obtain ⟨T35, h35, X35, e35, W35, A35_, st35⟩ := own_stI X34 hx hZ e34 gR_x34 (j := (om i2)) (sg i2) (hom i2 (by omega)) (bsg i2 (by omega)) (g := (mkF m 95 #[.val (.ref a1), .val (.ref a2), .val (.ref a3), .val (.ref b24), .val (.ref b26), .val (.ref a3), .val (.int (4 : Int32)), .val (.int z2), .val (.int (om i2))] [(.int (own_rv be sz sg i2)), (.int (om i2)), (.ref b26)])) rfl rfl (hb hby own_d3_95)
            have gA_x35 := gA_x34.other W35 ne26_a1
            have gS_x35 := gS_x34.other W35 ne26_a2
            have gO_x35 := gO_x34.other W35 ne26_a3
            have A34__x35 := A34_.other W35 ne26_b24
            have N35 := Fr.snoc X35 N34 ge_b26
            have Z35 : n0 ≤ h35.size := by rw [W35.size]; exact Z34
            have K35 := K34.wr W35 (Or.inr sz_b26)
            have Y35 : h0.size ≤ h35.size := by rw [W35.size]; exact Y34
            refine own_fwd st35 ?_
            show own_R p.tables e below P (T35.setTop (mkF m 96 #[.val (.ref a1), .val (.ref a2), .val (.ref a3), .val (.ref b24), .val (.ref b26), .val (.ref a3), .val (.int (4 : Int32)), .val (.int z2), .val (.int (om i2))] []))
            refine own_fwd (fun tt kt => XS.iinc X35.here hx rfl (hb hby own_d3_96) rfl (l' := #[.val (.ref a1), .val (.ref a2), .val (.ref a3), .val (.ref b24), .val (.ref b26), .val (.ref a3), .val (.int (4 : Int32)), .val (.int (z2 + (1 : Int32))), .val (.int (om i2))]) rfl kt) ?_
            show own_R p.tables e below P (T35.setTop (mkF m 99 #[.val (.ref a1), .val (.ref a2), .val (.ref a3), .val (.ref b24), .val (.ref b26), .val (.ref a3), .val (.int (4 : Int32)), .val (.int (z2 + (1 : Int32))), .val (.int (om i2))] []))
            refine own_fwd (fun tt kt => XS.goto X35.here hx rfl (pc0 := 99) (pc' := 55) rfl (hb hby own_d3_99) (by decide) (by decide) kt) ?_
            show own_R p.tables e below P (T35.setTop (mkF m 55 #[.val (.ref a1), .val (.ref a2), .val (.ref a3), .val (.ref b24), .val (.ref b26), .val (.ref a3), .val (.int (4 : Int32)), .val (.int (z2 + (1 : Int32))), .val (.int (om i2))] []))
            have gTn : own_AI Z h35 b24 .int nb (own_sf be sz sg (i2 + 1)) := A34__x35.cong fun j hj => by rw [own_sf_yes (x := (be (sg i2)).toInt.toNat) (by omega) (by omega), own_rv_yes hc30 (by omega) (by omega)]
            exact ih2 (i2 + 1) _ _ (One.val rfl) _ _ _ X35 e35 N35 Z35 Y35 K35 gA_x35 gS_x35 gO_x35 A35_ gTn (by omega) (own_add (j := 1) hz2 own_i1 (by omega))
      exact loop2 4 0 0 _ One.u _ _ _ X26 e26 N Z26 Y26 K26 gA_x26 gS_x26 gO_x26 gR0 gT0 (by omega) rfl
    | succ k ih =>
      intro i zi T h locs X eT N Zs Y Kp gA gS gO gT hik hzi
      refine own_fwd (fun tt kt => XS.iload X.here hx rfl (hb hby own_d3_8) rfl kt) ?_
      show own_R p.tables e below P (T.setTop (mkF m 10 #[.val (.ref a1), .val (.ref a2), .val (.ref a3), .val (.ref b24), .val (.int zi), .unset, .unset, .unset, .unset] [(.int zi)]))
      refine own_fwd (fun tt kt => XS.aloadN X.here hx rfl (hb hby own_d3_10) rfl rfl kt) ?_
      show own_R p.tables e below P (T.setTop (mkF m 11 #[.val (.ref a1), .val (.ref a2), .val (.ref a3), .val (.ref b24), .val (.int zi), .unset, .unset, .unset, .unset] [(.ref a2), (.int zi)]))
      refine own_fwd (own_len X hx hZ eT gS nb.toInt32 (len_toInt pS.bd) (g := (mkF m 11 #[.val (.ref a1), .val (.ref a2), .val (.ref a3), .val (.ref b24), .val (.int zi), .unset, .unset, .unset, .unset] [(.ref a2), (.int zi)])) rfl rfl (hb hby own_d3_11)) ?_
      show own_R p.tables e below P (T.setTop (mkF m 12 #[.val (.ref a1), .val (.ref a2), .val (.ref a3), .val (.ref b24), .val (.int zi), .unset, .unset, .unset, .unset] [(.int nb.toInt32), (.int zi)]))
      have hc36 : zi < nb.toInt32 := by rw [Int32.lt_iff_toInt_lt, len_toInt pS.bd]; omega
      refine own_fwd (fun tt kt => XS.icmpNo X.here hx rfl (hb hby own_d3_12) rfl (tlt hc36).2.1 kt) ?_
      show own_R p.tables e below P (T.setTop (mkF m 15 #[.val (.ref a1), .val (.ref a2), .val (.ref a3), .val (.ref b24), .val (.int zi), .unset, .unset, .unset, .unset] []))
      refine own_fwd (fun tt kt => XS.aloadN X.here hx rfl (hb hby own_d3_15) rfl rfl kt) ?_
      show own_R p.tables e below P (T.setTop (mkF m 16 #[.val (.ref a1), .val (.ref a2), .val (.ref a3), .val (.ref b24), .val (.int zi), .unset, .unset, .unset, .unset] [(.ref b24)]))
      refine own_fwd (fun tt kt => XS.iload X.here hx rfl (hb hby own_d3_16) rfl kt) ?_
      show own_R p.tables e below P (T.setTop (mkF m 18 #[.val (.ref a1), .val (.ref a2), .val (.ref a3), .val (.ref b24), .val (.int zi), .unset, .unset, .unset, .unset] [(.int zi), (.ref b24)]))
      refine own_fwd (fun tt kt => XS.aloadN X.here hx rfl (hb hby own_d3_18) rfl rfl kt) ?_
      show own_R p.tables e below P (T.setTop (mkF m 19 #[.val (.ref a1), .val (.ref a2), .val (.ref a3), .val (.ref b24), .val (.int zi), .unset, .unset, .unset, .unset] [(.ref b24), (.int zi), (.ref b24)]))
      refine own_fwd (fun tt kt => XS.iload X.here hx rfl (hb hby own_d3_19) rfl kt) ?_
      show own_R p.tables e below P (T.setTop (mkF m 21 #[.val (.ref a1), .val (.ref a2), .val (.ref a3), .val (.ref b24), .val (.int zi), .unset, .unset, .unset, .unset] [(.int zi), (.ref b24), (.int zi), (.ref b24)]))
      refine own_fwd (fun tt kt => XS.iconst X.here hx rfl (hb hby own_d3_21) kt) ?_
      show own_R p.tables e below P (T.setTop (mkF m 22 #[.val (.ref a1), .val (.ref a2), .val (.ref a3), .val (.ref b24), .val (.int zi), .unset, .unset, .unset, .unset] [(.int (1 : Int32)), (.int zi), (.ref b24), (.int zi), (.ref b24)]))
      refine own_fwd (fun tt kt => XS.isub X.here hx rfl (hb hby own_d3_22) rfl kt) ?_
      show own_R p.tables e below P (T.setTop (mkF m 23 #[.val (.ref a1), .val (.ref a2), .val (.ref a3), .val (.ref b24), .val (.int zi), .unset, .unset, .unset, .unset] [(.int (zi - (1 : Int32))), (.ref b24), (.int zi), (.ref b24)]))
      refine own_fwd (own_ldI X hx hZ eT gT (j := (zi - (1 : Int32))) i (own_pred hzi) (by omega) (g := (mkF m 23 #[.val (.ref a1), .val (.ref a2), .val (.ref a3), .val (.ref b24), .val (.int zi), .unset, .unset, .unset, .unset] [(.int (zi - (1 : Int32))), (.ref b24), (.int zi), (.ref b24)])) rfl rfl (hb hby own_d3_23)) ?_
      show own_R p.tables e below P (T.setTop (mkF m 24 #[.val (.ref a1), .val (.ref a2), .val (.ref a3), .val (.ref b24), .val (.int zi), .unset, .unset, .unset, .unset] [(.int ((own_s1 sz (i + 1)) i)), (.int zi), (.ref b24)]))
      have hv37 : ((own_s1 sz (i + 1)) i) = (own_ps sz i) := by unfold own_s1; rw [if_pos (by omega)]
      rw [hv37]
      show own_R p.tables e below P (T.setTop (mkF m 24 #[.val (.ref a1), .val (.ref a2), .val (.ref a3), .val (.ref b24), .val (.int zi), .unset, .unset, .unset, .unset] [(.int (own_ps sz i)), (.int zi), (.ref b24)]))
      refine own_fwd (fun tt kt => XS.aloadN X.here hx rfl (hb hby own_d3_24) rfl rfl kt) ?_
      show own_R p.tables e below P (T.setTop (mkF m 25 #[.val (.ref a1), .val (.ref a2), .val (.ref a3), .val (.ref b24), .val (.int zi), .unset, .unset, .unset, .unset] [(.ref a2), (.int (own_ps sz i)), (.int zi), (.ref b24)]))
      refine own_fwd (fun tt kt => XS.iload X.here hx rfl (hb hby own_d3_25) rfl kt) ?_
      show own_R p.tables e below P (T.setTop (mkF m 27 #[.val (.ref a1), .val (.ref a2), .val (.ref a3), .val (.ref b24), .val (.int zi), .unset, .unset, .unset, .unset] [(.int zi), (.ref a2), (.int (own_ps sz i)), (.int zi), (.ref b24)]))
      refine own_fwd (fun tt kt => XS.iconst X.here hx rfl (hb hby own_d3_27) kt) ?_
      show own_R p.tables e below P (T.setTop (mkF m 28 #[.val (.ref a1), .val (.ref a2), .val (.ref a3), .val (.ref b24), .val (.int zi), .unset, .unset, .unset, .unset] [(.int (1 : Int32)), (.int zi), (.ref a2), (.int (own_ps sz i)), (.int zi), (.ref b24)]))
      refine own_fwd (fun tt kt => XS.isub X.here hx rfl (hb hby own_d3_28) rfl kt) ?_
      show own_R p.tables e below P (T.setTop (mkF m 29 #[.val (.ref a1), .val (.ref a2), .val (.ref a3), .val (.ref b24), .val (.int zi), .unset, .unset, .unset, .unset] [(.int (zi - (1 : Int32))), (.ref a2), (.int (own_ps sz i)), (.int zi), (.ref b24)]))
      refine own_fwd (own_ldI X hx hZ eT gS (j := (zi - (1 : Int32))) i (own_pred hzi) (by omega) (g := (mkF m 29 #[.val (.ref a1), .val (.ref a2), .val (.ref a3), .val (.ref b24), .val (.int zi), .unset, .unset, .unset, .unset] [(.int (zi - (1 : Int32))), (.ref a2), (.int (own_ps sz i)), (.int zi), (.ref b24)])) rfl rfl (hb hby own_d3_29)) ?_
      show own_R p.tables e below P (T.setTop (mkF m 30 #[.val (.ref a1), .val (.ref a2), .val (.ref a3), .val (.ref b24), .val (.int zi), .unset, .unset, .unset, .unset] [(.int (sz i)), (.int (own_ps sz i)), (.int zi), (.ref b24)]))
      refine own_fwd (fun tt kt => XS.iadd X.here hx rfl (hb hby own_d3_30) rfl kt) ?_
      show own_R p.tables e below P (T.setTop (mkF m 31 #[.val (.ref a1), .val (.ref a2), .val (.ref a3), .val (.ref b24), .val (.int zi), .unset, .unset, .unset, .unset] [(.int ((own_ps sz i) + (sz i))), (.int zi), (.ref b24)]))
      obtain ⟨T38, h38, X38, e38, W38, A38_, st38⟩ := own_stI X hx hZ eT gT (j := zi) (i + 1) hzi (by omega) (g := (mkF m 31 #[.val (.ref a1), .val (.ref a2), .val (.ref a3), .val (.ref b24), .val (.int zi), .unset, .unset, .unset, .unset] [(.int ((own_ps sz i) + (sz i))), (.int zi), (.ref b24)])) rfl rfl (hb hby own_d3_31)
      have gA_x38 := gA.other W38 ne24_a1
      have gS_x38 := gS.other W38 ne24_a2
      have gO_x38 := gO.other W38 ne24_a3
      have N38 := Fr.snoc X38 N ge_b24
      have Z38 : n0 ≤ h38.size := by rw [W38.size]; exact Zs
      have K38 := Kp.wr W38 (Or.inr sz_b24)
      have Y38 : h0.size ≤ h38.size := by rw [W38.size]; exact Y
      refine own_fwd st38 ?_
      show own_R p.tables e below P (T38.setTop (mkF m 32 #[.val (.ref a1), .val (.ref a2), .val (.ref a3), .val (.ref b24), .val (.int zi), .unset, .unset, .unset, .unset] []))
      refine own_fwd (fun tt kt => XS.iinc X38.here hx rfl (hb hby own_d3_32) rfl (l' := #[.val (.ref a1), .val (.ref a2), .val (.ref a3), .val (.ref b24), .val (.int (zi + (1 : Int32))), .unset, .unset, .unset, .unset]) rfl kt) ?_
      show own_R p.tables e below P (T38.setTop (mkF m 35 #[.val (.ref a1), .val (.ref a2), .val (.ref a3), .val (.ref b24), .val (.int (zi + (1 : Int32))), .unset, .unset, .unset, .unset] []))
      refine own_fwd (fun tt kt => XS.goto X38.here hx rfl (pc0 := 35) (pc' := 8) rfl (hb hby own_d3_35) (by decide) (by decide) kt) ?_
      show own_R p.tables e below P (T38.setTop (mkF m 8 #[.val (.ref a1), .val (.ref a2), .val (.ref a3), .val (.ref b24), .val (.int (zi + (1 : Int32))), .unset, .unset, .unset, .unset] []))
      have gTn : own_AI Z h38 b24 .int nb (own_s1 sz (i + 1 + 1)) := A38_.cong fun j hj => by rw [own_s1_up]
      exact ih (i + 1) _ _ _ _ X38 e38 N38 Z38 Y38 K38 gA_x38 gS_x38 gO_x38 gTn (by omega) (own_add (j := 1) hzi own_i1 (by omega))
  exact loop1 (nb - 1) 0 _ _ _ _ X24 e24 N0 Z24 Y24 K24 pA_x24 pS_x24 pO_x24 St1 (by omega) rfl
theorem own_b4 (x : Int32) : ∃ n : Nat, ((1 : Int32) + (x &&& (3 : Int32))).toInt = (n : Int) ∧ 1 ≤ n ∧ n ≤ 4 := by
  have h := c_mask x 3 2 (by decide) (by decide)
  have e : ((2 ^ 2 : Nat) : Int) = 4 := by decide
  rw [e] at h
  have a := own_addS (m := 1) own_i1 h (by omega) (by omega)
  exact ⟨((1 : Int32) + (x &&& (3 : Int32))).toInt.toNat, by omega, by omega, by omega⟩
theorem own_bk (x bb : Int32) {nb : Nat} (hb : bb.toInt = (nb : Int)) (h1 : 1 ≤ nb) (h4 : nb ≤ 4) : bb + (1 : Int32) ≠ 0 ∧ -1 ≤ (((x &&& (7 : Int32)) % (bb + (1 : Int32))) - (1 : Int32)).toInt ∧ (((x &&& (7 : Int32)) % (bb + (1 : Int32))) - (1 : Int32)).toInt < (nb : Int) := by
  have h := c_mask x 7 3 (by decide) (by decide)
  have e : ((2 ^ 3 : Nat) : Int) = 8 := by decide
  rw [e] at h
  have a := own_addS (n := 1) hb own_i1 (by omega) (by omega)
  have k := (c_iremV (x &&& (7 : Int32)) (bb + (1 : Int32))).1 (by omega) (by omega)
  have s := c_isub ((x &&& (7 : Int32)) % (bb + (1 : Int32))) 1
  have r := rng32 (((x &&& (7 : Int32)) % (bb + (1 : Int32))) - (1 : Int32))
  rw [own_i1] at s
  refine ⟨fun q => ?_, by omega, by omega⟩
  rw [q, own_i0] at a; omega
theorem own_sh {x : Int32} {nb : Nat} (h4 : nb ≤ 4) (h : -1 ≤ x.toInt ∧ x.toInt < (nb : Int)) : nar .short x.toInt16.toInt32 = x := by
  have a := c_i2s x
  have e : x.toInt16.toInt32 = x := by rw [← Int32.toInt_inj]; omega
  rw [e]; exact e
theorem own_p24 (x : Int32) : 0 ≤ ((x &&& (2147483647 : Int32)) % (24 : Int32)).toInt ∧ ((x &&& (2147483647 : Int32)) % (24 : Int32)).toInt < 24 := by
  have h := (c_andS x 2147483647).2.2 (by decide)
  have k := (c_irem (x &&& (2147483647 : Int32)) 24 24 rfl).1 h
  omega
theorem own_js (pp : Int32) (h : 0 ≤ pp.toInt ∧ pp.toInt < 24) : ∃ j3 j2 j1 : Nat, (pp % (4 : Int32)).toInt = (j3 : Int) ∧ ((pp / (4 : Int32)) % (3 : Int32)).toInt = (j2 : Int) ∧ ((pp / (12 : Int32)) % (2 : Int32)).toInt = (j1 : Int) ∧ j3 < 4 ∧ j2 < 3 ∧ j1 < 2 := by
  have a := (c_irem pp 4 4 rfl).1 h.1
  have b := (c_idiv pp 4 4 rfl (by decide)).1 h.1
  have c := (c_irem (pp / 4) 3 3 rfl).1 (by omega)
  have d := (c_idiv pp 12 12 rfl (by decide)).1 h.1
  have e := (c_irem (pp / 12) 2 2 rfl).1 (by omega)
  exact ⟨(pp % (4 : Int32)).toInt.toNat, ((pp / (4 : Int32)) % (3 : Int32)).toInt.toNat, ((pp / (12 : Int32)) % (2 : Int32)).toInt.toNat, by omega, by omega, by omega, by omega, by omega, by omega⟩
theorem own_pd1 : parseMethodDescriptor "([IS)V" = some ⟨[(.array .int), .short], none⟩ := by decide +kernel
theorem own_pd2 : parseMethodDescriptor "([III)V" = some ⟨[(.array .int), .int, .int], none⟩ := by decide +kernel
theorem own_pd3 : parseMethodDescriptor "([S[I[I)[I" = some ⟨[(.array .short), (.array .int), (.array .int)], some (.array .int)⟩ := by decide +kernel
theorem own_pd4 : parseMethodDescriptor "([S[II)I" = some ⟨[(.array .short), (.array .int), .int], some .int⟩ := by decide +kernel
theorem own_eflaw (m : MethodId) (p0 : Int32) (p1 : Int32) (p2 : Int32) (p3 : Int32) (p4 : Int32) (p5 : Int32) : entryFrame m #[(.int p0), (.int p1), (.int p2), (.int p3), (.int p4), (.int p5)] maxLocals = mkF m 0 #[.val (.int p0), .val (.int p1), .val (.int p2), .val (.int p3), .val (.int p4), .val (.int p5), .unset, .unset, .unset, .unset, .unset, .unset, .unset] [] := by first | (simp [entryFrame, mkF, argsToLocals, Value.category, maxLocals]; done) | rfl
def own_Qlaw (Z : State) (p0 p1 p2 p3 p4 p5 : Int32) (h0 : Heap) (n0 : Nat) (v : Option Value) (h : Heap) (L : List Loc) : Prop := v = some (.int 1) ∧ Fr n0 L
set_option maxRecDepth 65536 in
set_option maxHeartbeats 40000000 in
theorem own_rmlaw (l : Launch) (Z : State) (a0 : Array Value) (hw : ∀ d ∈ tables_1, d.before a0 Z = true) (ws : List Jvm.Cond) (p0 p1 p2 p3 p4 p5 : Int32) (h0 : Heap) (n0 : Nat) (Z0 : n0 ≤ h0.size) :
    MetFree l x (head1 (Jvm.Cond.code x code maxLocals ret :: ws) room_1) (fun a U => a = #[(.int p0), (.int p1), (.int p2), (.int p3), (.int p4), (.int p5)] ∧ Z.Warmed39 U.vm ∧ U.heap = h0) (fun _ _ _ _ _ => True) (fun _ U o U' => ∃ v L, o = .returned v ∧ own_Qlaw Z p0 p1 p2 p3 p4 p5 h0 n0 v U'.heap L ∧ FrameEnd U o U' L 24 128) := by
  refine MetFree.of_bodySF (plainFor_of_name own_pn0) hisR ?_
  intro p e s m args below meth c s₁ Bd hml0 hP hK
  obtain ⟨rfl, hZ, hh⟩ := hP
  have hx := Bd.exec
  have hby := Bd.bytes
  have hml : c.maxLocals = 13 := hml0
  have hown : s.vm.findClass "com/example/rankbucket/rankbucket/BucketingRanksPinLaw" = some m.cls := findClass_of_methodNamed Bd.named
  have hnm := (name_of_methodNamed Bd.named Bd.method).1
  have X0 : Stand p l e room_1 s m #[(.int p0), (.int p1), (.int p2), (.int p3), (.int p4), (.int p5)] below meth c s₁ [] 0 0 := Stand.of_body Bd
  have e0 : s₁.heap = h0 := by rw [← hh, Bd.state]; rfl
  have N0 := Fr.nil n0
  refine own_nm (st := s₁.setTop (entryFrame m #[(.int p0), (.int p1), (.int p2), (.int p3), (.int p4), (.int p5)] maxLocals)) fun P fin => ?_
  refine own_fwd (fun tt kt => castTop (own_eflaw m p0 p1 p2 p3 p4 p5) kt) ?_
  show own_R p.tables e below P (s₁.setTop (mkF m 0 #[.val (.int p0), .val (.int p1), .val (.int p2), .val (.int p3), .val (.int p4), .val (.int p5), .unset, .unset, .unset, .unset, .unset, .unset, .unset] []))
  refine own_fwd (fun tt kt => XS.iconst X0.here hx rfl (hb hby at_0) kt) ?_
  show own_R p.tables e below P (s₁.setTop (mkF m 1 #[.val (.int p0), .val (.int p1), .val (.int p2), .val (.int p3), .val (.int p4), .val (.int p5), .unset, .unset, .unset, .unset, .unset, .unset, .unset] [(.int (1 : Int32))]))
  refine own_fwd (fun tt kt => XS.iloadN X0.here hx rfl (hb hby at_1) rfl kt) ?_
  show own_R p.tables e below P (s₁.setTop (mkF m 2 #[.val (.int p0), .val (.int p1), .val (.int p2), .val (.int p3), .val (.int p4), .val (.int p5), .unset, .unset, .unset, .unset, .unset, .unset, .unset] [(.int p0), (.int (1 : Int32))]))
  refine own_fwd (fun tt kt => XS.iconst X0.here hx rfl (hb hby at_2) kt) ?_
  show own_R p.tables e below P (s₁.setTop (mkF m 3 #[.val (.int p0), .val (.int p1), .val (.int p2), .val (.int p3), .val (.int p4), .val (.int p5), .unset, .unset, .unset, .unset, .unset, .unset, .unset] [(.int (3 : Int32)), (.int p0), (.int (1 : Int32))]))
  refine own_fwd (fun tt kt => XS.iand X0.here hx rfl (hb hby at_3) rfl kt) ?_
  show own_R p.tables e below P (s₁.setTop (mkF m 4 #[.val (.int p0), .val (.int p1), .val (.int p2), .val (.int p3), .val (.int p4), .val (.int p5), .unset, .unset, .unset, .unset, .unset, .unset, .unset] [(.int (p0 &&& (3 : Int32))), (.int (1 : Int32))]))
  refine own_fwd (fun tt kt => XS.iadd X0.here hx rfl (hb hby at_4) rfl kt) ?_
  show own_R p.tables e below P (s₁.setTop (mkF m 5 #[.val (.int p0), .val (.int p1), .val (.int p2), .val (.int p3), .val (.int p4), .val (.int p5), .unset, .unset, .unset, .unset, .unset, .unset, .unset] [(.int ((1 : Int32) + (p0 &&& (3 : Int32))))]))
  obtain ⟨nb, hnb, nb1, nb4⟩ := own_b4 p0
  obtain ⟨bb, hg_bb⟩ : ∃ z, ((1 : Int32) + (p0 &&& (3 : Int32))) = z := ⟨_, rfl⟩
  rw [hg_bb]
  show own_R p.tables e below P (s₁.setTop (mkF m 5 #[.val (.int p0), .val (.int p1), .val (.int p2), .val (.int p3), .val (.int p4), .val (.int p5), .unset, .unset, .unset, .unset, .unset, .unset, .unset] [(.int bb)]))
  rw [hg_bb] at hnb
  have bk0 := own_bk p1 bb hnb nb1 nb4
  refine own_fwd (fun tt kt => XS.istore X0.here hx rfl (hb hby at_5) rfl (l' := #[.val (.int p0), .val (.int p1), .val (.int p2), .val (.int p3), .val (.int p4), .val (.int p5), .val (.int bb), .unset, .unset, .unset, .unset, .unset, .unset]) rfl kt) ?_
  show own_R p.tables e below P (s₁.setTop (mkF m 7 #[.val (.int p0), .val (.int p1), .val (.int p2), .val (.int p3), .val (.int p4), .val (.int p5), .val (.int bb), .unset, .unset, .unset, .unset, .unset, .unset] []))
  refine own_fwd (fun tt kt => XS.iconst X0.here hx rfl (hb hby at_7) kt) ?_
  show own_R p.tables e below P (s₁.setTop (mkF m 8 #[.val (.int p0), .val (.int p1), .val (.int p2), .val (.int p3), .val (.int p4), .val (.int p5), .val (.int bb), .unset, .unset, .unset, .unset, .unset, .unset] [(.int (4 : Int32))]))
  obtain ⟨T39, h39, b39, g39, X39, e39, E39, A39, B39, st39⟩ := own_newA (n := 4) X0 hx hZ (hw _ (List.mem_of_getElem? (i := 0) rfl)) e0 (z := (4 : Int32)) (by decide) (cap := 4) (by decide) (g := (mkF m 8 #[.val (.int p0), .val (.int p1), .val (.int p2), .val (.int p3), .val (.int p4), .val (.int p5), .val (.int bb), .unset, .unset, .unset, .unset, .unset, .unset] [(.int (4 : Int32))])) rfl (hb hby at_8) rfl (by decide) (by decide) (by decide) (ad := "[S") (by decide)
  have ge_b39 : n0 ≤ b39 := by rw [g39]; exact Z0
  have sz_b39 : h0.size ≤ b39 := by rw [g39]; exact (Nat.le_refl h0.size)
  have A39_ : own_AI Z h39 b39 .short 4 (fun _ => (0 : Int32)) := A39
  have Z39 : n0 ≤ h39.size := Nat.le_trans Z0 E39.1
  have Y39 : h0.size ≤ h39.size := Nat.le_trans (Nat.le_refl h0.size) E39.1
  refine own_fwd st39 ?_
  show own_R p.tables e below P (T39.setTop (mkF m 10 #[.val (.int p0), .val (.int p1), .val (.int p2), .val (.int p3), .val (.int p4), .val (.int p5), .val (.int bb), .unset, .unset, .unset, .unset, .unset, .unset] [(.ref b39)]))
  refine own_fwd (fun tt kt => XS.astore X39.here hx rfl (hb hby at_10) rfl rfl (l' := #[.val (.int p0), .val (.int p1), .val (.int p2), .val (.int p3), .val (.int p4), .val (.int p5), .val (.int bb), .val (.ref b39), .unset, .unset, .unset, .unset, .unset]) rfl kt) ?_
  show own_R p.tables e below P (T39.setTop (mkF m 12 #[.val (.int p0), .val (.int p1), .val (.int p2), .val (.int p3), .val (.int p4), .val (.int p5), .val (.int bb), .val (.ref b39), .unset, .unset, .unset, .unset, .unset] []))
  refine own_fwd (fun tt kt => XS.aload X39.here hx rfl (hb hby at_12) rfl rfl kt) ?_
  show own_R p.tables e below P (T39.setTop (mkF m 14 #[.val (.int p0), .val (.int p1), .val (.int p2), .val (.int p3), .val (.int p4), .val (.int p5), .val (.int bb), .val (.ref b39), .unset, .unset, .unset, .unset, .unset] [(.ref b39)]))
  refine own_fwd (fun tt kt => XS.iconst X39.here hx rfl (hb hby at_14) kt) ?_
  show own_R p.tables e below P (T39.setTop (mkF m 15 #[.val (.int p0), .val (.int p1), .val (.int p2), .val (.int p3), .val (.int p4), .val (.int p5), .val (.int bb), .val (.ref b39), .unset, .unset, .unset, .unset, .unset] [(.int (0 : Int32)), (.ref b39)]))
  refine own_fwd (fun tt kt => XS.iloadN X39.here hx rfl (hb hby at_15) rfl kt) ?_
  show own_R p.tables e below P (T39.setTop (mkF m 16 #[.val (.int p0), .val (.int p1), .val (.int p2), .val (.int p3), .val (.int p4), .val (.int p5), .val (.int bb), .val (.ref b39), .unset, .unset, .unset, .unset, .unset] [(.int p1), (.int (0 : Int32)), (.ref b39)]))
  refine own_fwd (fun tt kt => XS.bipush X39.here hx rfl (hb hby at_16) kt) ?_
  show own_R p.tables e below P (T39.setTop (mkF m 18 #[.val (.int p0), .val (.int p1), .val (.int p2), .val (.int p3), .val (.int p4), .val (.int p5), .val (.int bb), .val (.ref b39), .unset, .unset, .unset, .unset, .unset] [(.int (7 : Int32)), (.int p1), (.int (0 : Int32)), (.ref b39)]))
  refine own_fwd (fun tt kt => XS.iand X39.here hx rfl (hb hby at_18) rfl kt) ?_
  show own_R p.tables e below P (T39.setTop (mkF m 19 #[.val (.int p0), .val (.int p1), .val (.int p2), .val (.int p3), .val (.int p4), .val (.int p5), .val (.int bb), .val (.ref b39), .unset, .unset, .unset, .unset, .unset] [(.int (p1 &&& (7 : Int32))), (.int (0 : Int32)), (.ref b39)]))
  refine own_fwd (fun tt kt => XS.iload X39.here hx rfl (hb hby at_19) rfl kt) ?_
  show own_R p.tables e below P (T39.setTop (mkF m 21 #[.val (.int p0), .val (.int p1), .val (.int p2), .val (.int p3), .val (.int p4), .val (.int p5), .val (.int bb), .val (.ref b39), .unset, .unset, .unset, .unset, .unset] [(.int bb), (.int (p1 &&& (7 : Int32))), (.int (0 : Int32)), (.ref b39)]))
  refine own_fwd (fun tt kt => XS.iconst X39.here hx rfl (hb hby at_21) kt) ?_
  show own_R p.tables e below P (T39.setTop (mkF m 22 #[.val (.int p0), .val (.int p1), .val (.int p2), .val (.int p3), .val (.int p4), .val (.int p5), .val (.int bb), .val (.ref b39), .unset, .unset, .unset, .unset, .unset] [(.int (1 : Int32)), (.int bb), (.int (p1 &&& (7 : Int32))), (.int (0 : Int32)), (.ref b39)]))
  refine own_fwd (fun tt kt => XS.iadd X39.here hx rfl (hb hby at_22) rfl kt) ?_
  show own_R p.tables e below P (T39.setTop (mkF m 23 #[.val (.int p0), .val (.int p1), .val (.int p2), .val (.int p3), .val (.int p4), .val (.int p5), .val (.int bb), .val (.ref b39), .unset, .unset, .unset, .unset, .unset] [(.int (bb + (1 : Int32))), (.int (p1 &&& (7 : Int32))), (.int (0 : Int32)), (.ref b39)]))
  refine own_fwd (fun tt kt => iremM X39 hx rfl (hb hby at_23) rfl bk0.1 kt) ?_
  show own_R p.tables e below P (T39.setTop (mkF m 24 #[.val (.int p0), .val (.int p1), .val (.int p2), .val (.int p3), .val (.int p4), .val (.int p5), .val (.int bb), .val (.ref b39), .unset, .unset, .unset, .unset, .unset] [(.int ((p1 &&& (7 : Int32)) % (bb + (1 : Int32)))), (.int (0 : Int32)), (.ref b39)]))
  refine own_fwd (fun tt kt => XS.iconst X39.here hx rfl (hb hby at_24) kt) ?_
  show own_R p.tables e below P (T39.setTop (mkF m 25 #[.val (.int p0), .val (.int p1), .val (.int p2), .val (.int p3), .val (.int p4), .val (.int p5), .val (.int bb), .val (.ref b39), .unset, .unset, .unset, .unset, .unset] [(.int (1 : Int32)), (.int ((p1 &&& (7 : Int32)) % (bb + (1 : Int32)))), (.int (0 : Int32)), (.ref b39)]))
  refine own_fwd (fun tt kt => XS.isub X39.here hx rfl (hb hby at_25) rfl kt) ?_
  show own_R p.tables e below P (T39.setTop (mkF m 26 #[.val (.int p0), .val (.int p1), .val (.int p2), .val (.int p3), .val (.int p4), .val (.int p5), .val (.int bb), .val (.ref b39), .unset, .unset, .unset, .unset, .unset] [(.int (((p1 &&& (7 : Int32)) % (bb + (1 : Int32))) - (1 : Int32))), (.int (0 : Int32)), (.ref b39)]))
  have bq0 := bk0.2
  obtain ⟨b0_, hg_b0_⟩ : ∃ z, (((p1 &&& (7 : Int32)) % (bb + (1 : Int32))) - (1 : Int32)) = z := ⟨_, rfl⟩
  rw [hg_b0_]
  show own_R p.tables e below P (T39.setTop (mkF m 26 #[.val (.int p0), .val (.int p1), .val (.int p2), .val (.int p3), .val (.int p4), .val (.int p5), .val (.int bb), .val (.ref b39), .unset, .unset, .unset, .unset, .unset] [(.int b0_), (.int (0 : Int32)), (.ref b39)]))
  rw [hg_b0_] at bq0
  refine own_fwd (fun tt kt => XS.i2s X39.here hx rfl (hb hby at_26) rfl kt) ?_
  show own_R p.tables e below P (T39.setTop (mkF m 27 #[.val (.int p0), .val (.int p1), .val (.int p2), .val (.int p3), .val (.int p4), .val (.int p5), .val (.int bb), .val (.ref b39), .unset, .unset, .unset, .unset, .unset] [(.int (b0_.toInt16.toInt32)), (.int (0 : Int32)), (.ref b39)]))
  obtain ⟨T40, h40, X40, e40, W40, A40_, st40⟩ := own_stS X39 hx hZ e39 A39_ (j := (0 : Int32)) 0 (by decide) (by decide) (g := (mkF m 27 #[.val (.int p0), .val (.int p1), .val (.int p2), .val (.int p3), .val (.int p4), .val (.int p5), .val (.int bb), .val (.ref b39), .unset, .unset, .unset, .unset, .unset] [(.int (b0_.toInt16.toInt32)), (.int (0 : Int32)), (.ref b39)])) rfl rfl (hb hby at_27)
  have B39_x40 := B39.wr W40
  have N40 := Fr.snoc X40 N0 ge_b39
  have Z40 : n0 ≤ h40.size := by rw [W40.size]; exact Z39
  have Y40 : h0.size ≤ h40.size := by rw [W40.size]; exact Y39
  refine own_fwd st40 ?_
  show own_R p.tables e below P (T40.setTop (mkF m 28 #[.val (.int p0), .val (.int p1), .val (.int p2), .val (.int p3), .val (.int p4), .val (.int p5), .val (.int bb), .val (.ref b39), .unset, .unset, .unset, .unset, .unset] []))
  rw [own_sh nb4 bq0] at A40_
  have bk1 := own_bk p2 bb hnb nb1 nb4
  refine own_fwd (fun tt kt => XS.aload X40.here hx rfl (hb hby at_28) rfl rfl kt) ?_
  show own_R p.tables e below P (T40.setTop (mkF m 30 #[.val (.int p0), .val (.int p1), .val (.int p2), .val (.int p3), .val (.int p4), .val (.int p5), .val (.int bb), .val (.ref b39), .unset, .unset, .unset, .unset, .unset] [(.ref b39)]))
  refine own_fwd (fun tt kt => XS.iconst X40.here hx rfl (hb hby at_30) kt) ?_
  show own_R p.tables e below P (T40.setTop (mkF m 31 #[.val (.int p0), .val (.int p1), .val (.int p2), .val (.int p3), .val (.int p4), .val (.int p5), .val (.int bb), .val (.ref b39), .unset, .unset, .unset, .unset, .unset] [(.int (1 : Int32)), (.ref b39)]))
  refine own_fwd (fun tt kt => XS.iloadN X40.here hx rfl (hb hby at_31) rfl kt) ?_
  show own_R p.tables e below P (T40.setTop (mkF m 32 #[.val (.int p0), .val (.int p1), .val (.int p2), .val (.int p3), .val (.int p4), .val (.int p5), .val (.int bb), .val (.ref b39), .unset, .unset, .unset, .unset, .unset] [(.int p2), (.int (1 : Int32)), (.ref b39)]))
  refine own_fwd (fun tt kt => XS.bipush X40.here hx rfl (hb hby at_32) kt) ?_
  show own_R p.tables e below P (T40.setTop (mkF m 34 #[.val (.int p0), .val (.int p1), .val (.int p2), .val (.int p3), .val (.int p4), .val (.int p5), .val (.int bb), .val (.ref b39), .unset, .unset, .unset, .unset, .unset] [(.int (7 : Int32)), (.int p2), (.int (1 : Int32)), (.ref b39)]))
  refine own_fwd (fun tt kt => XS.iand X40.here hx rfl (hb hby at_34) rfl kt) ?_
  show own_R p.tables e below P (T40.setTop (mkF m 35 #[.val (.int p0), .val (.int p1), .val (.int p2), .val (.int p3), .val (.int p4), .val (.int p5), .val (.int bb), .val (.ref b39), .unset, .unset, .unset, .unset, .unset] [(.int (p2 &&& (7 : Int32))), (.int (1 : Int32)), (.ref b39)]))
  refine own_fwd (fun tt kt => XS.iload X40.here hx rfl (hb hby at_35) rfl kt) ?_
  show own_R p.tables e below P (T40.setTop (mkF m 37 #[.val (.int p0), .val (.int p1), .val (.int p2), .val (.int p3), .val (.int p4), .val (.int p5), .val (.int bb), .val (.ref b39), .unset, .unset, .unset, .unset, .unset] [(.int bb), (.int (p2 &&& (7 : Int32))), (.int (1 : Int32)), (.ref b39)]))
  refine own_fwd (fun tt kt => XS.iconst X40.here hx rfl (hb hby at_37) kt) ?_
  show own_R p.tables e below P (T40.setTop (mkF m 38 #[.val (.int p0), .val (.int p1), .val (.int p2), .val (.int p3), .val (.int p4), .val (.int p5), .val (.int bb), .val (.ref b39), .unset, .unset, .unset, .unset, .unset] [(.int (1 : Int32)), (.int bb), (.int (p2 &&& (7 : Int32))), (.int (1 : Int32)), (.ref b39)]))
  refine own_fwd (fun tt kt => XS.iadd X40.here hx rfl (hb hby at_38) rfl kt) ?_
  show own_R p.tables e below P (T40.setTop (mkF m 39 #[.val (.int p0), .val (.int p1), .val (.int p2), .val (.int p3), .val (.int p4), .val (.int p5), .val (.int bb), .val (.ref b39), .unset, .unset, .unset, .unset, .unset] [(.int (bb + (1 : Int32))), (.int (p2 &&& (7 : Int32))), (.int (1 : Int32)), (.ref b39)]))
  refine own_fwd (fun tt kt => iremM X40 hx rfl (hb hby at_39) rfl bk1.1 kt) ?_
  show own_R p.tables e below P (T40.setTop (mkF m 40 #[.val (.int p0), .val (.int p1), .val (.int p2), .val (.int p3), .val (.int p4), .val (.int p5), .val (.int bb), .val (.ref b39), .unset, .unset, .unset, .unset, .unset] [(.int ((p2 &&& (7 : Int32)) % (bb + (1 : Int32)))), (.int (1 : Int32)), (.ref b39)]))
  refine own_fwd (fun tt kt => XS.iconst X40.here hx rfl (hb hby at_40) kt) ?_
  show own_R p.tables e below P (T40.setTop (mkF m 41 #[.val (.int p0), .val (.int p1), .val (.int p2), .val (.int p3), .val (.int p4), .val (.int p5), .val (.int bb), .val (.ref b39), .unset, .unset, .unset, .unset, .unset] [(.int (1 : Int32)), (.int ((p2 &&& (7 : Int32)) % (bb + (1 : Int32)))), (.int (1 : Int32)), (.ref b39)]))
  refine own_fwd (fun tt kt => XS.isub X40.here hx rfl (hb hby at_41) rfl kt) ?_
  show own_R p.tables e below P (T40.setTop (mkF m 42 #[.val (.int p0), .val (.int p1), .val (.int p2), .val (.int p3), .val (.int p4), .val (.int p5), .val (.int bb), .val (.ref b39), .unset, .unset, .unset, .unset, .unset] [(.int (((p2 &&& (7 : Int32)) % (bb + (1 : Int32))) - (1 : Int32))), (.int (1 : Int32)), (.ref b39)]))
  have bq1 := bk1.2
  obtain ⟨b1_, hg_b1_⟩ : ∃ z, (((p2 &&& (7 : Int32)) % (bb + (1 : Int32))) - (1 : Int32)) = z := ⟨_, rfl⟩
  rw [hg_b1_]
  show own_R p.tables e below P (T40.setTop (mkF m 42 #[.val (.int p0), .val (.int p1), .val (.int p2), .val (.int p3), .val (.int p4), .val (.int p5), .val (.int bb), .val (.ref b39), .unset, .unset, .unset, .unset, .unset] [(.int b1_), (.int (1 : Int32)), (.ref b39)]))
  rw [hg_b1_] at bq1
  refine own_fwd (fun tt kt => XS.i2s X40.here hx rfl (hb hby at_42) rfl kt) ?_
  show own_R p.tables e below P (T40.setTop (mkF m 43 #[.val (.int p0), .val (.int p1), .val (.int p2), .val (.int p3), .val (.int p4), .val (.int p5), .val (.int bb), .val (.ref b39), .unset, .unset, .unset, .unset, .unset] [(.int (b1_.toInt16.toInt32)), (.int (1 : Int32)), (.ref b39)]))
  obtain ⟨T41, h41, X41, e41, W41, A41_, st41⟩ := own_stS X40 hx hZ e40 A40_ (j := (1 : Int32)) 1 (by decide) (by decide) (g := (mkF m 43 #[.val (.int p0), .val (.int p1), .val (.int p2), .val (.int p3), .val (.int p4), .val (.int p5), .val (.int bb), .val (.ref b39), .unset, .unset, .unset, .unset, .unset] [(.int (b1_.toInt16.toInt32)), (.int (1 : Int32)), (.ref b39)])) rfl rfl (hb hby at_43)
  have B39_x41 := B39_x40.wr W41
  have N41 := Fr.snoc X41 N40 ge_b39
  have Z41 : n0 ≤ h41.size := by rw [W41.size]; exact Z40
  have Y41 : h0.size ≤ h41.size := by rw [W41.size]; exact Y40
  refine own_fwd st41 ?_
  show own_R p.tables e below P (T41.setTop (mkF m 44 #[.val (.int p0), .val (.int p1), .val (.int p2), .val (.int p3), .val (.int p4), .val (.int p5), .val (.int bb), .val (.ref b39), .unset, .unset, .unset, .unset, .unset] []))
  rw [own_sh nb4 bq1] at A41_
  have bk2 := own_bk p3 bb hnb nb1 nb4
  refine own_fwd (fun tt kt => XS.aload X41.here hx rfl (hb hby at_44) rfl rfl kt) ?_
  show own_R p.tables e below P (T41.setTop (mkF m 46 #[.val (.int p0), .val (.int p1), .val (.int p2), .val (.int p3), .val (.int p4), .val (.int p5), .val (.int bb), .val (.ref b39), .unset, .unset, .unset, .unset, .unset] [(.ref b39)]))
  refine own_fwd (fun tt kt => XS.iconst X41.here hx rfl (hb hby at_46) kt) ?_
  show own_R p.tables e below P (T41.setTop (mkF m 47 #[.val (.int p0), .val (.int p1), .val (.int p2), .val (.int p3), .val (.int p4), .val (.int p5), .val (.int bb), .val (.ref b39), .unset, .unset, .unset, .unset, .unset] [(.int (2 : Int32)), (.ref b39)]))
  refine own_fwd (fun tt kt => XS.iloadN X41.here hx rfl (hb hby at_47) rfl kt) ?_
  show own_R p.tables e below P (T41.setTop (mkF m 48 #[.val (.int p0), .val (.int p1), .val (.int p2), .val (.int p3), .val (.int p4), .val (.int p5), .val (.int bb), .val (.ref b39), .unset, .unset, .unset, .unset, .unset] [(.int p3), (.int (2 : Int32)), (.ref b39)]))
  refine own_fwd (fun tt kt => XS.bipush X41.here hx rfl (hb hby at_48) kt) ?_
  show own_R p.tables e below P (T41.setTop (mkF m 50 #[.val (.int p0), .val (.int p1), .val (.int p2), .val (.int p3), .val (.int p4), .val (.int p5), .val (.int bb), .val (.ref b39), .unset, .unset, .unset, .unset, .unset] [(.int (7 : Int32)), (.int p3), (.int (2 : Int32)), (.ref b39)]))
  refine own_fwd (fun tt kt => XS.iand X41.here hx rfl (hb hby at_50) rfl kt) ?_
  show own_R p.tables e below P (T41.setTop (mkF m 51 #[.val (.int p0), .val (.int p1), .val (.int p2), .val (.int p3), .val (.int p4), .val (.int p5), .val (.int bb), .val (.ref b39), .unset, .unset, .unset, .unset, .unset] [(.int (p3 &&& (7 : Int32))), (.int (2 : Int32)), (.ref b39)]))
  refine own_fwd (fun tt kt => XS.iload X41.here hx rfl (hb hby at_51) rfl kt) ?_
  show own_R p.tables e below P (T41.setTop (mkF m 53 #[.val (.int p0), .val (.int p1), .val (.int p2), .val (.int p3), .val (.int p4), .val (.int p5), .val (.int bb), .val (.ref b39), .unset, .unset, .unset, .unset, .unset] [(.int bb), (.int (p3 &&& (7 : Int32))), (.int (2 : Int32)), (.ref b39)]))
  refine own_fwd (fun tt kt => XS.iconst X41.here hx rfl (hb hby at_53) kt) ?_
  show own_R p.tables e below P (T41.setTop (mkF m 54 #[.val (.int p0), .val (.int p1), .val (.int p2), .val (.int p3), .val (.int p4), .val (.int p5), .val (.int bb), .val (.ref b39), .unset, .unset, .unset, .unset, .unset] [(.int (1 : Int32)), (.int bb), (.int (p3 &&& (7 : Int32))), (.int (2 : Int32)), (.ref b39)]))
  refine own_fwd (fun tt kt => XS.iadd X41.here hx rfl (hb hby at_54) rfl kt) ?_
  show own_R p.tables e below P (T41.setTop (mkF m 55 #[.val (.int p0), .val (.int p1), .val (.int p2), .val (.int p3), .val (.int p4), .val (.int p5), .val (.int bb), .val (.ref b39), .unset, .unset, .unset, .unset, .unset] [(.int (bb + (1 : Int32))), (.int (p3 &&& (7 : Int32))), (.int (2 : Int32)), (.ref b39)]))
  refine own_fwd (fun tt kt => iremM X41 hx rfl (hb hby at_55) rfl bk2.1 kt) ?_
  show own_R p.tables e below P (T41.setTop (mkF m 56 #[.val (.int p0), .val (.int p1), .val (.int p2), .val (.int p3), .val (.int p4), .val (.int p5), .val (.int bb), .val (.ref b39), .unset, .unset, .unset, .unset, .unset] [(.int ((p3 &&& (7 : Int32)) % (bb + (1 : Int32)))), (.int (2 : Int32)), (.ref b39)]))
  refine own_fwd (fun tt kt => XS.iconst X41.here hx rfl (hb hby at_56) kt) ?_
  show own_R p.tables e below P (T41.setTop (mkF m 57 #[.val (.int p0), .val (.int p1), .val (.int p2), .val (.int p3), .val (.int p4), .val (.int p5), .val (.int bb), .val (.ref b39), .unset, .unset, .unset, .unset, .unset] [(.int (1 : Int32)), (.int ((p3 &&& (7 : Int32)) % (bb + (1 : Int32)))), (.int (2 : Int32)), (.ref b39)]))
  refine own_fwd (fun tt kt => XS.isub X41.here hx rfl (hb hby at_57) rfl kt) ?_
  show own_R p.tables e below P (T41.setTop (mkF m 58 #[.val (.int p0), .val (.int p1), .val (.int p2), .val (.int p3), .val (.int p4), .val (.int p5), .val (.int bb), .val (.ref b39), .unset, .unset, .unset, .unset, .unset] [(.int (((p3 &&& (7 : Int32)) % (bb + (1 : Int32))) - (1 : Int32))), (.int (2 : Int32)), (.ref b39)]))
  have bq2 := bk2.2
  obtain ⟨b2_, hg_b2_⟩ : ∃ z, (((p3 &&& (7 : Int32)) % (bb + (1 : Int32))) - (1 : Int32)) = z := ⟨_, rfl⟩
  rw [hg_b2_]
  show own_R p.tables e below P (T41.setTop (mkF m 58 #[.val (.int p0), .val (.int p1), .val (.int p2), .val (.int p3), .val (.int p4), .val (.int p5), .val (.int bb), .val (.ref b39), .unset, .unset, .unset, .unset, .unset] [(.int b2_), (.int (2 : Int32)), (.ref b39)]))
  rw [hg_b2_] at bq2
  refine own_fwd (fun tt kt => XS.i2s X41.here hx rfl (hb hby at_58) rfl kt) ?_
  show own_R p.tables e below P (T41.setTop (mkF m 59 #[.val (.int p0), .val (.int p1), .val (.int p2), .val (.int p3), .val (.int p4), .val (.int p5), .val (.int bb), .val (.ref b39), .unset, .unset, .unset, .unset, .unset] [(.int (b2_.toInt16.toInt32)), (.int (2 : Int32)), (.ref b39)]))
  obtain ⟨T42, h42, X42, e42, W42, A42_, st42⟩ := own_stS X41 hx hZ e41 A41_ (j := (2 : Int32)) 2 (by decide) (by decide) (g := (mkF m 59 #[.val (.int p0), .val (.int p1), .val (.int p2), .val (.int p3), .val (.int p4), .val (.int p5), .val (.int bb), .val (.ref b39), .unset, .unset, .unset, .unset, .unset] [(.int (b2_.toInt16.toInt32)), (.int (2 : Int32)), (.ref b39)])) rfl rfl (hb hby at_59)
  have B39_x42 := B39_x41.wr W42
  have N42 := Fr.snoc X42 N41 ge_b39
  have Z42 : n0 ≤ h42.size := by rw [W42.size]; exact Z41
  have Y42 : h0.size ≤ h42.size := by rw [W42.size]; exact Y41
  refine own_fwd st42 ?_
  show own_R p.tables e below P (T42.setTop (mkF m 60 #[.val (.int p0), .val (.int p1), .val (.int p2), .val (.int p3), .val (.int p4), .val (.int p5), .val (.int bb), .val (.ref b39), .unset, .unset, .unset, .unset, .unset] []))
  rw [own_sh nb4 bq2] at A42_
  have bk3 := own_bk p4 bb hnb nb1 nb4
  refine own_fwd (fun tt kt => XS.aload X42.here hx rfl (hb hby at_60) rfl rfl kt) ?_
  show own_R p.tables e below P (T42.setTop (mkF m 62 #[.val (.int p0), .val (.int p1), .val (.int p2), .val (.int p3), .val (.int p4), .val (.int p5), .val (.int bb), .val (.ref b39), .unset, .unset, .unset, .unset, .unset] [(.ref b39)]))
  refine own_fwd (fun tt kt => XS.iconst X42.here hx rfl (hb hby at_62) kt) ?_
  show own_R p.tables e below P (T42.setTop (mkF m 63 #[.val (.int p0), .val (.int p1), .val (.int p2), .val (.int p3), .val (.int p4), .val (.int p5), .val (.int bb), .val (.ref b39), .unset, .unset, .unset, .unset, .unset] [(.int (3 : Int32)), (.ref b39)]))
  refine own_fwd (fun tt kt => XS.iload X42.here hx rfl (hb hby at_63) rfl kt) ?_
  show own_R p.tables e below P (T42.setTop (mkF m 65 #[.val (.int p0), .val (.int p1), .val (.int p2), .val (.int p3), .val (.int p4), .val (.int p5), .val (.int bb), .val (.ref b39), .unset, .unset, .unset, .unset, .unset] [(.int p4), (.int (3 : Int32)), (.ref b39)]))
  refine own_fwd (fun tt kt => XS.bipush X42.here hx rfl (hb hby at_65) kt) ?_
  show own_R p.tables e below P (T42.setTop (mkF m 67 #[.val (.int p0), .val (.int p1), .val (.int p2), .val (.int p3), .val (.int p4), .val (.int p5), .val (.int bb), .val (.ref b39), .unset, .unset, .unset, .unset, .unset] [(.int (7 : Int32)), (.int p4), (.int (3 : Int32)), (.ref b39)]))
  refine own_fwd (fun tt kt => XS.iand X42.here hx rfl (hb hby at_67) rfl kt) ?_
  show own_R p.tables e below P (T42.setTop (mkF m 68 #[.val (.int p0), .val (.int p1), .val (.int p2), .val (.int p3), .val (.int p4), .val (.int p5), .val (.int bb), .val (.ref b39), .unset, .unset, .unset, .unset, .unset] [(.int (p4 &&& (7 : Int32))), (.int (3 : Int32)), (.ref b39)]))
  refine own_fwd (fun tt kt => XS.iload X42.here hx rfl (hb hby at_68) rfl kt) ?_
  show own_R p.tables e below P (T42.setTop (mkF m 70 #[.val (.int p0), .val (.int p1), .val (.int p2), .val (.int p3), .val (.int p4), .val (.int p5), .val (.int bb), .val (.ref b39), .unset, .unset, .unset, .unset, .unset] [(.int bb), (.int (p4 &&& (7 : Int32))), (.int (3 : Int32)), (.ref b39)]))
  refine own_fwd (fun tt kt => XS.iconst X42.here hx rfl (hb hby at_70) kt) ?_
  show own_R p.tables e below P (T42.setTop (mkF m 71 #[.val (.int p0), .val (.int p1), .val (.int p2), .val (.int p3), .val (.int p4), .val (.int p5), .val (.int bb), .val (.ref b39), .unset, .unset, .unset, .unset, .unset] [(.int (1 : Int32)), (.int bb), (.int (p4 &&& (7 : Int32))), (.int (3 : Int32)), (.ref b39)]))
  refine own_fwd (fun tt kt => XS.iadd X42.here hx rfl (hb hby at_71) rfl kt) ?_
  show own_R p.tables e below P (T42.setTop (mkF m 72 #[.val (.int p0), .val (.int p1), .val (.int p2), .val (.int p3), .val (.int p4), .val (.int p5), .val (.int bb), .val (.ref b39), .unset, .unset, .unset, .unset, .unset] [(.int (bb + (1 : Int32))), (.int (p4 &&& (7 : Int32))), (.int (3 : Int32)), (.ref b39)]))
  refine own_fwd (fun tt kt => iremM X42 hx rfl (hb hby at_72) rfl bk3.1 kt) ?_
  show own_R p.tables e below P (T42.setTop (mkF m 73 #[.val (.int p0), .val (.int p1), .val (.int p2), .val (.int p3), .val (.int p4), .val (.int p5), .val (.int bb), .val (.ref b39), .unset, .unset, .unset, .unset, .unset] [(.int ((p4 &&& (7 : Int32)) % (bb + (1 : Int32)))), (.int (3 : Int32)), (.ref b39)]))
  refine own_fwd (fun tt kt => XS.iconst X42.here hx rfl (hb hby at_73) kt) ?_
  show own_R p.tables e below P (T42.setTop (mkF m 74 #[.val (.int p0), .val (.int p1), .val (.int p2), .val (.int p3), .val (.int p4), .val (.int p5), .val (.int bb), .val (.ref b39), .unset, .unset, .unset, .unset, .unset] [(.int (1 : Int32)), (.int ((p4 &&& (7 : Int32)) % (bb + (1 : Int32)))), (.int (3 : Int32)), (.ref b39)]))
  refine own_fwd (fun tt kt => XS.isub X42.here hx rfl (hb hby at_74) rfl kt) ?_
  show own_R p.tables e below P (T42.setTop (mkF m 75 #[.val (.int p0), .val (.int p1), .val (.int p2), .val (.int p3), .val (.int p4), .val (.int p5), .val (.int bb), .val (.ref b39), .unset, .unset, .unset, .unset, .unset] [(.int (((p4 &&& (7 : Int32)) % (bb + (1 : Int32))) - (1 : Int32))), (.int (3 : Int32)), (.ref b39)]))
  have bq3 := bk3.2
  obtain ⟨b3_, hg_b3_⟩ : ∃ z, (((p4 &&& (7 : Int32)) % (bb + (1 : Int32))) - (1 : Int32)) = z := ⟨_, rfl⟩
  rw [hg_b3_]
  show own_R p.tables e below P (T42.setTop (mkF m 75 #[.val (.int p0), .val (.int p1), .val (.int p2), .val (.int p3), .val (.int p4), .val (.int p5), .val (.int bb), .val (.ref b39), .unset, .unset, .unset, .unset, .unset] [(.int b3_), (.int (3 : Int32)), (.ref b39)]))
  rw [hg_b3_] at bq3
  refine own_fwd (fun tt kt => XS.i2s X42.here hx rfl (hb hby at_75) rfl kt) ?_
  show own_R p.tables e below P (T42.setTop (mkF m 76 #[.val (.int p0), .val (.int p1), .val (.int p2), .val (.int p3), .val (.int p4), .val (.int p5), .val (.int bb), .val (.ref b39), .unset, .unset, .unset, .unset, .unset] [(.int (b3_.toInt16.toInt32)), (.int (3 : Int32)), (.ref b39)]))
  obtain ⟨T43, h43, X43, e43, W43, A43_, st43⟩ := own_stS X42 hx hZ e42 A42_ (j := (3 : Int32)) 3 (by decide) (by decide) (g := (mkF m 76 #[.val (.int p0), .val (.int p1), .val (.int p2), .val (.int p3), .val (.int p4), .val (.int p5), .val (.int bb), .val (.ref b39), .unset, .unset, .unset, .unset, .unset] [(.int (b3_.toInt16.toInt32)), (.int (3 : Int32)), (.ref b39)])) rfl rfl (hb hby at_76)
  have B39_x43 := B39_x42.wr W43
  have N43 := Fr.snoc X43 N42 ge_b39
  have Z43 : n0 ≤ h43.size := by rw [W43.size]; exact Z42
  have Y43 : h0.size ≤ h43.size := by rw [W43.size]; exact Y42
  refine own_fwd st43 ?_
  show own_R p.tables e below P (T43.setTop (mkF m 77 #[.val (.int p0), .val (.int p1), .val (.int p2), .val (.int p3), .val (.int p4), .val (.int p5), .val (.int bb), .val (.ref b39), .unset, .unset, .unset, .unset, .unset] []))
  rw [own_sh nb4 bq3] at A43_
  obtain ⟨be, hbe_⟩ : ∃ f, (own_upd (own_upd (own_upd (own_upd (fun _ => (0 : Int32)) 0 b0_) 1 b1_) 2 b2_) 3 b3_) = f := ⟨_, rfl⟩
  have hbe : ∀ i, i < 4 → (be i).toInt < (nb : Int) := fun i hi => by
    rw [← hbe_]
    rcases (by omega : i = 0 ∨ i = 1 ∨ i = 2 ∨ i = 3) with rfl | rfl | rfl | rfl
    · exact bq0.2
    · exact bq1.2
    · exact bq2.2
    · exact bq3.2
  rw [hbe_] at A43_
  refine own_fwd (fun tt kt => XS.iload X43.here hx rfl (hb hby at_77) rfl kt) ?_
  show own_R p.tables e below P (T43.setTop (mkF m 79 #[.val (.int p0), .val (.int p1), .val (.int p2), .val (.int p3), .val (.int p4), .val (.int p5), .val (.int bb), .val (.ref b39), .unset, .unset, .unset, .unset, .unset] [(.int bb)]))
  obtain ⟨T44, h44, b44, g44, X44, e44, E44, A44, B44, st44⟩ := own_newA (n := nb) X43 hx hZ (hw _ (List.mem_of_getElem? (i := 1) rfl)) e43 (z := bb) hnb (cap := 4) nb4 (g := (mkF m 79 #[.val (.int p0), .val (.int p1), .val (.int p2), .val (.int p3), .val (.int p4), .val (.int p5), .val (.int bb), .val (.ref b39), .unset, .unset, .unset, .unset, .unset] [(.int bb)])) rfl (hb hby at_79) rfl (by decide) (by decide) (by decide) (ad := "[I") (by decide)
  have ne44_b39 : b39 ≠ b44 := Nat.ne_of_lt (by rw [g44]; exact A43_.lt)
  have ge_b44 : n0 ≤ b44 := by rw [g44]; exact Z43
  have sz_b44 : h0.size ≤ b44 := by rw [g44]; exact Y43
  have A43__x44 := A43_.ext E44
  have B39_x44 := B39_x43.ext E44
  have A44_ : own_AI Z h44 b44 .int nb (fun _ => (0 : Int32)) := A44
  have Z44 : n0 ≤ h44.size := Nat.le_trans Z43 E44.1
  have Y44 : h0.size ≤ h44.size := Nat.le_trans Y43 E44.1
  refine own_fwd st44 ?_
  show own_R p.tables e below P (T44.setTop (mkF m 81 #[.val (.int p0), .val (.int p1), .val (.int p2), .val (.int p3), .val (.int p4), .val (.int p5), .val (.int bb), .val (.ref b39), .unset, .unset, .unset, .unset, .unset] [(.ref b44)]))
  refine own_fwd (fun tt kt => XS.astore X44.here hx rfl (hb hby at_81) rfl rfl (l' := #[.val (.int p0), .val (.int p1), .val (.int p2), .val (.int p3), .val (.int p4), .val (.int p5), .val (.int bb), .val (.ref b39), .val (.ref b44), .unset, .unset, .unset, .unset]) rfl kt) ?_
  show own_R p.tables e below P (T44.setTop (mkF m 83 #[.val (.int p0), .val (.int p1), .val (.int p2), .val (.int p3), .val (.int p4), .val (.int p5), .val (.int bb), .val (.ref b39), .val (.ref b44), .unset, .unset, .unset, .unset] []))
  refine own_fwd (fun tt kt => XS.aload X44.here hx rfl (hb hby at_83) rfl rfl kt) ?_
  show own_R p.tables e below P (T44.setTop (mkF m 85 #[.val (.int p0), .val (.int p1), .val (.int p2), .val (.int p3), .val (.int p4), .val (.int p5), .val (.int bb), .val (.ref b39), .val (.ref b44), .unset, .unset, .unset, .unset] [(.ref b44)]))
  refine own_fwd (fun tt kt => XS.aload X44.here hx rfl (hb hby at_85) rfl rfl kt) ?_
  show own_R p.tables e below P (T44.setTop (mkF m 87 #[.val (.int p0), .val (.int p1), .val (.int p2), .val (.int p3), .val (.int p4), .val (.int p5), .val (.int bb), .val (.ref b39), .val (.ref b44), .unset, .unset, .unset, .unset] [(.ref b39), (.ref b44)]))
  refine own_fwd (fun tt kt => XS.iconst X44.here hx rfl (hb hby at_87) kt) ?_
  show own_R p.tables e below P (T44.setTop (mkF m 88 #[.val (.int p0), .val (.int p1), .val (.int p2), .val (.int p3), .val (.int p4), .val (.int p5), .val (.int bb), .val (.ref b39), .val (.ref b44), .unset, .unset, .unset, .unset] [(.int (0 : Int32)), (.ref b39), (.ref b44)]))
  refine own_fwd (own_ldS X44 hx hZ e44 A43__x44 (j := (0 : Int32)) 0 (by decide) (by decide) (g := (mkF m 88 #[.val (.int p0), .val (.int p1), .val (.int p2), .val (.int p3), .val (.int p4), .val (.int p5), .val (.int bb), .val (.ref b39), .val (.ref b44), .unset, .unset, .unset, .unset] [(.int (0 : Int32)), (.ref b39), (.ref b44)])) rfl rfl (hb hby at_88)) ?_
  show own_R p.tables e below P (T44.setTop (mkF m 89 #[.val (.int p0), .val (.int p1), .val (.int p2), .val (.int p3), .val (.int p4), .val (.int p5), .val (.int bb), .val (.ref b39), .val (.ref b44), .unset, .unset, .unset, .unset] [(.int (be 0)), (.ref b44)]))
  obtain ⟨_, _, ⟨T45, L45, k45, n45⟩, -, X45, ⟨Lc45, hQ45, l45, y45, z45⟩, st45⟩ := Jvm.LawKit.callS X44 hx (y := (⟨"com/example/rankbucket/rankbucket/BucketingRanksPinLaw", "count", "([IS)V"⟩ : MethodName)) hown (mvT hZ (hw _ (List.mem_of_getElem? (i := 2) rfl))) (mvT hZ (hw _ (List.mem_of_getElem? (i := 3) rfl))) (mvT hZ (hw _ (List.mem_of_getElem? (i := 4) rfl))) (mvT hZ (hw _ (List.mem_of_getElem? (i := 5) rfl))) (by decide) (backOf (W := 0) (own_rm1 l Z a0 hw [] b44 (be 0) (fun _ => (0 : Int32)) nb h44 n0 Z44 A44_ ge_b44 (hbe 0 (by decide))) hZ (hw _ (List.mem_of_getElem? (i := 5) rfl)) (hw _ (List.mem_of_getElem? (i := 4) rfl)) (by decide) (by decide)) (g := (mkF m 89 #[.val (.int p0), .val (.int p1), .val (.int p2), .val (.int p3), .val (.int p4), .val (.int p5), .val (.int bb), .val (.ref b39), .val (.ref b44), .unset, .unset, .unset, .unset] [(.int (be 0)), (.ref b44)])) rfl (by rw [hml]; rfl) (argsL := [(.ref b44), (.int (be 0))]) (rest := []) (lenOf own_pd1 rfl) rfl (by show 2 * 0 + _ ≤ _; exact Nat.le_of_eq rfl) (hb hby at_89) (fun _ _ => ⟨rfl, e44, (by decide : 2 + 0 ≤ _), (by decide : 8 + 0 ≤ _)⟩)
  dsimp only [Pt.U, Pt.locs, Pt.cells, Pt.slots] at X45 l45 y45 z45 st45 hQ45
  rw [l45, (show k45 = 2 from y45), (show n45 = 8 from z45)] at X45
  obtain ⟨h45, e45⟩ : ∃ z, T45.heap = z := ⟨_, rfl⟩
  rw [e45] at hQ45
  obtain ⟨hq45, N45q, K45, A45_⟩ := hQ45
  rw [hq45] at st45
  have N45 := Fr.app N43 N45q
  have A43__x45 := A43__x44.keep K45 (ninS ne44_b39 nin0)
  have B39_x45 := B39_x44.keep K45
  have B44_x45 := B44.keep K45
  have Z45 : n0 ≤ h45.size := Nat.le_trans Z44 K45.1
  have Y45 : h0.size ≤ h45.size := Nat.le_trans Y44 K45.1
  refine own_fwd st45 ?_
  show own_R p.tables e below P (T45.setTop (mkF m 92 #[.val (.int p0), .val (.int p1), .val (.int p2), .val (.int p3), .val (.int p4), .val (.int p5), .val (.int bb), .val (.ref b39), .val (.ref b44), .unset, .unset, .unset, .unset] []))
  refine own_fwd (fun tt kt => XS.aload X45.here hx rfl (hb hby at_92) rfl rfl kt) ?_
  show own_R p.tables e below P (T45.setTop (mkF m 94 #[.val (.int p0), .val (.int p1), .val (.int p2), .val (.int p3), .val (.int p4), .val (.int p5), .val (.int bb), .val (.ref b39), .val (.ref b44), .unset, .unset, .unset, .unset] [(.ref b44)]))
  refine own_fwd (fun tt kt => XS.aload X45.here hx rfl (hb hby at_94) rfl rfl kt) ?_
  show own_R p.tables e below P (T45.setTop (mkF m 96 #[.val (.int p0), .val (.int p1), .val (.int p2), .val (.int p3), .val (.int p4), .val (.int p5), .val (.int bb), .val (.ref b39), .val (.ref b44), .unset, .unset, .unset, .unset] [(.ref b39), (.ref b44)]))
  refine own_fwd (fun tt kt => XS.iconst X45.here hx rfl (hb hby at_96) kt) ?_
  show own_R p.tables e below P (T45.setTop (mkF m 97 #[.val (.int p0), .val (.int p1), .val (.int p2), .val (.int p3), .val (.int p4), .val (.int p5), .val (.int bb), .val (.ref b39), .val (.ref b44), .unset, .unset, .unset, .unset] [(.int (1 : Int32)), (.ref b39), (.ref b44)]))
  refine own_fwd (own_ldS X45 hx hZ e45 A43__x45 (j := (1 : Int32)) 1 (by decide) (by decide) (g := (mkF m 97 #[.val (.int p0), .val (.int p1), .val (.int p2), .val (.int p3), .val (.int p4), .val (.int p5), .val (.int bb), .val (.ref b39), .val (.ref b44), .unset, .unset, .unset, .unset] [(.int (1 : Int32)), (.ref b39), (.ref b44)])) rfl rfl (hb hby at_97)) ?_
  show own_R p.tables e below P (T45.setTop (mkF m 98 #[.val (.int p0), .val (.int p1), .val (.int p2), .val (.int p3), .val (.int p4), .val (.int p5), .val (.int bb), .val (.ref b39), .val (.ref b44), .unset, .unset, .unset, .unset] [(.int (be 1)), (.ref b44)]))
  obtain ⟨_, _, ⟨T46, L46, k46, n46⟩, -, X46, ⟨Lc46, hQ46, l46, y46, z46⟩, st46⟩ := Jvm.LawKit.callS X45 hx (y := (⟨"com/example/rankbucket/rankbucket/BucketingRanksPinLaw", "count", "([IS)V"⟩ : MethodName)) hown (mvT hZ (hw _ (List.mem_of_getElem? (i := 2) rfl))) (mvT hZ (hw _ (List.mem_of_getElem? (i := 3) rfl))) (mvT hZ (hw _ (List.mem_of_getElem? (i := 4) rfl))) (mvT hZ (hw _ (List.mem_of_getElem? (i := 5) rfl))) (by decide) (backOf (W := 0) (own_rm1 l Z a0 hw [] b44 (be 1) (own_inc (fun _ => (0 : Int32)) (be 0)) nb h45 n0 Z45 A45_ ge_b44 (hbe 1 (by decide))) hZ (hw _ (List.mem_of_getElem? (i := 5) rfl)) (hw _ (List.mem_of_getElem? (i := 4) rfl)) (by decide) (by decide)) (g := (mkF m 98 #[.val (.int p0), .val (.int p1), .val (.int p2), .val (.int p3), .val (.int p4), .val (.int p5), .val (.int bb), .val (.ref b39), .val (.ref b44), .unset, .unset, .unset, .unset] [(.int (be 1)), (.ref b44)])) rfl (by rw [hml]; rfl) (argsL := [(.ref b44), (.int (be 1))]) (rest := []) (lenOf own_pd1 rfl) rfl (by show 2 * 0 + _ ≤ _; exact Nat.le_of_eq rfl) (hb hby at_98) (fun _ _ => ⟨rfl, e45, (by decide : 2 + 0 ≤ _), (by decide : 8 + 0 ≤ _)⟩)
  dsimp only [Pt.U, Pt.locs, Pt.cells, Pt.slots] at X46 l46 y46 z46 st46 hQ46
  rw [l46, (show k46 = 2 from y46), (show n46 = 8 from z46)] at X46
  obtain ⟨h46, e46⟩ : ∃ z, T46.heap = z := ⟨_, rfl⟩
  rw [e46] at hQ46
  obtain ⟨hq46, N46q, K46, A46_⟩ := hQ46
  rw [hq46] at st46
  have N46 := Fr.app N45 N46q
  have A43__x46 := A43__x45.keep K46 (ninS ne44_b39 nin0)
  have B39_x46 := B39_x45.keep K46
  have B44_x46 := B44_x45.keep K46
  have Z46 : n0 ≤ h46.size := Nat.le_trans Z45 K46.1
  have Y46 : h0.size ≤ h46.size := Nat.le_trans Y45 K46.1
  refine own_fwd st46 ?_
  show own_R p.tables e below P (T46.setTop (mkF m 101 #[.val (.int p0), .val (.int p1), .val (.int p2), .val (.int p3), .val (.int p4), .val (.int p5), .val (.int bb), .val (.ref b39), .val (.ref b44), .unset, .unset, .unset, .unset] []))
  refine own_fwd (fun tt kt => XS.aload X46.here hx rfl (hb hby at_101) rfl rfl kt) ?_
  show own_R p.tables e below P (T46.setTop (mkF m 103 #[.val (.int p0), .val (.int p1), .val (.int p2), .val (.int p3), .val (.int p4), .val (.int p5), .val (.int bb), .val (.ref b39), .val (.ref b44), .unset, .unset, .unset, .unset] [(.ref b44)]))
  refine own_fwd (fun tt kt => XS.aload X46.here hx rfl (hb hby at_103) rfl rfl kt) ?_
  show own_R p.tables e below P (T46.setTop (mkF m 105 #[.val (.int p0), .val (.int p1), .val (.int p2), .val (.int p3), .val (.int p4), .val (.int p5), .val (.int bb), .val (.ref b39), .val (.ref b44), .unset, .unset, .unset, .unset] [(.ref b39), (.ref b44)]))
  refine own_fwd (fun tt kt => XS.iconst X46.here hx rfl (hb hby at_105) kt) ?_
  show own_R p.tables e below P (T46.setTop (mkF m 106 #[.val (.int p0), .val (.int p1), .val (.int p2), .val (.int p3), .val (.int p4), .val (.int p5), .val (.int bb), .val (.ref b39), .val (.ref b44), .unset, .unset, .unset, .unset] [(.int (2 : Int32)), (.ref b39), (.ref b44)]))
  refine own_fwd (own_ldS X46 hx hZ e46 A43__x46 (j := (2 : Int32)) 2 (by decide) (by decide) (g := (mkF m 106 #[.val (.int p0), .val (.int p1), .val (.int p2), .val (.int p3), .val (.int p4), .val (.int p5), .val (.int bb), .val (.ref b39), .val (.ref b44), .unset, .unset, .unset, .unset] [(.int (2 : Int32)), (.ref b39), (.ref b44)])) rfl rfl (hb hby at_106)) ?_
  show own_R p.tables e below P (T46.setTop (mkF m 107 #[.val (.int p0), .val (.int p1), .val (.int p2), .val (.int p3), .val (.int p4), .val (.int p5), .val (.int bb), .val (.ref b39), .val (.ref b44), .unset, .unset, .unset, .unset] [(.int (be 2)), (.ref b44)]))
  obtain ⟨_, _, ⟨T47, L47, k47, n47⟩, -, X47, ⟨Lc47, hQ47, l47, y47, z47⟩, st47⟩ := Jvm.LawKit.callS X46 hx (y := (⟨"com/example/rankbucket/rankbucket/BucketingRanksPinLaw", "count", "([IS)V"⟩ : MethodName)) hown (mvT hZ (hw _ (List.mem_of_getElem? (i := 2) rfl))) (mvT hZ (hw _ (List.mem_of_getElem? (i := 3) rfl))) (mvT hZ (hw _ (List.mem_of_getElem? (i := 4) rfl))) (mvT hZ (hw _ (List.mem_of_getElem? (i := 5) rfl))) (by decide) (backOf (W := 0) (own_rm1 l Z a0 hw [] b44 (be 2) (own_inc (own_inc (fun _ => (0 : Int32)) (be 0)) (be 1)) nb h46 n0 Z46 A46_ ge_b44 (hbe 2 (by decide))) hZ (hw _ (List.mem_of_getElem? (i := 5) rfl)) (hw _ (List.mem_of_getElem? (i := 4) rfl)) (by decide) (by decide)) (g := (mkF m 107 #[.val (.int p0), .val (.int p1), .val (.int p2), .val (.int p3), .val (.int p4), .val (.int p5), .val (.int bb), .val (.ref b39), .val (.ref b44), .unset, .unset, .unset, .unset] [(.int (be 2)), (.ref b44)])) rfl (by rw [hml]; rfl) (argsL := [(.ref b44), (.int (be 2))]) (rest := []) (lenOf own_pd1 rfl) rfl (by show 2 * 0 + _ ≤ _; exact Nat.le_of_eq rfl) (hb hby at_107) (fun _ _ => ⟨rfl, e46, (by decide : 2 + 0 ≤ _), (by decide : 8 + 0 ≤ _)⟩)
  dsimp only [Pt.U, Pt.locs, Pt.cells, Pt.slots] at X47 l47 y47 z47 st47 hQ47
  rw [l47, (show k47 = 2 from y47), (show n47 = 8 from z47)] at X47
  obtain ⟨h47, e47⟩ : ∃ z, T47.heap = z := ⟨_, rfl⟩
  rw [e47] at hQ47
  obtain ⟨hq47, N47q, K47, A47_⟩ := hQ47
  rw [hq47] at st47
  have N47 := Fr.app N46 N47q
  have A43__x47 := A43__x46.keep K47 (ninS ne44_b39 nin0)
  have B39_x47 := B39_x46.keep K47
  have B44_x47 := B44_x46.keep K47
  have Z47 : n0 ≤ h47.size := Nat.le_trans Z46 K47.1
  have Y47 : h0.size ≤ h47.size := Nat.le_trans Y46 K47.1
  refine own_fwd st47 ?_
  show own_R p.tables e below P (T47.setTop (mkF m 110 #[.val (.int p0), .val (.int p1), .val (.int p2), .val (.int p3), .val (.int p4), .val (.int p5), .val (.int bb), .val (.ref b39), .val (.ref b44), .unset, .unset, .unset, .unset] []))
  refine own_fwd (fun tt kt => XS.aload X47.here hx rfl (hb hby at_110) rfl rfl kt) ?_
  show own_R p.tables e below P (T47.setTop (mkF m 112 #[.val (.int p0), .val (.int p1), .val (.int p2), .val (.int p3), .val (.int p4), .val (.int p5), .val (.int bb), .val (.ref b39), .val (.ref b44), .unset, .unset, .unset, .unset] [(.ref b44)]))
  refine own_fwd (fun tt kt => XS.aload X47.here hx rfl (hb hby at_112) rfl rfl kt) ?_
  show own_R p.tables e below P (T47.setTop (mkF m 114 #[.val (.int p0), .val (.int p1), .val (.int p2), .val (.int p3), .val (.int p4), .val (.int p5), .val (.int bb), .val (.ref b39), .val (.ref b44), .unset, .unset, .unset, .unset] [(.ref b39), (.ref b44)]))
  refine own_fwd (fun tt kt => XS.iconst X47.here hx rfl (hb hby at_114) kt) ?_
  show own_R p.tables e below P (T47.setTop (mkF m 115 #[.val (.int p0), .val (.int p1), .val (.int p2), .val (.int p3), .val (.int p4), .val (.int p5), .val (.int bb), .val (.ref b39), .val (.ref b44), .unset, .unset, .unset, .unset] [(.int (3 : Int32)), (.ref b39), (.ref b44)]))
  refine own_fwd (own_ldS X47 hx hZ e47 A43__x47 (j := (3 : Int32)) 3 (by decide) (by decide) (g := (mkF m 115 #[.val (.int p0), .val (.int p1), .val (.int p2), .val (.int p3), .val (.int p4), .val (.int p5), .val (.int bb), .val (.ref b39), .val (.ref b44), .unset, .unset, .unset, .unset] [(.int (3 : Int32)), (.ref b39), (.ref b44)])) rfl rfl (hb hby at_115)) ?_
  show own_R p.tables e below P (T47.setTop (mkF m 116 #[.val (.int p0), .val (.int p1), .val (.int p2), .val (.int p3), .val (.int p4), .val (.int p5), .val (.int bb), .val (.ref b39), .val (.ref b44), .unset, .unset, .unset, .unset] [(.int (be 3)), (.ref b44)]))
  obtain ⟨_, _, ⟨T48, L48, k48, n48⟩, -, X48, ⟨Lc48, hQ48, l48, y48, z48⟩, st48⟩ := Jvm.LawKit.callS X47 hx (y := (⟨"com/example/rankbucket/rankbucket/BucketingRanksPinLaw", "count", "([IS)V"⟩ : MethodName)) hown (mvT hZ (hw _ (List.mem_of_getElem? (i := 2) rfl))) (mvT hZ (hw _ (List.mem_of_getElem? (i := 3) rfl))) (mvT hZ (hw _ (List.mem_of_getElem? (i := 4) rfl))) (mvT hZ (hw _ (List.mem_of_getElem? (i := 5) rfl))) (by decide) (backOf (W := 0) (own_rm1 l Z a0 hw [] b44 (be 3) (own_inc (own_inc (own_inc (fun _ => (0 : Int32)) (be 0)) (be 1)) (be 2)) nb h47 n0 Z47 A47_ ge_b44 (hbe 3 (by decide))) hZ (hw _ (List.mem_of_getElem? (i := 5) rfl)) (hw _ (List.mem_of_getElem? (i := 4) rfl)) (by decide) (by decide)) (g := (mkF m 116 #[.val (.int p0), .val (.int p1), .val (.int p2), .val (.int p3), .val (.int p4), .val (.int p5), .val (.int bb), .val (.ref b39), .val (.ref b44), .unset, .unset, .unset, .unset] [(.int (be 3)), (.ref b44)])) rfl (by rw [hml]; rfl) (argsL := [(.ref b44), (.int (be 3))]) (rest := []) (lenOf own_pd1 rfl) rfl (by show 2 * 0 + _ ≤ _; exact Nat.le_of_eq rfl) (hb hby at_116) (fun _ _ => ⟨rfl, e47, (by decide : 2 + 0 ≤ _), (by decide : 8 + 0 ≤ _)⟩)
  dsimp only [Pt.U, Pt.locs, Pt.cells, Pt.slots] at X48 l48 y48 z48 st48 hQ48
  rw [l48, (show k48 = 2 from y48), (show n48 = 8 from z48)] at X48
  obtain ⟨h48, e48⟩ : ∃ z, T48.heap = z := ⟨_, rfl⟩
  rw [e48] at hQ48
  obtain ⟨hq48, N48q, K48, A48_⟩ := hQ48
  rw [hq48] at st48
  have N48 := Fr.app N47 N48q
  have A43__x48 := A43__x47.keep K48 (ninS ne44_b39 nin0)
  have B39_x48 := B39_x47.keep K48
  have B44_x48 := B44_x47.keep K48
  have Z48 : n0 ≤ h48.size := Nat.le_trans Z47 K48.1
  have Y48 : h0.size ≤ h48.size := Nat.le_trans Y47 K48.1
  refine own_fwd st48 ?_
  show own_R p.tables e below P (T48.setTop (mkF m 119 #[.val (.int p0), .val (.int p1), .val (.int p2), .val (.int p3), .val (.int p4), .val (.int p5), .val (.int bb), .val (.ref b39), .val (.ref b44), .unset, .unset, .unset, .unset] []))
  refine own_fwd (fun tt kt => XS.iconst X48.here hx rfl (hb hby at_119) kt) ?_
  show own_R p.tables e below P (T48.setTop (mkF m 120 #[.val (.int p0), .val (.int p1), .val (.int p2), .val (.int p3), .val (.int p4), .val (.int p5), .val (.int bb), .val (.ref b39), .val (.ref b44), .unset, .unset, .unset, .unset] [(.int (4 : Int32))]))
  obtain ⟨T49, h49, b49, g49, X49, e49, E49, A49, B49, st49⟩ := own_newA (n := 4) X48 hx hZ (hw _ (List.mem_of_getElem? (i := 1) rfl)) e48 (z := (4 : Int32)) (by decide) (cap := 4) (by decide) (g := (mkF m 120 #[.val (.int p0), .val (.int p1), .val (.int p2), .val (.int p3), .val (.int p4), .val (.int p5), .val (.int bb), .val (.ref b39), .val (.ref b44), .unset, .unset, .unset, .unset] [(.int (4 : Int32))])) rfl (hb hby at_120) rfl (by decide) (by decide) (by decide) (ad := "[I") (by decide)
  have ne49_b39 : b39 ≠ b49 := Nat.ne_of_lt (by rw [g49]; exact A43__x48.lt)
  have ne49_b44 : b44 ≠ b49 := Nat.ne_of_lt (by rw [g49]; exact B44_x48.lt)
  have ge_b49 : n0 ≤ b49 := by rw [g49]; exact Z48
  have sz_b49 : h0.size ≤ b49 := by rw [g49]; exact Y48
  have A43__x49 := A43__x48.ext E49
  have B39_x49 := B39_x48.ext E49
  have B44_x49 := B44_x48.ext E49
  have A48__x49 := A48_.ext E49
  have A49_ : own_AI Z h49 b49 .int 4 (fun _ => (0 : Int32)) := A49
  have Z49 : n0 ≤ h49.size := Nat.le_trans Z48 E49.1
  have Y49 : h0.size ≤ h49.size := Nat.le_trans Y48 E49.1
  refine own_fwd st49 ?_
  show own_R p.tables e below P (T49.setTop (mkF m 122 #[.val (.int p0), .val (.int p1), .val (.int p2), .val (.int p3), .val (.int p4), .val (.int p5), .val (.int bb), .val (.ref b39), .val (.ref b44), .unset, .unset, .unset, .unset] [(.ref b49)]))
  refine own_fwd (fun tt kt => XS.astore X49.here hx rfl (hb hby at_122) rfl rfl (l' := #[.val (.int p0), .val (.int p1), .val (.int p2), .val (.int p3), .val (.int p4), .val (.int p5), .val (.int bb), .val (.ref b39), .val (.ref b44), .val (.ref b49), .unset, .unset, .unset]) rfl kt) ?_
  show own_R p.tables e below P (T49.setTop (mkF m 124 #[.val (.int p0), .val (.int p1), .val (.int p2), .val (.int p3), .val (.int p4), .val (.int p5), .val (.int bb), .val (.ref b39), .val (.ref b44), .val (.ref b49), .unset, .unset, .unset] []))
  refine own_fwd (fun tt kt => XS.aload X49.here hx rfl (hb hby at_124) rfl rfl kt) ?_
  show own_R p.tables e below P (T49.setTop (mkF m 126 #[.val (.int p0), .val (.int p1), .val (.int p2), .val (.int p3), .val (.int p4), .val (.int p5), .val (.int bb), .val (.ref b39), .val (.ref b44), .val (.ref b49), .unset, .unset, .unset] [(.ref b49)]))
  refine own_fwd (fun tt kt => XS.iconst X49.here hx rfl (hb hby at_126) kt) ?_
  show own_R p.tables e below P (T49.setTop (mkF m 127 #[.val (.int p0), .val (.int p1), .val (.int p2), .val (.int p3), .val (.int p4), .val (.int p5), .val (.int bb), .val (.ref b39), .val (.ref b44), .val (.ref b49), .unset, .unset, .unset] [(.int (0 : Int32)), (.ref b49)]))
  refine own_fwd (fun tt kt => XS.iconst X49.here hx rfl (hb hby at_127) kt) ?_
  show own_R p.tables e below P (T49.setTop (mkF m 128 #[.val (.int p0), .val (.int p1), .val (.int p2), .val (.int p3), .val (.int p4), .val (.int p5), .val (.int bb), .val (.ref b39), .val (.ref b44), .val (.ref b49), .unset, .unset, .unset] [(.int (0 : Int32)), (.int (0 : Int32)), (.ref b49)]))
  obtain ⟨T50, h50, X50, e50, W50, A50_, st50⟩ := own_stI X49 hx hZ e49 A49_ (j := (0 : Int32)) 0 (by decide) (by decide) (g := (mkF m 128 #[.val (.int p0), .val (.int p1), .val (.int p2), .val (.int p3), .val (.int p4), .val (.int p5), .val (.int bb), .val (.ref b39), .val (.ref b44), .val (.ref b49), .unset, .unset, .unset] [(.int (0 : Int32)), (.int (0 : Int32)), (.ref b49)])) rfl rfl (hb hby at_128)
  have A43__x50 := A43__x49.other W50 ne49_b39
  have B39_x50 := B39_x49.wr W50
  have B44_x50 := B44_x49.wr W50
  have A48__x50 := A48__x49.other W50 ne49_b44
  have B49_x50 := B49.wr W50
  have N50 := Fr.snoc X50 N48 ge_b49
  have Z50 : n0 ≤ h50.size := by rw [W50.size]; exact Z49
  have Y50 : h0.size ≤ h50.size := by rw [W50.size]; exact Y49
  refine own_fwd st50 ?_
  show own_R p.tables e below P (T50.setTop (mkF m 129 #[.val (.int p0), .val (.int p1), .val (.int p2), .val (.int p3), .val (.int p4), .val (.int p5), .val (.int bb), .val (.ref b39), .val (.ref b44), .val (.ref b49), .unset, .unset, .unset] []))
  refine own_fwd (fun tt kt => XS.aload X50.here hx rfl (hb hby at_129) rfl rfl kt) ?_
  show own_R p.tables e below P (T50.setTop (mkF m 131 #[.val (.int p0), .val (.int p1), .val (.int p2), .val (.int p3), .val (.int p4), .val (.int p5), .val (.int bb), .val (.ref b39), .val (.ref b44), .val (.ref b49), .unset, .unset, .unset] [(.ref b49)]))
  refine own_fwd (fun tt kt => XS.iconst X50.here hx rfl (hb hby at_131) kt) ?_
  show own_R p.tables e below P (T50.setTop (mkF m 132 #[.val (.int p0), .val (.int p1), .val (.int p2), .val (.int p3), .val (.int p4), .val (.int p5), .val (.int bb), .val (.ref b39), .val (.ref b44), .val (.ref b49), .unset, .unset, .unset] [(.int (1 : Int32)), (.ref b49)]))
  refine own_fwd (fun tt kt => XS.iconst X50.here hx rfl (hb hby at_132) kt) ?_
  show own_R p.tables e below P (T50.setTop (mkF m 133 #[.val (.int p0), .val (.int p1), .val (.int p2), .val (.int p3), .val (.int p4), .val (.int p5), .val (.int bb), .val (.ref b39), .val (.ref b44), .val (.ref b49), .unset, .unset, .unset] [(.int (1 : Int32)), (.int (1 : Int32)), (.ref b49)]))
  obtain ⟨T51, h51, X51, e51, W51, A51_, st51⟩ := own_stI X50 hx hZ e50 A50_ (j := (1 : Int32)) 1 (by decide) (by decide) (g := (mkF m 133 #[.val (.int p0), .val (.int p1), .val (.int p2), .val (.int p3), .val (.int p4), .val (.int p5), .val (.int bb), .val (.ref b39), .val (.ref b44), .val (.ref b49), .unset, .unset, .unset] [(.int (1 : Int32)), (.int (1 : Int32)), (.ref b49)])) rfl rfl (hb hby at_133)
  have A43__x51 := A43__x50.other W51 ne49_b39
  have B39_x51 := B39_x50.wr W51
  have B44_x51 := B44_x50.wr W51
  have A48__x51 := A48__x50.other W51 ne49_b44
  have B49_x51 := B49_x50.wr W51
  have N51 := Fr.snoc X51 N50 ge_b49
  have Z51 : n0 ≤ h51.size := by rw [W51.size]; exact Z50
  have Y51 : h0.size ≤ h51.size := by rw [W51.size]; exact Y50
  refine own_fwd st51 ?_
  show own_R p.tables e below P (T51.setTop (mkF m 134 #[.val (.int p0), .val (.int p1), .val (.int p2), .val (.int p3), .val (.int p4), .val (.int p5), .val (.int bb), .val (.ref b39), .val (.ref b44), .val (.ref b49), .unset, .unset, .unset] []))
  refine own_fwd (fun tt kt => XS.aload X51.here hx rfl (hb hby at_134) rfl rfl kt) ?_
  show own_R p.tables e below P (T51.setTop (mkF m 136 #[.val (.int p0), .val (.int p1), .val (.int p2), .val (.int p3), .val (.int p4), .val (.int p5), .val (.int bb), .val (.ref b39), .val (.ref b44), .val (.ref b49), .unset, .unset, .unset] [(.ref b49)]))
  refine own_fwd (fun tt kt => XS.iconst X51.here hx rfl (hb hby at_136) kt) ?_
  show own_R p.tables e below P (T51.setTop (mkF m 137 #[.val (.int p0), .val (.int p1), .val (.int p2), .val (.int p3), .val (.int p4), .val (.int p5), .val (.int bb), .val (.ref b39), .val (.ref b44), .val (.ref b49), .unset, .unset, .unset] [(.int (2 : Int32)), (.ref b49)]))
  refine own_fwd (fun tt kt => XS.iconst X51.here hx rfl (hb hby at_137) kt) ?_
  show own_R p.tables e below P (T51.setTop (mkF m 138 #[.val (.int p0), .val (.int p1), .val (.int p2), .val (.int p3), .val (.int p4), .val (.int p5), .val (.int bb), .val (.ref b39), .val (.ref b44), .val (.ref b49), .unset, .unset, .unset] [(.int (2 : Int32)), (.int (2 : Int32)), (.ref b49)]))
  obtain ⟨T52, h52, X52, e52, W52, A52_, st52⟩ := own_stI X51 hx hZ e51 A51_ (j := (2 : Int32)) 2 (by decide) (by decide) (g := (mkF m 138 #[.val (.int p0), .val (.int p1), .val (.int p2), .val (.int p3), .val (.int p4), .val (.int p5), .val (.int bb), .val (.ref b39), .val (.ref b44), .val (.ref b49), .unset, .unset, .unset] [(.int (2 : Int32)), (.int (2 : Int32)), (.ref b49)])) rfl rfl (hb hby at_138)
  have A43__x52 := A43__x51.other W52 ne49_b39
  have B39_x52 := B39_x51.wr W52
  have B44_x52 := B44_x51.wr W52
  have A48__x52 := A48__x51.other W52 ne49_b44
  have B49_x52 := B49_x51.wr W52
  have N52 := Fr.snoc X52 N51 ge_b49
  have Z52 : n0 ≤ h52.size := by rw [W52.size]; exact Z51
  have Y52 : h0.size ≤ h52.size := by rw [W52.size]; exact Y51
  refine own_fwd st52 ?_
  show own_R p.tables e below P (T52.setTop (mkF m 139 #[.val (.int p0), .val (.int p1), .val (.int p2), .val (.int p3), .val (.int p4), .val (.int p5), .val (.int bb), .val (.ref b39), .val (.ref b44), .val (.ref b49), .unset, .unset, .unset] []))
  refine own_fwd (fun tt kt => XS.aload X52.here hx rfl (hb hby at_139) rfl rfl kt) ?_
  show own_R p.tables e below P (T52.setTop (mkF m 141 #[.val (.int p0), .val (.int p1), .val (.int p2), .val (.int p3), .val (.int p4), .val (.int p5), .val (.int bb), .val (.ref b39), .val (.ref b44), .val (.ref b49), .unset, .unset, .unset] [(.ref b49)]))
  refine own_fwd (fun tt kt => XS.iconst X52.here hx rfl (hb hby at_141) kt) ?_
  show own_R p.tables e below P (T52.setTop (mkF m 142 #[.val (.int p0), .val (.int p1), .val (.int p2), .val (.int p3), .val (.int p4), .val (.int p5), .val (.int bb), .val (.ref b39), .val (.ref b44), .val (.ref b49), .unset, .unset, .unset] [(.int (3 : Int32)), (.ref b49)]))
  refine own_fwd (fun tt kt => XS.iconst X52.here hx rfl (hb hby at_142) kt) ?_
  show own_R p.tables e below P (T52.setTop (mkF m 143 #[.val (.int p0), .val (.int p1), .val (.int p2), .val (.int p3), .val (.int p4), .val (.int p5), .val (.int bb), .val (.ref b39), .val (.ref b44), .val (.ref b49), .unset, .unset, .unset] [(.int (3 : Int32)), (.int (3 : Int32)), (.ref b49)]))
  obtain ⟨T53, h53, X53, e53, W53, A53_, st53⟩ := own_stI X52 hx hZ e52 A52_ (j := (3 : Int32)) 3 (by decide) (by decide) (g := (mkF m 143 #[.val (.int p0), .val (.int p1), .val (.int p2), .val (.int p3), .val (.int p4), .val (.int p5), .val (.int bb), .val (.ref b39), .val (.ref b44), .val (.ref b49), .unset, .unset, .unset] [(.int (3 : Int32)), (.int (3 : Int32)), (.ref b49)])) rfl rfl (hb hby at_143)
  have A43__x53 := A43__x52.other W53 ne49_b39
  have B39_x53 := B39_x52.wr W53
  have B44_x53 := B44_x52.wr W53
  have A48__x53 := A48__x52.other W53 ne49_b44
  have B49_x53 := B49_x52.wr W53
  have N53 := Fr.snoc X53 N52 ge_b49
  have Z53 : n0 ≤ h53.size := by rw [W53.size]; exact Z52
  have Y53 : h0.size ≤ h53.size := by rw [W53.size]; exact Y52
  refine own_fwd st53 ?_
  show own_R p.tables e below P (T53.setTop (mkF m 144 #[.val (.int p0), .val (.int p1), .val (.int p2), .val (.int p3), .val (.int p4), .val (.int p5), .val (.int bb), .val (.ref b39), .val (.ref b44), .val (.ref b49), .unset, .unset, .unset] []))
  have Sz : own_AI Z h53 b44 .int nb (own_sz be) := A48__x53
  have EV0 := fun (sg : Nat → Nat) (H : own_Perm sg) => own_every (be := be) H
  obtain ⟨szf, hszf⟩ : ∃ f, own_sz be = f := ⟨_, rfl⟩
  rw [hszf] at Sz
  simp only [hszf] at EV0
  have Od : own_AI Z h53 b49 .int 4 (fun i => ((fun i => i) i : Nat).toInt32) := A53_.cong fun i hi => by
    rcases (by omega : i = 0 ∨ i = 1 ∨ i = 2 ∨ i = 3) with rfl | rfl | rfl | rfl <;> rfl
  refine own_fwd (fun tt kt => XS.iload X53.here hx rfl (hb hby at_144) rfl kt) ?_
  show own_R p.tables e below P (T53.setTop (mkF m 146 #[.val (.int p0), .val (.int p1), .val (.int p2), .val (.int p3), .val (.int p4), .val (.int p5), .val (.int bb), .val (.ref b39), .val (.ref b44), .val (.ref b49), .unset, .unset, .unset] [(.int p5)]))
  refine own_fwd (fun tt kt => X53.ldcInt hx hown (mvT hZ (hw _ (List.mem_of_getElem? (i := 6) rfl))) (g := (mkF m 146 #[.val (.int p0), .val (.int p1), .val (.int p2), .val (.int p3), .val (.int p4), .val (.int p5), .val (.int bb), .val (.ref b39), .val (.ref b44), .val (.ref b49), .unset, .unset, .unset] [(.int p5)])) rfl (hb hby at_146) tt kt) ?_
  show own_R p.tables e below P (T53.setTop (mkF m 148 #[.val (.int p0), .val (.int p1), .val (.int p2), .val (.int p3), .val (.int p4), .val (.int p5), .val (.int bb), .val (.ref b39), .val (.ref b44), .val (.ref b49), .unset, .unset, .unset] [(.int (2147483647 : Int32)), (.int p5)]))
  refine own_fwd (fun tt kt => XS.iand X53.here hx rfl (hb hby at_148) rfl kt) ?_
  show own_R p.tables e below P (T53.setTop (mkF m 149 #[.val (.int p0), .val (.int p1), .val (.int p2), .val (.int p3), .val (.int p4), .val (.int p5), .val (.int bb), .val (.ref b39), .val (.ref b44), .val (.ref b49), .unset, .unset, .unset] [(.int (p5 &&& (2147483647 : Int32)))]))
  refine own_fwd (fun tt kt => XS.bipush X53.here hx rfl (hb hby at_149) kt) ?_
  show own_R p.tables e below P (T53.setTop (mkF m 151 #[.val (.int p0), .val (.int p1), .val (.int p2), .val (.int p3), .val (.int p4), .val (.int p5), .val (.int bb), .val (.ref b39), .val (.ref b44), .val (.ref b49), .unset, .unset, .unset] [(.int (24 : Int32)), (.int (p5 &&& (2147483647 : Int32)))]))
  refine own_fwd (fun tt kt => iremM X53 hx rfl (hb hby at_151) rfl (by decide) kt) ?_
  show own_R p.tables e below P (T53.setTop (mkF m 152 #[.val (.int p0), .val (.int p1), .val (.int p2), .val (.int p3), .val (.int p4), .val (.int p5), .val (.int bb), .val (.ref b39), .val (.ref b44), .val (.ref b49), .unset, .unset, .unset] [(.int ((p5 &&& (2147483647 : Int32)) % (24 : Int32)))]))
  have pb := own_p24 p5
  obtain ⟨pp, hg_pp⟩ : ∃ z, ((p5 &&& (2147483647 : Int32)) % (24 : Int32)) = z := ⟨_, rfl⟩
  rw [hg_pp]
  show own_R p.tables e below P (T53.setTop (mkF m 152 #[.val (.int p0), .val (.int p1), .val (.int p2), .val (.int p3), .val (.int p4), .val (.int p5), .val (.int bb), .val (.ref b39), .val (.ref b44), .val (.ref b49), .unset, .unset, .unset] [(.int pp)]))
  rw [hg_pp] at pb
  obtain ⟨j3, j2, j1, e3, e2, e1, c3, c2, c1⟩ := own_js pp pb
  refine own_fwd (fun tt kt => XS.istore X53.here hx rfl (hb hby at_152) rfl (l' := #[.val (.int p0), .val (.int p1), .val (.int p2), .val (.int p3), .val (.int p4), .val (.int p5), .val (.int bb), .val (.ref b39), .val (.ref b44), .val (.ref b49), .val (.int pp), .unset, .unset]) rfl kt) ?_
  show own_R p.tables e below P (T53.setTop (mkF m 154 #[.val (.int p0), .val (.int p1), .val (.int p2), .val (.int p3), .val (.int p4), .val (.int p5), .val (.int bb), .val (.ref b39), .val (.ref b44), .val (.ref b49), .val (.int pp), .unset, .unset] []))
  refine own_fwd (fun tt kt => XS.aload X53.here hx rfl (hb hby at_154) rfl rfl kt) ?_
  show own_R p.tables e below P (T53.setTop (mkF m 156 #[.val (.int p0), .val (.int p1), .val (.int p2), .val (.int p3), .val (.int p4), .val (.int p5), .val (.int bb), .val (.ref b39), .val (.ref b44), .val (.ref b49), .val (.int pp), .unset, .unset] [(.ref b49)]))
  refine own_fwd (fun tt kt => XS.iconst X53.here hx rfl (hb hby at_156) kt) ?_
  show own_R p.tables e below P (T53.setTop (mkF m 157 #[.val (.int p0), .val (.int p1), .val (.int p2), .val (.int p3), .val (.int p4), .val (.int p5), .val (.int bb), .val (.ref b39), .val (.ref b44), .val (.ref b49), .val (.int pp), .unset, .unset] [(.int (3 : Int32)), (.ref b49)]))
  refine own_fwd (fun tt kt => XS.iload X53.here hx rfl (hb hby at_157) rfl kt) ?_
  show own_R p.tables e below P (T53.setTop (mkF m 159 #[.val (.int p0), .val (.int p1), .val (.int p2), .val (.int p3), .val (.int p4), .val (.int p5), .val (.int bb), .val (.ref b39), .val (.ref b44), .val (.ref b49), .val (.int pp), .unset, .unset] [(.int pp), (.int (3 : Int32)), (.ref b49)]))
  refine own_fwd (fun tt kt => XS.iconst X53.here hx rfl (hb hby at_159) kt) ?_
  show own_R p.tables e below P (T53.setTop (mkF m 160 #[.val (.int p0), .val (.int p1), .val (.int p2), .val (.int p3), .val (.int p4), .val (.int p5), .val (.int bb), .val (.ref b39), .val (.ref b44), .val (.ref b49), .val (.int pp), .unset, .unset] [(.int (4 : Int32)), (.int pp), (.int (3 : Int32)), (.ref b49)]))
  refine own_fwd (fun tt kt => iremM X53 hx rfl (hb hby at_160) rfl (by decide) kt) ?_
  show own_R p.tables e below P (T53.setTop (mkF m 161 #[.val (.int p0), .val (.int p1), .val (.int p2), .val (.int p3), .val (.int p4), .val (.int p5), .val (.int bb), .val (.ref b39), .val (.ref b44), .val (.ref b49), .val (.int pp), .unset, .unset] [(.int (pp % (4 : Int32))), (.int (3 : Int32)), (.ref b49)]))
  obtain ⟨_, _, ⟨T54, L54, k54, n54⟩, -, X54, ⟨Lc54, hQ54, l54, y54, z54⟩, st54⟩ := Jvm.LawKit.callS X53 hx (y := (⟨"com/example/rankbucket/rankbucket/BucketingRanksPinLaw", "swap", "([III)V"⟩ : MethodName)) hown (mvT hZ (hw _ (List.mem_of_getElem? (i := 7) rfl))) (mvT hZ (hw _ (List.mem_of_getElem? (i := 8) rfl))) (mvT hZ (hw _ (List.mem_of_getElem? (i := 4) rfl))) (mvT hZ (hw _ (List.mem_of_getElem? (i := 9) rfl))) (by decide) (backOf (W := 0) (own_rm2 l Z a0 hw [] b49 (3 : Int32) (pp % (4 : Int32)) (fun i => ((fun i => i) i : Nat).toInt32) 3 j3 h53 n0 Z53 Od ge_b49 rfl e3 (by decide) (by omega)) hZ (hw _ (List.mem_of_getElem? (i := 9) rfl)) (hw _ (List.mem_of_getElem? (i := 4) rfl)) (by decide) (by decide)) (g := (mkF m 161 #[.val (.int p0), .val (.int p1), .val (.int p2), .val (.int p3), .val (.int p4), .val (.int p5), .val (.int bb), .val (.ref b39), .val (.ref b44), .val (.ref b49), .val (.int pp), .unset, .unset] [(.int (pp % (4 : Int32))), (.int (3 : Int32)), (.ref b49)])) rfl (by rw [hml]; rfl) (argsL := [(.ref b49), (.int (3 : Int32)), (.int (pp % (4 : Int32)))]) (rest := []) (lenOf own_pd2 rfl) rfl (by show 2 * 0 + _ ≤ _; exact Nat.le_of_eq rfl) (hb hby at_161) (fun _ _ => ⟨rfl, e53, (by decide : 3 + 0 ≤ _), (by decide : 12 + 0 ≤ _)⟩)
  dsimp only [Pt.U, Pt.locs, Pt.cells, Pt.slots] at X54 l54 y54 z54 st54 hQ54
  rw [l54, (show k54 = 3 from y54), (show n54 = 12 from z54)] at X54
  obtain ⟨h54, e54⟩ : ∃ z, T54.heap = z := ⟨_, rfl⟩
  rw [e54] at hQ54
  obtain ⟨hq54, N54q, K54, A54_⟩ := hQ54
  rw [hq54] at st54
  have N54 := Fr.app N53 N54q
  rw [own_sw_map (fun i => i) 3 j3] at A54_
  have A43__x54 := A43__x53.keep K54 (ninS ne49_b39 nin0)
  have B39_x54 := B39_x53.keep K54
  have B44_x54 := B44_x53.keep K54
  have Sz_x54 := Sz.keep K54 (ninS ne49_b44 nin0)
  have B49_x54 := B49_x53.keep K54
  have Z54 : n0 ≤ h54.size := Nat.le_trans Z53 K54.1
  have Y54 : h0.size ≤ h54.size := Nat.le_trans Y53 K54.1
  refine own_fwd st54 ?_
  show own_R p.tables e below P (T54.setTop (mkF m 164 #[.val (.int p0), .val (.int p1), .val (.int p2), .val (.int p3), .val (.int p4), .val (.int p5), .val (.int bb), .val (.ref b39), .val (.ref b44), .val (.ref b49), .val (.int pp), .unset, .unset] []))
  refine own_fwd (fun tt kt => XS.aload X54.here hx rfl (hb hby at_164) rfl rfl kt) ?_
  show own_R p.tables e below P (T54.setTop (mkF m 166 #[.val (.int p0), .val (.int p1), .val (.int p2), .val (.int p3), .val (.int p4), .val (.int p5), .val (.int bb), .val (.ref b39), .val (.ref b44), .val (.ref b49), .val (.int pp), .unset, .unset] [(.ref b49)]))
  refine own_fwd (fun tt kt => XS.iconst X54.here hx rfl (hb hby at_166) kt) ?_
  show own_R p.tables e below P (T54.setTop (mkF m 167 #[.val (.int p0), .val (.int p1), .val (.int p2), .val (.int p3), .val (.int p4), .val (.int p5), .val (.int bb), .val (.ref b39), .val (.ref b44), .val (.ref b49), .val (.int pp), .unset, .unset] [(.int (2 : Int32)), (.ref b49)]))
  refine own_fwd (fun tt kt => XS.iload X54.here hx rfl (hb hby at_167) rfl kt) ?_
  show own_R p.tables e below P (T54.setTop (mkF m 169 #[.val (.int p0), .val (.int p1), .val (.int p2), .val (.int p3), .val (.int p4), .val (.int p5), .val (.int bb), .val (.ref b39), .val (.ref b44), .val (.ref b49), .val (.int pp), .unset, .unset] [(.int pp), (.int (2 : Int32)), (.ref b49)]))
  refine own_fwd (fun tt kt => XS.iconst X54.here hx rfl (hb hby at_169) kt) ?_
  show own_R p.tables e below P (T54.setTop (mkF m 170 #[.val (.int p0), .val (.int p1), .val (.int p2), .val (.int p3), .val (.int p4), .val (.int p5), .val (.int bb), .val (.ref b39), .val (.ref b44), .val (.ref b49), .val (.int pp), .unset, .unset] [(.int (4 : Int32)), (.int pp), (.int (2 : Int32)), (.ref b49)]))
  refine own_fwd (fun tt kt => XS.idiv X54.here hx rfl (hb hby at_170) rfl (by decide) kt) ?_
  show own_R p.tables e below P (T54.setTop (mkF m 171 #[.val (.int p0), .val (.int p1), .val (.int p2), .val (.int p3), .val (.int p4), .val (.int p5), .val (.int bb), .val (.ref b39), .val (.ref b44), .val (.ref b49), .val (.int pp), .unset, .unset] [(.int (pp / (4 : Int32))), (.int (2 : Int32)), (.ref b49)]))
  refine own_fwd (fun tt kt => XS.iconst X54.here hx rfl (hb hby at_171) kt) ?_
  show own_R p.tables e below P (T54.setTop (mkF m 172 #[.val (.int p0), .val (.int p1), .val (.int p2), .val (.int p3), .val (.int p4), .val (.int p5), .val (.int bb), .val (.ref b39), .val (.ref b44), .val (.ref b49), .val (.int pp), .unset, .unset] [(.int (3 : Int32)), (.int (pp / (4 : Int32))), (.int (2 : Int32)), (.ref b49)]))
  refine own_fwd (fun tt kt => iremM X54 hx rfl (hb hby at_172) rfl (by decide) kt) ?_
  show own_R p.tables e below P (T54.setTop (mkF m 173 #[.val (.int p0), .val (.int p1), .val (.int p2), .val (.int p3), .val (.int p4), .val (.int p5), .val (.int bb), .val (.ref b39), .val (.ref b44), .val (.ref b49), .val (.int pp), .unset, .unset] [(.int ((pp / (4 : Int32)) % (3 : Int32))), (.int (2 : Int32)), (.ref b49)]))
  obtain ⟨_, _, ⟨T55, L55, k55, n55⟩, -, X55, ⟨Lc55, hQ55, l55, y55, z55⟩, st55⟩ := Jvm.LawKit.callS X54 hx (y := (⟨"com/example/rankbucket/rankbucket/BucketingRanksPinLaw", "swap", "([III)V"⟩ : MethodName)) hown (mvT hZ (hw _ (List.mem_of_getElem? (i := 7) rfl))) (mvT hZ (hw _ (List.mem_of_getElem? (i := 8) rfl))) (mvT hZ (hw _ (List.mem_of_getElem? (i := 4) rfl))) (mvT hZ (hw _ (List.mem_of_getElem? (i := 9) rfl))) (by decide) (backOf (W := 0) (own_rm2 l Z a0 hw [] b49 (2 : Int32) ((pp / (4 : Int32)) % (3 : Int32)) (fun i => ((own_sw (fun i => i) 3 j3) i).toInt32) 2 j2 h54 n0 Z54 A54_ ge_b49 rfl e2 (by decide) (by omega)) hZ (hw _ (List.mem_of_getElem? (i := 9) rfl)) (hw _ (List.mem_of_getElem? (i := 4) rfl)) (by decide) (by decide)) (g := (mkF m 173 #[.val (.int p0), .val (.int p1), .val (.int p2), .val (.int p3), .val (.int p4), .val (.int p5), .val (.int bb), .val (.ref b39), .val (.ref b44), .val (.ref b49), .val (.int pp), .unset, .unset] [(.int ((pp / (4 : Int32)) % (3 : Int32))), (.int (2 : Int32)), (.ref b49)])) rfl (by rw [hml]; rfl) (argsL := [(.ref b49), (.int (2 : Int32)), (.int ((pp / (4 : Int32)) % (3 : Int32)))]) (rest := []) (lenOf own_pd2 rfl) rfl (by show 2 * 0 + _ ≤ _; exact Nat.le_of_eq rfl) (hb hby at_173) (fun _ _ => ⟨rfl, e54, (by decide : 3 + 0 ≤ _), (by decide : 12 + 0 ≤ _)⟩)
  dsimp only [Pt.U, Pt.locs, Pt.cells, Pt.slots] at X55 l55 y55 z55 st55 hQ55
  rw [l55, (show k55 = 3 from y55), (show n55 = 12 from z55)] at X55
  obtain ⟨h55, e55⟩ : ∃ z, T55.heap = z := ⟨_, rfl⟩
  rw [e55] at hQ55
  obtain ⟨hq55, N55q, K55, A55_⟩ := hQ55
  rw [hq55] at st55
  have N55 := Fr.app N54 N55q
  rw [own_sw_map (own_sw (fun i => i) 3 j3) 2 j2] at A55_
  have A43__x55 := A43__x54.keep K55 (ninS ne49_b39 nin0)
  have B39_x55 := B39_x54.keep K55
  have B44_x55 := B44_x54.keep K55
  have Sz_x55 := Sz_x54.keep K55 (ninS ne49_b44 nin0)
  have B49_x55 := B49_x54.keep K55
  have Z55 : n0 ≤ h55.size := Nat.le_trans Z54 K55.1
  have Y55 : h0.size ≤ h55.size := Nat.le_trans Y54 K55.1
  refine own_fwd st55 ?_
  show own_R p.tables e below P (T55.setTop (mkF m 176 #[.val (.int p0), .val (.int p1), .val (.int p2), .val (.int p3), .val (.int p4), .val (.int p5), .val (.int bb), .val (.ref b39), .val (.ref b44), .val (.ref b49), .val (.int pp), .unset, .unset] []))
  refine own_fwd (fun tt kt => XS.aload X55.here hx rfl (hb hby at_176) rfl rfl kt) ?_
  show own_R p.tables e below P (T55.setTop (mkF m 178 #[.val (.int p0), .val (.int p1), .val (.int p2), .val (.int p3), .val (.int p4), .val (.int p5), .val (.int bb), .val (.ref b39), .val (.ref b44), .val (.ref b49), .val (.int pp), .unset, .unset] [(.ref b49)]))
  refine own_fwd (fun tt kt => XS.iconst X55.here hx rfl (hb hby at_178) kt) ?_
  show own_R p.tables e below P (T55.setTop (mkF m 179 #[.val (.int p0), .val (.int p1), .val (.int p2), .val (.int p3), .val (.int p4), .val (.int p5), .val (.int bb), .val (.ref b39), .val (.ref b44), .val (.ref b49), .val (.int pp), .unset, .unset] [(.int (1 : Int32)), (.ref b49)]))
  refine own_fwd (fun tt kt => XS.iload X55.here hx rfl (hb hby at_179) rfl kt) ?_
  show own_R p.tables e below P (T55.setTop (mkF m 181 #[.val (.int p0), .val (.int p1), .val (.int p2), .val (.int p3), .val (.int p4), .val (.int p5), .val (.int bb), .val (.ref b39), .val (.ref b44), .val (.ref b49), .val (.int pp), .unset, .unset] [(.int pp), (.int (1 : Int32)), (.ref b49)]))
  refine own_fwd (fun tt kt => XS.bipush X55.here hx rfl (hb hby at_181) kt) ?_
  show own_R p.tables e below P (T55.setTop (mkF m 183 #[.val (.int p0), .val (.int p1), .val (.int p2), .val (.int p3), .val (.int p4), .val (.int p5), .val (.int bb), .val (.ref b39), .val (.ref b44), .val (.ref b49), .val (.int pp), .unset, .unset] [(.int (12 : Int32)), (.int pp), (.int (1 : Int32)), (.ref b49)]))
  refine own_fwd (fun tt kt => XS.idiv X55.here hx rfl (hb hby at_183) rfl (by decide) kt) ?_
  show own_R p.tables e below P (T55.setTop (mkF m 184 #[.val (.int p0), .val (.int p1), .val (.int p2), .val (.int p3), .val (.int p4), .val (.int p5), .val (.int bb), .val (.ref b39), .val (.ref b44), .val (.ref b49), .val (.int pp), .unset, .unset] [(.int (pp / (12 : Int32))), (.int (1 : Int32)), (.ref b49)]))
  refine own_fwd (fun tt kt => XS.iconst X55.here hx rfl (hb hby at_184) kt) ?_
  show own_R p.tables e below P (T55.setTop (mkF m 185 #[.val (.int p0), .val (.int p1), .val (.int p2), .val (.int p3), .val (.int p4), .val (.int p5), .val (.int bb), .val (.ref b39), .val (.ref b44), .val (.ref b49), .val (.int pp), .unset, .unset] [(.int (2 : Int32)), (.int (pp / (12 : Int32))), (.int (1 : Int32)), (.ref b49)]))
  refine own_fwd (fun tt kt => iremM X55 hx rfl (hb hby at_185) rfl (by decide) kt) ?_
  show own_R p.tables e below P (T55.setTop (mkF m 186 #[.val (.int p0), .val (.int p1), .val (.int p2), .val (.int p3), .val (.int p4), .val (.int p5), .val (.int bb), .val (.ref b39), .val (.ref b44), .val (.ref b49), .val (.int pp), .unset, .unset] [(.int ((pp / (12 : Int32)) % (2 : Int32))), (.int (1 : Int32)), (.ref b49)]))
  obtain ⟨_, _, ⟨T56, L56, k56, n56⟩, -, X56, ⟨Lc56, hQ56, l56, y56, z56⟩, st56⟩ := Jvm.LawKit.callS X55 hx (y := (⟨"com/example/rankbucket/rankbucket/BucketingRanksPinLaw", "swap", "([III)V"⟩ : MethodName)) hown (mvT hZ (hw _ (List.mem_of_getElem? (i := 7) rfl))) (mvT hZ (hw _ (List.mem_of_getElem? (i := 8) rfl))) (mvT hZ (hw _ (List.mem_of_getElem? (i := 4) rfl))) (mvT hZ (hw _ (List.mem_of_getElem? (i := 9) rfl))) (by decide) (backOf (W := 0) (own_rm2 l Z a0 hw [] b49 (1 : Int32) ((pp / (12 : Int32)) % (2 : Int32)) (fun i => ((own_sw (own_sw (fun i => i) 3 j3) 2 j2) i).toInt32) 1 j1 h55 n0 Z55 A55_ ge_b49 rfl e1 (by decide) (by omega)) hZ (hw _ (List.mem_of_getElem? (i := 9) rfl)) (hw _ (List.mem_of_getElem? (i := 4) rfl)) (by decide) (by decide)) (g := (mkF m 186 #[.val (.int p0), .val (.int p1), .val (.int p2), .val (.int p3), .val (.int p4), .val (.int p5), .val (.int bb), .val (.ref b39), .val (.ref b44), .val (.ref b49), .val (.int pp), .unset, .unset] [(.int ((pp / (12 : Int32)) % (2 : Int32))), (.int (1 : Int32)), (.ref b49)])) rfl (by rw [hml]; rfl) (argsL := [(.ref b49), (.int (1 : Int32)), (.int ((pp / (12 : Int32)) % (2 : Int32)))]) (rest := []) (lenOf own_pd2 rfl) rfl (by show 2 * 0 + _ ≤ _; exact Nat.le_of_eq rfl) (hb hby at_186) (fun _ _ => ⟨rfl, e55, (by decide : 3 + 0 ≤ _), (by decide : 12 + 0 ≤ _)⟩)
  dsimp only [Pt.U, Pt.locs, Pt.cells, Pt.slots] at X56 l56 y56 z56 st56 hQ56
  rw [l56, (show k56 = 3 from y56), (show n56 = 12 from z56)] at X56
  obtain ⟨h56, e56⟩ : ∃ z, T56.heap = z := ⟨_, rfl⟩
  rw [e56] at hQ56
  obtain ⟨hq56, N56q, K56, A56_⟩ := hQ56
  rw [hq56] at st56
  have N56 := Fr.app N55 N56q
  rw [own_sw_map (own_sw (own_sw (fun i => i) 3 j3) 2 j2) 1 j1] at A56_
  have A43__x56 := A43__x55.keep K56 (ninS ne49_b39 nin0)
  have B39_x56 := B39_x55.keep K56
  have B44_x56 := B44_x55.keep K56
  have Sz_x56 := Sz_x55.keep K56 (ninS ne49_b44 nin0)
  have B49_x56 := B49_x55.keep K56
  have Z56 : n0 ≤ h56.size := Nat.le_trans Z55 K56.1
  have Y56 : h0.size ≤ h56.size := Nat.le_trans Y55 K56.1
  refine own_fwd st56 ?_
  show own_R p.tables e below P (T56.setTop (mkF m 189 #[.val (.int p0), .val (.int p1), .val (.int p2), .val (.int p3), .val (.int p4), .val (.int p5), .val (.int bb), .val (.ref b39), .val (.ref b44), .val (.ref b49), .val (.int pp), .unset, .unset] []))
  have HP := own_perm c3 c2 c1
  obtain ⟨sg, hsg⟩ : ∃ f, (own_sw (own_sw (own_sw (fun i => i) 3 j3) 2 j2) 1 j1) = f := ⟨_, rfl⟩
  rw [hsg] at HP A56_
  have bsg : ∀ i, i < 4 → sg i < 4 := fun i hi => by
    obtain ⟨-, ⟨q0, q1, q2, q3⟩, -⟩ := HP
    rcases (by omega : i = 0 ∨ i = 1 ∨ i = 2 ∨ i = 3) with rfl | rfl | rfl | rfl <;> assumption
  have hom : ∀ i, i < 4 → ((sg i).toInt32).toInt = (sg i : Int) := fun i hi => len_toInt (by have := bsg i hi; omega)
  refine own_fwd (fun tt kt => XS.iconst X56.here hx rfl (hb hby at_189) kt) ?_
  show own_R p.tables e below P (T56.setTop (mkF m 190 #[.val (.int p0), .val (.int p1), .val (.int p2), .val (.int p3), .val (.int p4), .val (.int p5), .val (.int bb), .val (.ref b39), .val (.ref b44), .val (.ref b49), .val (.int pp), .unset, .unset] [(.int (4 : Int32))]))
  obtain ⟨T57, h57, b57, g57, X57, e57, E57, A57, B57, st57⟩ := own_newA (n := 4) X56 hx hZ (hw _ (List.mem_of_getElem? (i := 1) rfl)) e56 (z := (4 : Int32)) (by decide) (cap := 4) (by decide) (g := (mkF m 190 #[.val (.int p0), .val (.int p1), .val (.int p2), .val (.int p3), .val (.int p4), .val (.int p5), .val (.int bb), .val (.ref b39), .val (.ref b44), .val (.ref b49), .val (.int pp), .unset, .unset] [(.int (4 : Int32))])) rfl (hb hby at_190) rfl (by decide) (by decide) (by decide) (ad := "[I") (by decide)
  have ne57_b39 : b39 ≠ b57 := Nat.ne_of_lt (by rw [g57]; exact A43__x56.lt)
  have ne57_b44 : b44 ≠ b57 := Nat.ne_of_lt (by rw [g57]; exact B44_x56.lt)
  have ne57_b49 : b49 ≠ b57 := Nat.ne_of_lt (by rw [g57]; exact B49_x56.lt)
  have ge_b57 : n0 ≤ b57 := by rw [g57]; exact Z56
  have sz_b57 : h0.size ≤ b57 := by rw [g57]; exact Y56
  have A43__x57 := A43__x56.ext E57
  have B39_x57 := B39_x56.ext E57
  have B44_x57 := B44_x56.ext E57
  have Sz_x57 := Sz_x56.ext E57
  have B49_x57 := B49_x56.ext E57
  have A56__x57 := A56_.ext E57
  have A57_ : own_AI Z h57 b57 .int 4 (fun _ => (0 : Int32)) := A57
  have Z57 : n0 ≤ h57.size := Nat.le_trans Z56 E57.1
  have Y57 : h0.size ≤ h57.size := Nat.le_trans Y56 E57.1
  refine own_fwd st57 ?_
  show own_R p.tables e below P (T57.setTop (mkF m 192 #[.val (.int p0), .val (.int p1), .val (.int p2), .val (.int p3), .val (.int p4), .val (.int p5), .val (.int bb), .val (.ref b39), .val (.ref b44), .val (.ref b49), .val (.int pp), .unset, .unset] [(.ref b57)]))
  refine own_fwd (fun tt kt => XS.astore X57.here hx rfl (hb hby at_192) rfl rfl (l' := #[.val (.int p0), .val (.int p1), .val (.int p2), .val (.int p3), .val (.int p4), .val (.int p5), .val (.int bb), .val (.ref b39), .val (.ref b44), .val (.ref b49), .val (.int pp), .val (.ref b57), .unset]) rfl kt) ?_
  show own_R p.tables e below P (T57.setTop (mkF m 194 #[.val (.int p0), .val (.int p1), .val (.int p2), .val (.int p3), .val (.int p4), .val (.int p5), .val (.int bb), .val (.ref b39), .val (.ref b44), .val (.ref b49), .val (.int pp), .val (.ref b57), .unset] []))
  refine own_fwd (fun tt kt => XS.aload X57.here hx rfl (hb hby at_194) rfl rfl kt) ?_
  show own_R p.tables e below P (T57.setTop (mkF m 196 #[.val (.int p0), .val (.int p1), .val (.int p2), .val (.int p3), .val (.int p4), .val (.int p5), .val (.int bb), .val (.ref b39), .val (.ref b44), .val (.ref b49), .val (.int pp), .val (.ref b57), .unset] [(.ref b57)]))
  refine own_fwd (fun tt kt => XS.aload X57.here hx rfl (hb hby at_196) rfl rfl kt) ?_
  show own_R p.tables e below P (T57.setTop (mkF m 198 #[.val (.int p0), .val (.int p1), .val (.int p2), .val (.int p3), .val (.int p4), .val (.int p5), .val (.int bb), .val (.ref b39), .val (.ref b44), .val (.ref b49), .val (.int pp), .val (.ref b57), .unset] [(.ref b49), (.ref b57)]))
  refine own_fwd (fun tt kt => XS.iconst X57.here hx rfl (hb hby at_198) kt) ?_
  show own_R p.tables e below P (T57.setTop (mkF m 199 #[.val (.int p0), .val (.int p1), .val (.int p2), .val (.int p3), .val (.int p4), .val (.int p5), .val (.int bb), .val (.ref b39), .val (.ref b44), .val (.ref b49), .val (.int pp), .val (.ref b57), .unset] [(.int (0 : Int32)), (.ref b49), (.ref b57)]))
  refine own_fwd (own_ldI X57 hx hZ e57 A56__x57 (j := (0 : Int32)) 0 (by decide) (by decide) (g := (mkF m 199 #[.val (.int p0), .val (.int p1), .val (.int p2), .val (.int p3), .val (.int p4), .val (.int p5), .val (.int bb), .val (.ref b39), .val (.ref b44), .val (.ref b49), .val (.int pp), .val (.ref b57), .unset] [(.int (0 : Int32)), (.ref b49), (.ref b57)])) rfl rfl (hb hby at_199)) ?_
  show own_R p.tables e below P (T57.setTop (mkF m 200 #[.val (.int p0), .val (.int p1), .val (.int p2), .val (.int p3), .val (.int p4), .val (.int p5), .val (.int bb), .val (.ref b39), .val (.ref b44), .val (.ref b49), .val (.int pp), .val (.ref b57), .unset] [(.int ((fun i => (sg i).toInt32) 0)), (.ref b57)]))
  refine own_fwd (fun tt kt => XS.iconst X57.here hx rfl (hb hby at_200) kt) ?_
  show own_R p.tables e below P (T57.setTop (mkF m 201 #[.val (.int p0), .val (.int p1), .val (.int p2), .val (.int p3), .val (.int p4), .val (.int p5), .val (.int bb), .val (.ref b39), .val (.ref b44), .val (.ref b49), .val (.int pp), .val (.ref b57), .unset] [(.int (0 : Int32)), (.int ((fun i => (sg i).toInt32) 0)), (.ref b57)]))
  obtain ⟨T58, h58, X58, e58, W58, A58_, st58⟩ := own_stI X57 hx hZ e57 A57_ (j := ((fun i => (sg i).toInt32) 0)) (sg 0) (hom 0 (by decide)) (bsg 0 (by decide)) (g := (mkF m 201 #[.val (.int p0), .val (.int p1), .val (.int p2), .val (.int p3), .val (.int p4), .val (.int p5), .val (.int bb), .val (.ref b39), .val (.ref b44), .val (.ref b49), .val (.int pp), .val (.ref b57), .unset] [(.int (0 : Int32)), (.int ((fun i => (sg i).toInt32) 0)), (.ref b57)])) rfl rfl (hb hby at_201)
  have A43__x58 := A43__x57.other W58 ne57_b39
  have B39_x58 := B39_x57.wr W58
  have B44_x58 := B44_x57.wr W58
  have Sz_x58 := Sz_x57.other W58 ne57_b44
  have B49_x58 := B49_x57.wr W58
  have A56__x58 := A56__x57.other W58 ne57_b49
  have B57_x58 := B57.wr W58
  have N58 := Fr.snoc X58 N56 ge_b57
  have Z58 : n0 ≤ h58.size := by rw [W58.size]; exact Z57
  have Y58 : h0.size ≤ h58.size := by rw [W58.size]; exact Y57
  refine own_fwd st58 ?_
  show own_R p.tables e below P (T58.setTop (mkF m 202 #[.val (.int p0), .val (.int p1), .val (.int p2), .val (.int p3), .val (.int p4), .val (.int p5), .val (.int bb), .val (.ref b39), .val (.ref b44), .val (.ref b49), .val (.int pp), .val (.ref b57), .unset] []))
  refine own_fwd (fun tt kt => XS.aload X58.here hx rfl (hb hby at_202) rfl rfl kt) ?_
  show own_R p.tables e below P (T58.setTop (mkF m 204 #[.val (.int p0), .val (.int p1), .val (.int p2), .val (.int p3), .val (.int p4), .val (.int p5), .val (.int bb), .val (.ref b39), .val (.ref b44), .val (.ref b49), .val (.int pp), .val (.ref b57), .unset] [(.ref b57)]))
  refine own_fwd (fun tt kt => XS.aload X58.here hx rfl (hb hby at_204) rfl rfl kt) ?_
  show own_R p.tables e below P (T58.setTop (mkF m 206 #[.val (.int p0), .val (.int p1), .val (.int p2), .val (.int p3), .val (.int p4), .val (.int p5), .val (.int bb), .val (.ref b39), .val (.ref b44), .val (.ref b49), .val (.int pp), .val (.ref b57), .unset] [(.ref b49), (.ref b57)]))
  refine own_fwd (fun tt kt => XS.iconst X58.here hx rfl (hb hby at_206) kt) ?_
  show own_R p.tables e below P (T58.setTop (mkF m 207 #[.val (.int p0), .val (.int p1), .val (.int p2), .val (.int p3), .val (.int p4), .val (.int p5), .val (.int bb), .val (.ref b39), .val (.ref b44), .val (.ref b49), .val (.int pp), .val (.ref b57), .unset] [(.int (1 : Int32)), (.ref b49), (.ref b57)]))
  refine own_fwd (own_ldI X58 hx hZ e58 A56__x58 (j := (1 : Int32)) 1 (by decide) (by decide) (g := (mkF m 207 #[.val (.int p0), .val (.int p1), .val (.int p2), .val (.int p3), .val (.int p4), .val (.int p5), .val (.int bb), .val (.ref b39), .val (.ref b44), .val (.ref b49), .val (.int pp), .val (.ref b57), .unset] [(.int (1 : Int32)), (.ref b49), (.ref b57)])) rfl rfl (hb hby at_207)) ?_
  show own_R p.tables e below P (T58.setTop (mkF m 208 #[.val (.int p0), .val (.int p1), .val (.int p2), .val (.int p3), .val (.int p4), .val (.int p5), .val (.int bb), .val (.ref b39), .val (.ref b44), .val (.ref b49), .val (.int pp), .val (.ref b57), .unset] [(.int ((fun i => (sg i).toInt32) 1)), (.ref b57)]))
  refine own_fwd (fun tt kt => XS.iconst X58.here hx rfl (hb hby at_208) kt) ?_
  show own_R p.tables e below P (T58.setTop (mkF m 209 #[.val (.int p0), .val (.int p1), .val (.int p2), .val (.int p3), .val (.int p4), .val (.int p5), .val (.int bb), .val (.ref b39), .val (.ref b44), .val (.ref b49), .val (.int pp), .val (.ref b57), .unset] [(.int (1 : Int32)), (.int ((fun i => (sg i).toInt32) 1)), (.ref b57)]))
  obtain ⟨T59, h59, X59, e59, W59, A59_, st59⟩ := own_stI X58 hx hZ e58 A58_ (j := ((fun i => (sg i).toInt32) 1)) (sg 1) (hom 1 (by decide)) (bsg 1 (by decide)) (g := (mkF m 209 #[.val (.int p0), .val (.int p1), .val (.int p2), .val (.int p3), .val (.int p4), .val (.int p5), .val (.int bb), .val (.ref b39), .val (.ref b44), .val (.ref b49), .val (.int pp), .val (.ref b57), .unset] [(.int (1 : Int32)), (.int ((fun i => (sg i).toInt32) 1)), (.ref b57)])) rfl rfl (hb hby at_209)
  have A43__x59 := A43__x58.other W59 ne57_b39
  have B39_x59 := B39_x58.wr W59
  have B44_x59 := B44_x58.wr W59
  have Sz_x59 := Sz_x58.other W59 ne57_b44
  have B49_x59 := B49_x58.wr W59
  have A56__x59 := A56__x58.other W59 ne57_b49
  have B57_x59 := B57_x58.wr W59
  have N59 := Fr.snoc X59 N58 ge_b57
  have Z59 : n0 ≤ h59.size := by rw [W59.size]; exact Z58
  have Y59 : h0.size ≤ h59.size := by rw [W59.size]; exact Y58
  refine own_fwd st59 ?_
  show own_R p.tables e below P (T59.setTop (mkF m 210 #[.val (.int p0), .val (.int p1), .val (.int p2), .val (.int p3), .val (.int p4), .val (.int p5), .val (.int bb), .val (.ref b39), .val (.ref b44), .val (.ref b49), .val (.int pp), .val (.ref b57), .unset] []))
  refine own_fwd (fun tt kt => XS.aload X59.here hx rfl (hb hby at_210) rfl rfl kt) ?_
  show own_R p.tables e below P (T59.setTop (mkF m 212 #[.val (.int p0), .val (.int p1), .val (.int p2), .val (.int p3), .val (.int p4), .val (.int p5), .val (.int bb), .val (.ref b39), .val (.ref b44), .val (.ref b49), .val (.int pp), .val (.ref b57), .unset] [(.ref b57)]))
  refine own_fwd (fun tt kt => XS.aload X59.here hx rfl (hb hby at_212) rfl rfl kt) ?_
  show own_R p.tables e below P (T59.setTop (mkF m 214 #[.val (.int p0), .val (.int p1), .val (.int p2), .val (.int p3), .val (.int p4), .val (.int p5), .val (.int bb), .val (.ref b39), .val (.ref b44), .val (.ref b49), .val (.int pp), .val (.ref b57), .unset] [(.ref b49), (.ref b57)]))
  refine own_fwd (fun tt kt => XS.iconst X59.here hx rfl (hb hby at_214) kt) ?_
  show own_R p.tables e below P (T59.setTop (mkF m 215 #[.val (.int p0), .val (.int p1), .val (.int p2), .val (.int p3), .val (.int p4), .val (.int p5), .val (.int bb), .val (.ref b39), .val (.ref b44), .val (.ref b49), .val (.int pp), .val (.ref b57), .unset] [(.int (2 : Int32)), (.ref b49), (.ref b57)]))
  refine own_fwd (own_ldI X59 hx hZ e59 A56__x59 (j := (2 : Int32)) 2 (by decide) (by decide) (g := (mkF m 215 #[.val (.int p0), .val (.int p1), .val (.int p2), .val (.int p3), .val (.int p4), .val (.int p5), .val (.int bb), .val (.ref b39), .val (.ref b44), .val (.ref b49), .val (.int pp), .val (.ref b57), .unset] [(.int (2 : Int32)), (.ref b49), (.ref b57)])) rfl rfl (hb hby at_215)) ?_
  show own_R p.tables e below P (T59.setTop (mkF m 216 #[.val (.int p0), .val (.int p1), .val (.int p2), .val (.int p3), .val (.int p4), .val (.int p5), .val (.int bb), .val (.ref b39), .val (.ref b44), .val (.ref b49), .val (.int pp), .val (.ref b57), .unset] [(.int ((fun i => (sg i).toInt32) 2)), (.ref b57)]))
  refine own_fwd (fun tt kt => XS.iconst X59.here hx rfl (hb hby at_216) kt) ?_
  show own_R p.tables e below P (T59.setTop (mkF m 217 #[.val (.int p0), .val (.int p1), .val (.int p2), .val (.int p3), .val (.int p4), .val (.int p5), .val (.int bb), .val (.ref b39), .val (.ref b44), .val (.ref b49), .val (.int pp), .val (.ref b57), .unset] [(.int (2 : Int32)), (.int ((fun i => (sg i).toInt32) 2)), (.ref b57)]))
  obtain ⟨T60, h60, X60, e60, W60, A60_, st60⟩ := own_stI X59 hx hZ e59 A59_ (j := ((fun i => (sg i).toInt32) 2)) (sg 2) (hom 2 (by decide)) (bsg 2 (by decide)) (g := (mkF m 217 #[.val (.int p0), .val (.int p1), .val (.int p2), .val (.int p3), .val (.int p4), .val (.int p5), .val (.int bb), .val (.ref b39), .val (.ref b44), .val (.ref b49), .val (.int pp), .val (.ref b57), .unset] [(.int (2 : Int32)), (.int ((fun i => (sg i).toInt32) 2)), (.ref b57)])) rfl rfl (hb hby at_217)
  have A43__x60 := A43__x59.other W60 ne57_b39
  have B39_x60 := B39_x59.wr W60
  have B44_x60 := B44_x59.wr W60
  have Sz_x60 := Sz_x59.other W60 ne57_b44
  have B49_x60 := B49_x59.wr W60
  have A56__x60 := A56__x59.other W60 ne57_b49
  have B57_x60 := B57_x59.wr W60
  have N60 := Fr.snoc X60 N59 ge_b57
  have Z60 : n0 ≤ h60.size := by rw [W60.size]; exact Z59
  have Y60 : h0.size ≤ h60.size := by rw [W60.size]; exact Y59
  refine own_fwd st60 ?_
  show own_R p.tables e below P (T60.setTop (mkF m 218 #[.val (.int p0), .val (.int p1), .val (.int p2), .val (.int p3), .val (.int p4), .val (.int p5), .val (.int bb), .val (.ref b39), .val (.ref b44), .val (.ref b49), .val (.int pp), .val (.ref b57), .unset] []))
  refine own_fwd (fun tt kt => XS.aload X60.here hx rfl (hb hby at_218) rfl rfl kt) ?_
  show own_R p.tables e below P (T60.setTop (mkF m 220 #[.val (.int p0), .val (.int p1), .val (.int p2), .val (.int p3), .val (.int p4), .val (.int p5), .val (.int bb), .val (.ref b39), .val (.ref b44), .val (.ref b49), .val (.int pp), .val (.ref b57), .unset] [(.ref b57)]))
  refine own_fwd (fun tt kt => XS.aload X60.here hx rfl (hb hby at_220) rfl rfl kt) ?_
  show own_R p.tables e below P (T60.setTop (mkF m 222 #[.val (.int p0), .val (.int p1), .val (.int p2), .val (.int p3), .val (.int p4), .val (.int p5), .val (.int bb), .val (.ref b39), .val (.ref b44), .val (.ref b49), .val (.int pp), .val (.ref b57), .unset] [(.ref b49), (.ref b57)]))
  refine own_fwd (fun tt kt => XS.iconst X60.here hx rfl (hb hby at_222) kt) ?_
  show own_R p.tables e below P (T60.setTop (mkF m 223 #[.val (.int p0), .val (.int p1), .val (.int p2), .val (.int p3), .val (.int p4), .val (.int p5), .val (.int bb), .val (.ref b39), .val (.ref b44), .val (.ref b49), .val (.int pp), .val (.ref b57), .unset] [(.int (3 : Int32)), (.ref b49), (.ref b57)]))
  refine own_fwd (own_ldI X60 hx hZ e60 A56__x60 (j := (3 : Int32)) 3 (by decide) (by decide) (g := (mkF m 223 #[.val (.int p0), .val (.int p1), .val (.int p2), .val (.int p3), .val (.int p4), .val (.int p5), .val (.int bb), .val (.ref b39), .val (.ref b44), .val (.ref b49), .val (.int pp), .val (.ref b57), .unset] [(.int (3 : Int32)), (.ref b49), (.ref b57)])) rfl rfl (hb hby at_223)) ?_
  show own_R p.tables e below P (T60.setTop (mkF m 224 #[.val (.int p0), .val (.int p1), .val (.int p2), .val (.int p3), .val (.int p4), .val (.int p5), .val (.int bb), .val (.ref b39), .val (.ref b44), .val (.ref b49), .val (.int pp), .val (.ref b57), .unset] [(.int ((fun i => (sg i).toInt32) 3)), (.ref b57)]))
  refine own_fwd (fun tt kt => XS.iconst X60.here hx rfl (hb hby at_224) kt) ?_
  show own_R p.tables e below P (T60.setTop (mkF m 225 #[.val (.int p0), .val (.int p1), .val (.int p2), .val (.int p3), .val (.int p4), .val (.int p5), .val (.int bb), .val (.ref b39), .val (.ref b44), .val (.ref b49), .val (.int pp), .val (.ref b57), .unset] [(.int (3 : Int32)), (.int ((fun i => (sg i).toInt32) 3)), (.ref b57)]))
  obtain ⟨T61, h61, X61, e61, W61, A61_, st61⟩ := own_stI X60 hx hZ e60 A60_ (j := ((fun i => (sg i).toInt32) 3)) (sg 3) (hom 3 (by decide)) (bsg 3 (by decide)) (g := (mkF m 225 #[.val (.int p0), .val (.int p1), .val (.int p2), .val (.int p3), .val (.int p4), .val (.int p5), .val (.int bb), .val (.ref b39), .val (.ref b44), .val (.ref b49), .val (.int pp), .val (.ref b57), .unset] [(.int (3 : Int32)), (.int ((fun i => (sg i).toInt32) 3)), (.ref b57)])) rfl rfl (hb hby at_225)
  have A43__x61 := A43__x60.other W61 ne57_b39
  have B39_x61 := B39_x60.wr W61
  have B44_x61 := B44_x60.wr W61
  have Sz_x61 := Sz_x60.other W61 ne57_b44
  have B49_x61 := B49_x60.wr W61
  have A56__x61 := A56__x60.other W61 ne57_b49
  have B57_x61 := B57_x60.wr W61
  have N61 := Fr.snoc X61 N60 ge_b57
  have Z61 : n0 ≤ h61.size := by rw [W61.size]; exact Z60
  have Y61 : h0.size ≤ h61.size := by rw [W61.size]; exact Y60
  refine own_fwd st61 ?_
  show own_R p.tables e below P (T61.setTop (mkF m 226 #[.val (.int p0), .val (.int p1), .val (.int p2), .val (.int p3), .val (.int p4), .val (.int p5), .val (.int bb), .val (.ref b39), .val (.ref b44), .val (.ref b49), .val (.int pp), .val (.ref b57), .unset] []))
  have Po : own_AI Z h61 b57 .int 4 (own_pos sg) := A61_
  have EV := EV0 sg HP
  obtain ⟨pif, hpif⟩ : ∃ f, own_pos sg = f := ⟨_, rfl⟩
  rw [hpif] at Po EV
  obtain ⟨omf, homf⟩ : ∃ f : Nat → Int32, (fun i => (sg i).toInt32) = f := ⟨_, rfl⟩
  have hom' : ∀ i, i < 4 → (omf i).toInt = (sg i : Int) := fun i hi => by rw [← homf]; exact hom i hi
  have Od_ : own_AI Z h61 b49 .int 4 omf := by rw [← homf]; exact A56__x61
  refine own_fwd (fun tt kt => XS.aload X61.here hx rfl (hb hby at_226) rfl rfl kt) ?_
  show own_R p.tables e below P (T61.setTop (mkF m 228 #[.val (.int p0), .val (.int p1), .val (.int p2), .val (.int p3), .val (.int p4), .val (.int p5), .val (.int bb), .val (.ref b39), .val (.ref b44), .val (.ref b49), .val (.int pp), .val (.ref b57), .unset] [(.ref b39)]))
  refine own_fwd (fun tt kt => XS.aload X61.here hx rfl (hb hby at_228) rfl rfl kt) ?_
  show own_R p.tables e below P (T61.setTop (mkF m 230 #[.val (.int p0), .val (.int p1), .val (.int p2), .val (.int p3), .val (.int p4), .val (.int p5), .val (.int bb), .val (.ref b39), .val (.ref b44), .val (.ref b49), .val (.int pp), .val (.ref b57), .unset] [(.ref b44), (.ref b39)]))
  refine own_fwd (fun tt kt => XS.aload X61.here hx rfl (hb hby at_230) rfl rfl kt) ?_
  show own_R p.tables e below P (T61.setTop (mkF m 232 #[.val (.int p0), .val (.int p1), .val (.int p2), .val (.int p3), .val (.int p4), .val (.int p5), .val (.int bb), .val (.ref b39), .val (.ref b44), .val (.ref b49), .val (.int pp), .val (.ref b57), .unset] [(.ref b49), (.ref b44), (.ref b39)]))
  obtain ⟨_, _, ⟨T62, L62, k62, n62⟩, -, X62, ⟨Lc62, hQ62, l62, y62, z62⟩, st62⟩ := Jvm.LawKit.callS X61 hx (y := (⟨"com/example/rankbucket/rankbucket/Bucketing", "ranks", "([S[I[I)[I"⟩ : MethodName)) hown (mvT hZ (hw _ (List.mem_of_getElem? (i := 10) rfl))) (mvT hZ (hw _ (List.mem_of_getElem? (i := 11) rfl))) (mvT hZ (hw _ (List.mem_of_getElem? (i := 12) rfl))) (mvT hZ (hw _ (List.mem_of_getElem? (i := 13) rfl))) (by decide) (backOf (W := 0) (own_rm3 l Z a0 hw [] b39 b44 b49 be szf omf sg nb h61 n0 Z61 A43__x61 Sz_x61 Od_ hom' bsg nb1 nb4 hbe) hZ (hw _ (List.mem_of_getElem? (i := 13) rfl)) (hw _ (List.mem_of_getElem? (i := 12) rfl)) (by decide) (by decide)) (g := (mkF m 232 #[.val (.int p0), .val (.int p1), .val (.int p2), .val (.int p3), .val (.int p4), .val (.int p5), .val (.int bb), .val (.ref b39), .val (.ref b44), .val (.ref b49), .val (.int pp), .val (.ref b57), .unset] [(.ref b49), (.ref b44), (.ref b39)])) rfl (by rw [hml]; rfl) (argsL := [(.ref b39), (.ref b44), (.ref b49)]) (rest := []) (lenOf own_pd3 rfl) rfl (by show 2 * 0 + _ ≤ _; exact Nat.le_of_eq rfl) (hb hby at_232) (fun _ _ => ⟨rfl, e61, (by decide : 4 + 2 ≤ _), (by decide : 16 + 8 ≤ _)⟩)
  dsimp only [Pt.U, Pt.locs, Pt.cells, Pt.slots] at X62 l62 y62 z62 st62 hQ62
  rw [l62, (show k62 = 6 from y62), (show n62 = 24 from z62)] at X62
  obtain ⟨h62, e62⟩ : ∃ z, T62.heap = z := ⟨_, rfl⟩
  rw [e62] at hQ62
  obtain ⟨o62, hq62, N62q, ge_o62, sq62, K62, A62_⟩ := hQ62
  rw [hq62] at st62
  have N62 := Fr.app N61 N62q
  have A43__x62 := A43__x61.keep K62 nin0
  have B39_x62 := B39_x61.keep K62
  have B44_x62 := B44_x61.keep K62
  have Sz_x62 := Sz_x61.keep K62 nin0
  have B49_x62 := B49_x61.keep K62
  have Od__x62 := Od_.keep K62 nin0
  have Po_x62 := Po.keep K62 nin0
  have B57_x62 := B57_x61.keep K62
  have Z62 : n0 ≤ h62.size := Nat.le_trans Z61 K62.1
  have Y62 : h0.size ≤ h62.size := Nat.le_trans Y61 K62.1
  obtain ⟨rf, hrf⟩ : ∃ f, own_rk be szf sg 4 = f := ⟨_, rfl⟩
  rw [hrf] at A62_ EV
  refine own_fwd st62 ?_
  show own_R p.tables e below P (T62.setTop (mkF m 235 #[.val (.int p0), .val (.int p1), .val (.int p2), .val (.int p3), .val (.int p4), .val (.int p5), .val (.int bb), .val (.ref b39), .val (.ref b44), .val (.ref b49), .val (.int pp), .val (.ref b57), .unset] [(.ref o62)]))
  refine own_fwd (fun tt kt => XS.astore X62.here hx rfl (hb hby at_235) rfl rfl (l' := #[.val (.int p0), .val (.int p1), .val (.int p2), .val (.int p3), .val (.int p4), .val (.int p5), .val (.int bb), .val (.ref b39), .val (.ref b44), .val (.ref b49), .val (.int pp), .val (.ref b57), .val (.ref o62)]) rfl kt) ?_
  show own_R p.tables e below P (T62.setTop (mkF m 237 #[.val (.int p0), .val (.int p1), .val (.int p2), .val (.int p3), .val (.int p4), .val (.int p5), .val (.int bb), .val (.ref b39), .val (.ref b44), .val (.ref b49), .val (.int pp), .val (.ref b57), .val (.ref o62)] []))
  refine own_fwd (fun tt kt => XS.aload X62.here hx rfl (hb hby at_237) rfl rfl kt) ?_
  show own_R p.tables e below P (T62.setTop (mkF m 239 #[.val (.int p0), .val (.int p1), .val (.int p2), .val (.int p3), .val (.int p4), .val (.int p5), .val (.int bb), .val (.ref b39), .val (.ref b44), .val (.ref b49), .val (.int pp), .val (.ref b57), .val (.ref o62)] [(.ref o62)]))
  refine own_fwd (own_len X62 hx hZ e62 A62_ (4 : Int32) (by decide) (g := (mkF m 239 #[.val (.int p0), .val (.int p1), .val (.int p2), .val (.int p3), .val (.int p4), .val (.int p5), .val (.int bb), .val (.ref b39), .val (.ref b44), .val (.ref b49), .val (.int pp), .val (.ref b57), .val (.ref o62)] [(.ref o62)])) rfl rfl (hb hby at_239)) ?_
  show own_R p.tables e below P (T62.setTop (mkF m 240 #[.val (.int p0), .val (.int p1), .val (.int p2), .val (.int p3), .val (.int p4), .val (.int p5), .val (.int bb), .val (.ref b39), .val (.ref b44), .val (.ref b49), .val (.int pp), .val (.ref b57), .val (.ref o62)] [(.int (4 : Int32))]))
  refine own_fwd (fun tt kt => XS.iconst X62.here hx rfl (hb hby at_240) kt) ?_
  show own_R p.tables e below P (T62.setTop (mkF m 241 #[.val (.int p0), .val (.int p1), .val (.int p2), .val (.int p3), .val (.int p4), .val (.int p5), .val (.int bb), .val (.ref b39), .val (.ref b44), .val (.ref b49), .val (.int pp), .val (.ref b57), .val (.ref o62)] [(.int (4 : Int32)), (.int (4 : Int32))]))
  have hc63 : (4 : Int32) = (4 : Int32) := (by decide)
  refine own_fwd (fun tt kt => XS.icmpNo X62.here hx rfl (hb hby at_241) rfl (teq hc63).2 kt) ?_
  show own_R p.tables e below P (T62.setTop (mkF m 244 #[.val (.int p0), .val (.int p1), .val (.int p2), .val (.int p3), .val (.int p4), .val (.int p5), .val (.int bb), .val (.ref b39), .val (.ref b44), .val (.ref b49), .val (.int pp), .val (.ref b57), .val (.ref o62)] []))
  refine own_fwd (fun tt kt => XS.aload X62.here hx rfl (hb hby at_244) rfl rfl kt) ?_
  show own_R p.tables e below P (T62.setTop (mkF m 246 #[.val (.int p0), .val (.int p1), .val (.int p2), .val (.int p3), .val (.int p4), .val (.int p5), .val (.int bb), .val (.ref b39), .val (.ref b44), .val (.ref b49), .val (.int pp), .val (.ref b57), .val (.ref o62)] [(.ref o62)]))
  refine own_fwd (fun tt kt => XS.iconst X62.here hx rfl (hb hby at_246) kt) ?_
  show own_R p.tables e below P (T62.setTop (mkF m 247 #[.val (.int p0), .val (.int p1), .val (.int p2), .val (.int p3), .val (.int p4), .val (.int p5), .val (.int bb), .val (.ref b39), .val (.ref b44), .val (.ref b49), .val (.int pp), .val (.ref b57), .val (.ref o62)] [(.int (0 : Int32)), (.ref o62)]))
  refine own_fwd (own_ldI X62 hx hZ e62 A62_ (j := (0 : Int32)) 0 (by decide) (by decide) (g := (mkF m 247 #[.val (.int p0), .val (.int p1), .val (.int p2), .val (.int p3), .val (.int p4), .val (.int p5), .val (.int bb), .val (.ref b39), .val (.ref b44), .val (.ref b49), .val (.int pp), .val (.ref b57), .val (.ref o62)] [(.int (0 : Int32)), (.ref o62)])) rfl rfl (hb hby at_247)) ?_
  show own_R p.tables e below P (T62.setTop (mkF m 248 #[.val (.int p0), .val (.int p1), .val (.int p2), .val (.int p3), .val (.int p4), .val (.int p5), .val (.int bb), .val (.ref b39), .val (.ref b44), .val (.ref b49), .val (.int pp), .val (.ref b57), .val (.ref o62)] [(.int (rf 0))]))
  refine own_fwd (fun tt kt => XS.aload X62.here hx rfl (hb hby at_248) rfl rfl kt) ?_
  show own_R p.tables e below P (T62.setTop (mkF m 250 #[.val (.int p0), .val (.int p1), .val (.int p2), .val (.int p3), .val (.int p4), .val (.int p5), .val (.int bb), .val (.ref b39), .val (.ref b44), .val (.ref b49), .val (.int pp), .val (.ref b57), .val (.ref o62)] [(.ref b39), (.int (rf 0))]))
  refine own_fwd (fun tt kt => XS.aload X62.here hx rfl (hb hby at_250) rfl rfl kt) ?_
  show own_R p.tables e below P (T62.setTop (mkF m 252 #[.val (.int p0), .val (.int p1), .val (.int p2), .val (.int p3), .val (.int p4), .val (.int p5), .val (.int bb), .val (.ref b39), .val (.ref b44), .val (.ref b49), .val (.int pp), .val (.ref b57), .val (.ref o62)] [(.ref b57), (.ref b39), (.int (rf 0))]))
  refine own_fwd (fun tt kt => XS.iconst X62.here hx rfl (hb hby at_252) kt) ?_
  show own_R p.tables e below P (T62.setTop (mkF m 253 #[.val (.int p0), .val (.int p1), .val (.int p2), .val (.int p3), .val (.int p4), .val (.int p5), .val (.int bb), .val (.ref b39), .val (.ref b44), .val (.ref b49), .val (.int pp), .val (.ref b57), .val (.ref o62)] [(.int (0 : Int32)), (.ref b57), (.ref b39), (.int (rf 0))]))
  obtain ⟨_, _, ⟨T64, L64, k64, n64⟩, -, X64, ⟨Lc64, hQ64, l64, y64, z64⟩, st64⟩ := Jvm.LawKit.callS X62 hx (y := (⟨"com/example/rankbucket/rankbucket/BucketingRanksPinLaw", "expected", "([S[II)I"⟩ : MethodName)) hown (mvT hZ (hw _ (List.mem_of_getElem? (i := 14) rfl))) (mvT hZ (hw _ (List.mem_of_getElem? (i := 15) rfl))) (mvT hZ (hw _ (List.mem_of_getElem? (i := 4) rfl))) (mvT hZ (hw _ (List.mem_of_getElem? (i := 16) rfl))) (by decide) (backOf (W := 1) (own_rm4 l Z a0 hw [] b39 b57 0 be pif 0 h62 n0 Z62 A43__x62 Po_x62 rfl (by decide)) hZ (hw _ (List.mem_of_getElem? (i := 16) rfl)) (hw _ (List.mem_of_getElem? (i := 4) rfl)) (by decide) (by decide)) (g := (mkF m 253 #[.val (.int p0), .val (.int p1), .val (.int p2), .val (.int p3), .val (.int p4), .val (.int p5), .val (.int bb), .val (.ref b39), .val (.ref b44), .val (.ref b49), .val (.int pp), .val (.ref b57), .val (.ref o62)] [(.int (0 : Int32)), (.ref b57), (.ref b39), (.int (rf 0))])) rfl (by rw [hml]; rfl) (argsL := [(.ref b39), (.ref b57), (.int (0 : Int32))]) (rest := [(.int (rf 0))]) (lenOf own_pd4 rfl) rfl (by show 2 * 0 + _ ≤ _; exact Nat.le_of_eq rfl) (hb hby at_253) (fun _ _ => ⟨rfl, e62, (by decide : 6 + 0 ≤ _), (by decide : 24 + 0 ≤ _)⟩)
  dsimp only [Pt.U, Pt.locs, Pt.cells, Pt.slots] at X64 l64 y64 z64 st64 hQ64
  rw [l64, (show k64 = 6 from y64), (show n64 = 24 from z64)] at X64
  obtain ⟨h64, e64⟩ : ∃ z, T64.heap = z := ⟨_, rfl⟩
  rw [e64] at hQ64
  obtain ⟨x0_, hx0_⟩ : ∃ z, own_expd be pif 0 = z := ⟨_, rfl⟩
  unfold own_Q4 at hQ64
  rw [hx0_] at hQ64
  obtain ⟨hq64, N64q, q64⟩ := hQ64
  rw [q64] at e64
  rw [hq64] at st64
  have N64 := Fr.app N62 N64q
  refine own_fwd st64 ?_
  show own_R p.tables e below P (T64.setTop (mkF m 256 #[.val (.int p0), .val (.int p1), .val (.int p2), .val (.int p3), .val (.int p4), .val (.int p5), .val (.int bb), .val (.ref b39), .val (.ref b44), .val (.ref b49), .val (.int pp), .val (.ref b57), .val (.ref o62)] [(.int x0_), (.int (rf 0))]))
  have hc65 : (rf 0) = x0_ := EV.1.trans hx0_
  refine own_fwd (fun tt kt => XS.icmpNo X64.here hx rfl (hb hby at_256) rfl (teq hc65).2 kt) ?_
  show own_R p.tables e below P (T64.setTop (mkF m 259 #[.val (.int p0), .val (.int p1), .val (.int p2), .val (.int p3), .val (.int p4), .val (.int p5), .val (.int bb), .val (.ref b39), .val (.ref b44), .val (.ref b49), .val (.int pp), .val (.ref b57), .val (.ref o62)] []))
  refine own_fwd (fun tt kt => XS.aload X64.here hx rfl (hb hby at_259) rfl rfl kt) ?_
  show own_R p.tables e below P (T64.setTop (mkF m 261 #[.val (.int p0), .val (.int p1), .val (.int p2), .val (.int p3), .val (.int p4), .val (.int p5), .val (.int bb), .val (.ref b39), .val (.ref b44), .val (.ref b49), .val (.int pp), .val (.ref b57), .val (.ref o62)] [(.ref o62)]))
  refine own_fwd (fun tt kt => XS.iconst X64.here hx rfl (hb hby at_261) kt) ?_
  show own_R p.tables e below P (T64.setTop (mkF m 262 #[.val (.int p0), .val (.int p1), .val (.int p2), .val (.int p3), .val (.int p4), .val (.int p5), .val (.int bb), .val (.ref b39), .val (.ref b44), .val (.ref b49), .val (.int pp), .val (.ref b57), .val (.ref o62)] [(.int (1 : Int32)), (.ref o62)]))
  refine own_fwd (own_ldI X64 hx hZ e64 A62_ (j := (1 : Int32)) 1 (by decide) (by decide) (g := (mkF m 262 #[.val (.int p0), .val (.int p1), .val (.int p2), .val (.int p3), .val (.int p4), .val (.int p5), .val (.int bb), .val (.ref b39), .val (.ref b44), .val (.ref b49), .val (.int pp), .val (.ref b57), .val (.ref o62)] [(.int (1 : Int32)), (.ref o62)])) rfl rfl (hb hby at_262)) ?_
  show own_R p.tables e below P (T64.setTop (mkF m 263 #[.val (.int p0), .val (.int p1), .val (.int p2), .val (.int p3), .val (.int p4), .val (.int p5), .val (.int bb), .val (.ref b39), .val (.ref b44), .val (.ref b49), .val (.int pp), .val (.ref b57), .val (.ref o62)] [(.int (rf 1))]))
  refine own_fwd (fun tt kt => XS.aload X64.here hx rfl (hb hby at_263) rfl rfl kt) ?_
  show own_R p.tables e below P (T64.setTop (mkF m 265 #[.val (.int p0), .val (.int p1), .val (.int p2), .val (.int p3), .val (.int p4), .val (.int p5), .val (.int bb), .val (.ref b39), .val (.ref b44), .val (.ref b49), .val (.int pp), .val (.ref b57), .val (.ref o62)] [(.ref b39), (.int (rf 1))]))
  refine own_fwd (fun tt kt => XS.aload X64.here hx rfl (hb hby at_265) rfl rfl kt) ?_
  show own_R p.tables e below P (T64.setTop (mkF m 267 #[.val (.int p0), .val (.int p1), .val (.int p2), .val (.int p3), .val (.int p4), .val (.int p5), .val (.int bb), .val (.ref b39), .val (.ref b44), .val (.ref b49), .val (.int pp), .val (.ref b57), .val (.ref o62)] [(.ref b57), (.ref b39), (.int (rf 1))]))
  refine own_fwd (fun tt kt => XS.iconst X64.here hx rfl (hb hby at_267) kt) ?_
  show own_R p.tables e below P (T64.setTop (mkF m 268 #[.val (.int p0), .val (.int p1), .val (.int p2), .val (.int p3), .val (.int p4), .val (.int p5), .val (.int bb), .val (.ref b39), .val (.ref b44), .val (.ref b49), .val (.int pp), .val (.ref b57), .val (.ref o62)] [(.int (1 : Int32)), (.ref b57), (.ref b39), (.int (rf 1))]))
  obtain ⟨_, _, ⟨T66, L66, k66, n66⟩, -, X66, ⟨Lc66, hQ66, l66, y66, z66⟩, st66⟩ := Jvm.LawKit.callS X64 hx (y := (⟨"com/example/rankbucket/rankbucket/BucketingRanksPinLaw", "expected", "([S[II)I"⟩ : MethodName)) hown (mvT hZ (hw _ (List.mem_of_getElem? (i := 14) rfl))) (mvT hZ (hw _ (List.mem_of_getElem? (i := 15) rfl))) (mvT hZ (hw _ (List.mem_of_getElem? (i := 4) rfl))) (mvT hZ (hw _ (List.mem_of_getElem? (i := 16) rfl))) (by decide) (backOf (W := 1) (own_rm4 l Z a0 hw [] b39 b57 1 be pif 1 h62 n0 Z62 A43__x62 Po_x62 rfl (by decide)) hZ (hw _ (List.mem_of_getElem? (i := 16) rfl)) (hw _ (List.mem_of_getElem? (i := 4) rfl)) (by decide) (by decide)) (g := (mkF m 268 #[.val (.int p0), .val (.int p1), .val (.int p2), .val (.int p3), .val (.int p4), .val (.int p5), .val (.int bb), .val (.ref b39), .val (.ref b44), .val (.ref b49), .val (.int pp), .val (.ref b57), .val (.ref o62)] [(.int (1 : Int32)), (.ref b57), (.ref b39), (.int (rf 1))])) rfl (by rw [hml]; rfl) (argsL := [(.ref b39), (.ref b57), (.int (1 : Int32))]) (rest := [(.int (rf 1))]) (lenOf own_pd4 rfl) rfl (by show 2 * 0 + _ ≤ _; exact Nat.le_of_eq rfl) (hb hby at_268) (fun _ _ => ⟨rfl, e64, (by decide : 6 + 0 ≤ _), (by decide : 24 + 0 ≤ _)⟩)
  dsimp only [Pt.U, Pt.locs, Pt.cells, Pt.slots] at X66 l66 y66 z66 st66 hQ66
  rw [l66, (show k66 = 6 from y66), (show n66 = 24 from z66)] at X66
  obtain ⟨h66, e66⟩ : ∃ z, T66.heap = z := ⟨_, rfl⟩
  rw [e66] at hQ66
  obtain ⟨x1_, hx1_⟩ : ∃ z, own_expd be pif 1 = z := ⟨_, rfl⟩
  unfold own_Q4 at hQ66
  rw [hx1_] at hQ66
  obtain ⟨hq66, N66q, q66⟩ := hQ66
  rw [q66] at e66
  rw [hq66] at st66
  have N66 := Fr.app N64 N66q
  refine own_fwd st66 ?_
  show own_R p.tables e below P (T66.setTop (mkF m 271 #[.val (.int p0), .val (.int p1), .val (.int p2), .val (.int p3), .val (.int p4), .val (.int p5), .val (.int bb), .val (.ref b39), .val (.ref b44), .val (.ref b49), .val (.int pp), .val (.ref b57), .val (.ref o62)] [(.int x1_), (.int (rf 1))]))
  have hc67 : (rf 1) = x1_ := EV.2.1.trans hx1_
  refine own_fwd (fun tt kt => XS.icmpNo X66.here hx rfl (hb hby at_271) rfl (teq hc67).2 kt) ?_
  show own_R p.tables e below P (T66.setTop (mkF m 274 #[.val (.int p0), .val (.int p1), .val (.int p2), .val (.int p3), .val (.int p4), .val (.int p5), .val (.int bb), .val (.ref b39), .val (.ref b44), .val (.ref b49), .val (.int pp), .val (.ref b57), .val (.ref o62)] []))
  refine own_fwd (fun tt kt => XS.aload X66.here hx rfl (hb hby at_274) rfl rfl kt) ?_
  show own_R p.tables e below P (T66.setTop (mkF m 276 #[.val (.int p0), .val (.int p1), .val (.int p2), .val (.int p3), .val (.int p4), .val (.int p5), .val (.int bb), .val (.ref b39), .val (.ref b44), .val (.ref b49), .val (.int pp), .val (.ref b57), .val (.ref o62)] [(.ref o62)]))
  refine own_fwd (fun tt kt => XS.iconst X66.here hx rfl (hb hby at_276) kt) ?_
  show own_R p.tables e below P (T66.setTop (mkF m 277 #[.val (.int p0), .val (.int p1), .val (.int p2), .val (.int p3), .val (.int p4), .val (.int p5), .val (.int bb), .val (.ref b39), .val (.ref b44), .val (.ref b49), .val (.int pp), .val (.ref b57), .val (.ref o62)] [(.int (2 : Int32)), (.ref o62)]))
  refine own_fwd (own_ldI X66 hx hZ e66 A62_ (j := (2 : Int32)) 2 (by decide) (by decide) (g := (mkF m 277 #[.val (.int p0), .val (.int p1), .val (.int p2), .val (.int p3), .val (.int p4), .val (.int p5), .val (.int bb), .val (.ref b39), .val (.ref b44), .val (.ref b49), .val (.int pp), .val (.ref b57), .val (.ref o62)] [(.int (2 : Int32)), (.ref o62)])) rfl rfl (hb hby at_277)) ?_
  show own_R p.tables e below P (T66.setTop (mkF m 278 #[.val (.int p0), .val (.int p1), .val (.int p2), .val (.int p3), .val (.int p4), .val (.int p5), .val (.int bb), .val (.ref b39), .val (.ref b44), .val (.ref b49), .val (.int pp), .val (.ref b57), .val (.ref o62)] [(.int (rf 2))]))
  refine own_fwd (fun tt kt => XS.aload X66.here hx rfl (hb hby at_278) rfl rfl kt) ?_
  show own_R p.tables e below P (T66.setTop (mkF m 280 #[.val (.int p0), .val (.int p1), .val (.int p2), .val (.int p3), .val (.int p4), .val (.int p5), .val (.int bb), .val (.ref b39), .val (.ref b44), .val (.ref b49), .val (.int pp), .val (.ref b57), .val (.ref o62)] [(.ref b39), (.int (rf 2))]))
  refine own_fwd (fun tt kt => XS.aload X66.here hx rfl (hb hby at_280) rfl rfl kt) ?_
  show own_R p.tables e below P (T66.setTop (mkF m 282 #[.val (.int p0), .val (.int p1), .val (.int p2), .val (.int p3), .val (.int p4), .val (.int p5), .val (.int bb), .val (.ref b39), .val (.ref b44), .val (.ref b49), .val (.int pp), .val (.ref b57), .val (.ref o62)] [(.ref b57), (.ref b39), (.int (rf 2))]))
  refine own_fwd (fun tt kt => XS.iconst X66.here hx rfl (hb hby at_282) kt) ?_
  show own_R p.tables e below P (T66.setTop (mkF m 283 #[.val (.int p0), .val (.int p1), .val (.int p2), .val (.int p3), .val (.int p4), .val (.int p5), .val (.int bb), .val (.ref b39), .val (.ref b44), .val (.ref b49), .val (.int pp), .val (.ref b57), .val (.ref o62)] [(.int (2 : Int32)), (.ref b57), (.ref b39), (.int (rf 2))]))
  obtain ⟨_, _, ⟨T68, L68, k68, n68⟩, -, X68, ⟨Lc68, hQ68, l68, y68, z68⟩, st68⟩ := Jvm.LawKit.callS X66 hx (y := (⟨"com/example/rankbucket/rankbucket/BucketingRanksPinLaw", "expected", "([S[II)I"⟩ : MethodName)) hown (mvT hZ (hw _ (List.mem_of_getElem? (i := 14) rfl))) (mvT hZ (hw _ (List.mem_of_getElem? (i := 15) rfl))) (mvT hZ (hw _ (List.mem_of_getElem? (i := 4) rfl))) (mvT hZ (hw _ (List.mem_of_getElem? (i := 16) rfl))) (by decide) (backOf (W := 1) (own_rm4 l Z a0 hw [] b39 b57 2 be pif 2 h62 n0 Z62 A43__x62 Po_x62 rfl (by decide)) hZ (hw _ (List.mem_of_getElem? (i := 16) rfl)) (hw _ (List.mem_of_getElem? (i := 4) rfl)) (by decide) (by decide)) (g := (mkF m 283 #[.val (.int p0), .val (.int p1), .val (.int p2), .val (.int p3), .val (.int p4), .val (.int p5), .val (.int bb), .val (.ref b39), .val (.ref b44), .val (.ref b49), .val (.int pp), .val (.ref b57), .val (.ref o62)] [(.int (2 : Int32)), (.ref b57), (.ref b39), (.int (rf 2))])) rfl (by rw [hml]; rfl) (argsL := [(.ref b39), (.ref b57), (.int (2 : Int32))]) (rest := [(.int (rf 2))]) (lenOf own_pd4 rfl) rfl (by show 2 * 0 + _ ≤ _; exact Nat.le_of_eq rfl) (hb hby at_283) (fun _ _ => ⟨rfl, e66, (by decide : 6 + 0 ≤ _), (by decide : 24 + 0 ≤ _)⟩)
  dsimp only [Pt.U, Pt.locs, Pt.cells, Pt.slots] at X68 l68 y68 z68 st68 hQ68
  rw [l68, (show k68 = 6 from y68), (show n68 = 24 from z68)] at X68
  obtain ⟨h68, e68⟩ : ∃ z, T68.heap = z := ⟨_, rfl⟩
  rw [e68] at hQ68
  obtain ⟨x2_, hx2_⟩ : ∃ z, own_expd be pif 2 = z := ⟨_, rfl⟩
  unfold own_Q4 at hQ68
  rw [hx2_] at hQ68
  obtain ⟨hq68, N68q, q68⟩ := hQ68
  rw [q68] at e68
  rw [hq68] at st68
  have N68 := Fr.app N66 N68q
  refine own_fwd st68 ?_
  show own_R p.tables e below P (T68.setTop (mkF m 286 #[.val (.int p0), .val (.int p1), .val (.int p2), .val (.int p3), .val (.int p4), .val (.int p5), .val (.int bb), .val (.ref b39), .val (.ref b44), .val (.ref b49), .val (.int pp), .val (.ref b57), .val (.ref o62)] [(.int x2_), (.int (rf 2))]))
  have hc69 : (rf 2) = x2_ := EV.2.2.1.trans hx2_
  refine own_fwd (fun tt kt => XS.icmpNo X68.here hx rfl (hb hby at_286) rfl (teq hc69).2 kt) ?_
  show own_R p.tables e below P (T68.setTop (mkF m 289 #[.val (.int p0), .val (.int p1), .val (.int p2), .val (.int p3), .val (.int p4), .val (.int p5), .val (.int bb), .val (.ref b39), .val (.ref b44), .val (.ref b49), .val (.int pp), .val (.ref b57), .val (.ref o62)] []))
  refine own_fwd (fun tt kt => XS.aload X68.here hx rfl (hb hby at_289) rfl rfl kt) ?_
  show own_R p.tables e below P (T68.setTop (mkF m 291 #[.val (.int p0), .val (.int p1), .val (.int p2), .val (.int p3), .val (.int p4), .val (.int p5), .val (.int bb), .val (.ref b39), .val (.ref b44), .val (.ref b49), .val (.int pp), .val (.ref b57), .val (.ref o62)] [(.ref o62)]))
  refine own_fwd (fun tt kt => XS.iconst X68.here hx rfl (hb hby at_291) kt) ?_
  show own_R p.tables e below P (T68.setTop (mkF m 292 #[.val (.int p0), .val (.int p1), .val (.int p2), .val (.int p3), .val (.int p4), .val (.int p5), .val (.int bb), .val (.ref b39), .val (.ref b44), .val (.ref b49), .val (.int pp), .val (.ref b57), .val (.ref o62)] [(.int (3 : Int32)), (.ref o62)]))
  refine own_fwd (own_ldI X68 hx hZ e68 A62_ (j := (3 : Int32)) 3 (by decide) (by decide) (g := (mkF m 292 #[.val (.int p0), .val (.int p1), .val (.int p2), .val (.int p3), .val (.int p4), .val (.int p5), .val (.int bb), .val (.ref b39), .val (.ref b44), .val (.ref b49), .val (.int pp), .val (.ref b57), .val (.ref o62)] [(.int (3 : Int32)), (.ref o62)])) rfl rfl (hb hby at_292)) ?_
  show own_R p.tables e below P (T68.setTop (mkF m 293 #[.val (.int p0), .val (.int p1), .val (.int p2), .val (.int p3), .val (.int p4), .val (.int p5), .val (.int bb), .val (.ref b39), .val (.ref b44), .val (.ref b49), .val (.int pp), .val (.ref b57), .val (.ref o62)] [(.int (rf 3))]))
  refine own_fwd (fun tt kt => XS.aload X68.here hx rfl (hb hby at_293) rfl rfl kt) ?_
  show own_R p.tables e below P (T68.setTop (mkF m 295 #[.val (.int p0), .val (.int p1), .val (.int p2), .val (.int p3), .val (.int p4), .val (.int p5), .val (.int bb), .val (.ref b39), .val (.ref b44), .val (.ref b49), .val (.int pp), .val (.ref b57), .val (.ref o62)] [(.ref b39), (.int (rf 3))]))
  refine own_fwd (fun tt kt => XS.aload X68.here hx rfl (hb hby at_295) rfl rfl kt) ?_
  show own_R p.tables e below P (T68.setTop (mkF m 297 #[.val (.int p0), .val (.int p1), .val (.int p2), .val (.int p3), .val (.int p4), .val (.int p5), .val (.int bb), .val (.ref b39), .val (.ref b44), .val (.ref b49), .val (.int pp), .val (.ref b57), .val (.ref o62)] [(.ref b57), (.ref b39), (.int (rf 3))]))
  refine own_fwd (fun tt kt => XS.iconst X68.here hx rfl (hb hby at_297) kt) ?_
  show own_R p.tables e below P (T68.setTop (mkF m 298 #[.val (.int p0), .val (.int p1), .val (.int p2), .val (.int p3), .val (.int p4), .val (.int p5), .val (.int bb), .val (.ref b39), .val (.ref b44), .val (.ref b49), .val (.int pp), .val (.ref b57), .val (.ref o62)] [(.int (3 : Int32)), (.ref b57), (.ref b39), (.int (rf 3))]))
  obtain ⟨_, _, ⟨T70, L70, k70, n70⟩, -, X70, ⟨Lc70, hQ70, l70, y70, z70⟩, st70⟩ := Jvm.LawKit.callS X68 hx (y := (⟨"com/example/rankbucket/rankbucket/BucketingRanksPinLaw", "expected", "([S[II)I"⟩ : MethodName)) hown (mvT hZ (hw _ (List.mem_of_getElem? (i := 14) rfl))) (mvT hZ (hw _ (List.mem_of_getElem? (i := 15) rfl))) (mvT hZ (hw _ (List.mem_of_getElem? (i := 4) rfl))) (mvT hZ (hw _ (List.mem_of_getElem? (i := 16) rfl))) (by decide) (backOf (W := 1) (own_rm4 l Z a0 hw [] b39 b57 3 be pif 3 h62 n0 Z62 A43__x62 Po_x62 rfl (by decide)) hZ (hw _ (List.mem_of_getElem? (i := 16) rfl)) (hw _ (List.mem_of_getElem? (i := 4) rfl)) (by decide) (by decide)) (g := (mkF m 298 #[.val (.int p0), .val (.int p1), .val (.int p2), .val (.int p3), .val (.int p4), .val (.int p5), .val (.int bb), .val (.ref b39), .val (.ref b44), .val (.ref b49), .val (.int pp), .val (.ref b57), .val (.ref o62)] [(.int (3 : Int32)), (.ref b57), (.ref b39), (.int (rf 3))])) rfl (by rw [hml]; rfl) (argsL := [(.ref b39), (.ref b57), (.int (3 : Int32))]) (rest := [(.int (rf 3))]) (lenOf own_pd4 rfl) rfl (by show 2 * 0 + _ ≤ _; exact Nat.le_of_eq rfl) (hb hby at_298) (fun _ _ => ⟨rfl, e68, (by decide : 6 + 0 ≤ _), (by decide : 24 + 0 ≤ _)⟩)
  dsimp only [Pt.U, Pt.locs, Pt.cells, Pt.slots] at X70 l70 y70 z70 st70 hQ70
  rw [l70, (show k70 = 6 from y70), (show n70 = 24 from z70)] at X70
  obtain ⟨h70, e70⟩ : ∃ z, T70.heap = z := ⟨_, rfl⟩
  rw [e70] at hQ70
  obtain ⟨x3_, hx3_⟩ : ∃ z, own_expd be pif 3 = z := ⟨_, rfl⟩
  unfold own_Q4 at hQ70
  rw [hx3_] at hQ70
  obtain ⟨hq70, N70q, q70⟩ := hQ70
  rw [q70] at e70
  rw [hq70] at st70
  have N70 := Fr.app N68 N70q
  refine own_fwd st70 ?_
  show own_R p.tables e below P (T70.setTop (mkF m 301 #[.val (.int p0), .val (.int p1), .val (.int p2), .val (.int p3), .val (.int p4), .val (.int p5), .val (.int bb), .val (.ref b39), .val (.ref b44), .val (.ref b49), .val (.int pp), .val (.ref b57), .val (.ref o62)] [(.int x3_), (.int (rf 3))]))
  have hc71 : (rf 3) = x3_ := EV.2.2.2.trans hx3_
  refine own_fwd (fun tt kt => XS.icmpNo X70.here hx rfl (hb hby at_301) rfl (teq hc71).2 kt) ?_
  show own_R p.tables e below P (T70.setTop (mkF m 304 #[.val (.int p0), .val (.int p1), .val (.int p2), .val (.int p3), .val (.int p4), .val (.int p5), .val (.int bb), .val (.ref b39), .val (.ref b44), .val (.ref b49), .val (.int pp), .val (.ref b57), .val (.ref o62)] []))
  refine own_fwd (fun tt kt => XS.iconst X70.here hx rfl (hb hby at_304) kt) ?_
  show own_R p.tables e below P (T70.setTop (mkF m 305 #[.val (.int p0), .val (.int p1), .val (.int p2), .val (.int p3), .val (.int p4), .val (.int p5), .val (.int bb), .val (.ref b39), .val (.ref b44), .val (.ref b49), .val (.int pp), .val (.ref b57), .val (.ref o62)] [(.int (1 : Int32))]))
  refine own_fwd (fun tt kt => XS.goto X70.here hx rfl (pc0 := 305) (pc' := 309) rfl (hb hby at_305) (by decide) (by decide) kt) ?_
  show own_R p.tables e below P (T70.setTop (mkF m 309 #[.val (.int p0), .val (.int p1), .val (.int p2), .val (.int p3), .val (.int p4), .val (.int p5), .val (.int bb), .val (.ref b39), .val (.ref b44), .val (.ref b49), .val (.int pp), .val (.ref b57), .val (.ref o62)] [(.int (1 : Int32))]))
  obtain ⟨fs72, hr72, hrun72, hended72, hW72, hsame72⟩ := X70.leave (v := some (.int (1 : Int32))) (fun h => by rw [Bd.returns] at h; cases h)
  refine ⟨_, _, X70.ireturnOut hx (w := (1 : Int32)) Bd.returns rfl (by simp) (hb hby at_309) hr72, fin _ _ ⟨hrun72, hended72, _, _, rfl, ?_, ⟨_, rfl⟩, hW72, hsame72.mono (by decide) (by decide)⟩⟩
  show own_Qlaw Z p0 p1 p2 p3 p4 p5 h0 n0 _ T70.heap _
  rw [e70]
  exact ⟨rfl, N70⟩
set_option maxRecDepth 65536 in
set_option maxHeartbeats 40000000 in
theorem own_comes {Post : Tables → Env → Array Value → State → Outcome → State → Prop} (hpost : ∀ tb e args s v u, (limb_1_1.after args s (.returned v) u = true ∧ limb_1_2.after args s (.returned v) u = true ∧ True) → FrameEnd s (.returned v) u (Jvm.fieldLocs frame_1_writes args s ++ Jvm.arrayLocs frame_1_arrays args s ++ Jvm.staticLocs frame_1_statics s) 24 128 → Post tb e args s (.returned v) u) :
    ArmFor flags0 classFile x code maxLocals ret World_1 tables_1 room_1 Calls_1 rest_1 Pre_1 Post := by
  intro l hfl _ _ p e ha hc hk s m args below hf hA hF happ hP
  obtain ⟨hcalls, hrest, hpre⟩ := hP
  obtain ⟨-, -, -, hnamed, -, -, -, hat⟩ := (Spec.applies_iff hf).mp happ
  obtain ⟨hg, hn⟩ := and_e (Cond.before_iff.mp (show (Jvm.Cond.and given_1 narrow_1).before args s = true from hpre))
  obtain ⟨g1, g2⟩ := and_e hg
  obtain ⟨g3, g4⟩ := and_e g2
  obtain ⟨g5, g6⟩ := and_e g4
  obtain ⟨g7, g8⟩ := and_e g6
  obtain ⟨g9, g10⟩ := and_e g8
  obtain ⟨g11, g12⟩ := and_e g10
  obtain ⟨w0, w1, w2, w3, w4, w5, rfl⟩ : ∃ w0 w1 w2 w3 w4 w5 : Value, args = #[w0, w1, w2, w3, w4, w5] := by
    have hs : args.size = 6 := by simpa [Cond.value, given_1] using g1
    obtain ⟨L⟩ := args
    match L, hs with
    | [w0, w1, w2, w3, w4, w5], _ => exact ⟨w0, w1, w2, w3, w4, w5, rfl⟩
  have hw := fun d (hd : d ∈ tables_1) => atoms_spec (ws := Jvm.Cond.code x code maxLocals ret :: tables_1) hat d (List.mem_cons_of_mem _ hd)
  obtain ⟨i0, ei0⟩ := is_v g3
  obtain rfl : w0 = (.int i0) := Option.some.inj ei0
  obtain ⟨i1, ei1⟩ := is_v g5
  obtain rfl : w1 = (.int i1) := Option.some.inj ei1
  obtain ⟨i2, ei2⟩ := is_v g7
  obtain rfl : w2 = (.int i2) := Option.some.inj ei2
  obtain ⟨i3, ei3⟩ := is_v g9
  obtain rfl : w3 = (.int i3) := Option.some.inj ei3
  obtain ⟨i4, ei4⟩ := is_v g11
  obtain rfl : w4 = (.int i4) := Option.some.inj ei4
  obtain ⟨i5, ei5⟩ := is_v g12
  obtain rfl : w5 = (.int i5) := Option.some.inj ei5
  obtain ⟨n, o, h1, h2, h3, _, L, rfl, ⟨rfl, N⟩, hq⟩ := own_rmlaw l s _ hw tables_1 i0 i1 i2 i3 i4 i5 s.heap s.heap.size (Nat.le_refl _) p e ha hc hk s m _ below hf ((Spec.applies_iff_loose hf).mp happ).1 ⟨rfl, State.Warmed39.refl s, rfl⟩ trivial
  refine ⟨n, _, h1, h2, h3, hpost _ _ _ _ _ _ ⟨Cond.after_iff.mpr rfl, Cond.after_iff.mpr (eq_i res_at (Term.int_eval (1)) rfl), trivial⟩ ⟨hq.1, hq.2.1, (hq.2.2.sift fun y hy => Or.inr (N y hy)).mono (by decide) (by decide)⟩⟩
theorem main_1_1 : Claimed_1_1 := own_comes fun _ _ _ _ _ _ h hF => ⟨h.1, hF⟩
theorem main_1_2 : Claimed_1_2 := own_comes fun _ _ _ _ _ _ h hF => ⟨h.2.1, hF⟩
end Jvm.Pilot.@@N@@
namespace Jvm.Pilot.@@N@@
open Jvm Jvm.ClassFile Sem Op Lib Jvm.Free Jvm.Stand Jvm.Pilot.@@N@@.Jvm.D
/-! MADE BY PROGRAM (witnessworld.py) out of the Statement's table words and the real class files: 12 classes; the members and pool entries that the words name. The judged class is class 1, her method 1. -/
namespace start1
open Jvm.ClassFile
def u (s : String) : CpInfo := .utf8 (stringToUtf16 s)
/-- a pool by its gaps: so many unusable entries, then the entry; so many at the end -/
def gap : Nat → List CpInfo → List CpInfo
  | 0, r => r
  | n + 1, r => .unusable :: gap n r
def poolList (es : List (Nat × CpInfo)) (last : Nat) : List CpInfo := es.foldr (fun e r => gap e.1 (e.2 :: r)) (gap last [])
def pool (es : List (Nat × CpInfo)) (last : Nat) : Array CpInfo := ⟨poolList es last⟩
def fileOf (pool : Array CpInfo) (this : Nat) (attrs : Array Attribute := #[]) (ms : Array MethodInfo := #[]) (fl : Nat := 33) (sup : Nat := 0) (ifs : Array Nat := #[]) (fds : Array FieldInfo := #[]) : ClassFile where
  minorVersion := 0
  majorVersion := 65
  constantPool := pool
  accessFlags := fl
  thisClass := this
  superClass := sup
  interfaces := ifs
  fields := fds
  methods := ms
  attributes := attrs
def plain (name : String) (sup : Option ClassId) : Class where
  name := name
  kind := .ordinary
  loader := none
  accessFlags := 33
  super := sup
  interfaces := #[]
  cf := none
  fields := #[]
  methods := #[]
  instanceTypes := #[]
  staticTypes := #[]
  resolved := #[]
  callSites := []
  init := .initialized
  statics := none
  mirror := none

def pool0 : Array CpInfo := pool [(5, u "<init>"), (0, u "()V"), (1, .class_ 10), (1, u "java/lang/Object")] 113

def k0m0 : Method := { name := "<init>", desc := "()V", sig := { parameters := [], returnType := none }, accessFlags := 1, code := none }
/-- java/lang/Object -/
def k0 : Class := { plain "java/lang/Object" none with
  accessFlags := 33
  interfaces := #[]
  cf := some (fileOf pool0 8 #[] #[{ accessFlags := 1, nameIndex := 5, descriptorIndex := 6, attributes := #[] }] 33 0 #[] #[])
  fields := #[]
  methods := #[k0m0]
  instanceTypes := #[]
  staticTypes := #[]
  resolved := Array.replicate 124 none
  statics := none }

def pool1 : Array CpInfo := pool [(2, .class_ 4), (1, u "java/lang/Object"), (0, u "<init>"), (0, u "()V"), (0, .methodref 8 9), (0, .class_ 10), (0, .nameAndType 11 12), (0, u "com/example/rankbucket/rankbucket/BucketingRanksPinLaw"), (0, u "count"), (0, u "([IS)V"), (0, .integer 2147483647), (0, .methodref 8 15), (0, .nameAndType 16 17), (0, u "swap"), (0, u "([III)V"), (0, .methodref 19 20), (0, .class_ 21), (0, .nameAndType 22 23), (0, u "com/example/rankbucket/rankbucket/Bucketing"), (0, u "ranks"), (0, u "([S[I[I)[I"), (0, .methodref 8 25), (0, .nameAndType 26 27), (0, u "expected"), (0, u "([S[II)I"), (0, .methodref 8 29), (0, .nameAndType 30 31), (0, u "before"), (0, u "([S[III)I"), (2, u "law"), (0, u "(IIIIII)Z")] 7

def k1m0 : Method := { name := "<init>", desc := "()V", sig := { parameters := [], returnType := none }, accessFlags := 1, code := none }
def k1c1 : Code := { maxStack := 5, maxLocals := 13, code := code, exceptionTable := #[], attributes := #[] }
def k1m1 : Method := { name := "law", desc := "(IIIIII)Z", sig := { parameters := [.int, .int, .int, .int, .int, .int], returnType := some .boolean }, accessFlags := 9, code := some k1c1 }
def k1c2 : Code := { maxStack := 4, maxLocals := 2, code := method_3_code, exceptionTable := #[], attributes := #[] }
def k1m2 : Method := { name := "count", desc := "([IS)V", sig := { parameters := [(.array .int), .short], returnType := none }, accessFlags := 10, code := some k1c2 }
def k1c3 : Code := { maxStack := 4, maxLocals := 4, code := method_4_code, exceptionTable := #[], attributes := #[] }
def k1m3 : Method := { name := "swap", desc := "([III)V", sig := { parameters := [(.array .int), .int, .int], returnType := none }, accessFlags := 10, code := some k1c3 }
def k1c4 : Code := { maxStack := 5, maxLocals := 3, code := method_5_code, exceptionTable := #[], attributes := #[] }
def k1m4 : Method := { name := "expected", desc := "([S[II)I", sig := { parameters := [(.array .short), (.array .int), .int], returnType := some .int }, accessFlags := 10, code := some k1c4 }
def k1c5 : Code := { maxStack := 3, maxLocals := 4, code := method_6_code, exceptionTable := #[], attributes := #[] }
def k1m5 : Method := { name := "before", desc := "([S[III)I", sig := { parameters := [(.array .short), (.array .int), .int, .int], returnType := some .int }, accessFlags := 10, code := some k1c5 }
/-- com/example/rankbucket/rankbucket/BucketingRanksPinLaw -/
def k1 : Class := { plain "com/example/rankbucket/rankbucket/BucketingRanksPinLaw" (some 0) with
  accessFlags := 49
  interfaces := #[]
  cf := some (fileOf pool1 8 #[] #[{ accessFlags := 1, nameIndex := 5, descriptorIndex := 6, attributes := #[] }, { accessFlags := 9, nameIndex := 34, descriptorIndex := 35, attributes := #[] }, { accessFlags := 10, nameIndex := 11, descriptorIndex := 12, attributes := #[] }, { accessFlags := 10, nameIndex := 16, descriptorIndex := 17, attributes := #[] }, { accessFlags := 10, nameIndex := 26, descriptorIndex := 27, attributes := #[] }, { accessFlags := 10, nameIndex := 30, descriptorIndex := 31, attributes := #[] }] 49 2 #[] #[])
  fields := #[]
  methods := #[k1m0, k1m1, k1m2, k1m3, k1m4, k1m5]
  instanceTypes := #[]
  staticTypes := #[]
  resolved := Array.replicate 43 none
  statics := none }

def pool2 : Array CpInfo := pool [(1, .class_ 2), (0, u "com/example/rankbucket/rankbucket/IndexOrder$Strict"), (5, .class_ 10), (1, u "com/example/rankbucket/rankbucket/IndexOrder"), (0, u "STRICT"), (0, u "Lcom/example/rankbucket/rankbucket/IndexOrder;"), (0, .class_ 14), (0, u "java/lang/Object")] 16

/-- com/example/rankbucket/rankbucket/IndexOrder -/
def k2 : Class := { plain "com/example/rankbucket/rankbucket/IndexOrder" (some 0) with
  accessFlags := 1537
  interfaces := #[]
  cf := some (fileOf pool2 8 #[.nestMembers #[1]] #[] 1537 13 #[] #[{ accessFlags := 25, nameIndex := 11, descriptorIndex := 12, attributes := #[] }])
  fields := #[{ name := "STRICT", type := (.object "com/example/rankbucket/rankbucket/IndexOrder"), accessFlags := 25, slot := 0, constantValue := 0 }]
  methods := #[]
  instanceTypes := #[]
  staticTypes := #[(.object "com/example/rankbucket/rankbucket/IndexOrder")]
  resolved := Array.replicate 31 none
  statics := none }

def pool3 : Array CpInfo := pool [(1, .class_ 2), (0, u "com/example/rankbucket/rankbucket/Bucketing"), (1, .class_ 6), (1, u "java/lang/Object"), (4, u "scheme"), (0, u "Ljava/lang/String;"), (6, u "buckets"), (0, u "I"), (1, .class_ 24), (1, u "com/example/rankbucket/rankbucket/Bucketing$Scheme"), (63, .class_ 89), (0, u "com/example/rankbucket/rankbucket/IndexOrder"), (0, u "ORDER"), (1, u "LINEAR"), (2, u "LOG"), (2, u "SQRT"), (2, u "POW"), (2, u "EQUIDEPTH"), (2, u "GEOMETRIC"), (2, u "SCHEMES"), (2, u "MAX_BUCKETS"), (1, u "POWER_MAXIMUM_RANK_DIVISOR"), (18, u "ranks"), (0, u "([S[I[I)[I"), (6, .class_ 143), (0, u "com/example/rankbucket/rankbucket/Bucketing$Thresholds"), (0, .class_ 145), (0, u "com/example/rankbucket/rankbucket/Bucketing$Compressed"), (0, .class_ 147), (0, u "com/example/rankbucket/rankbucket/Bucketing$ThresholdRule"), (0, .class_ 149), (0, u "com/example/rankbucket/rankbucket/Bucketing$ThresholdRule$HeldScores"), (0, .class_ 151), (0, u "com/example/rankbucket/rankbucket/Bucketing$ThresholdRule$Fitter"), (0, .class_ 153), (0, u "com/example/rankbucket/rankbucket/Bucketing$Compressor")] 25

def k3c0 : Code := { maxStack := 7, maxLocals := 9, code := prog_6_method_15_code, exceptionTable := #[], attributes := #[] }
def k3m0 : Method := { name := "ranks", desc := "([S[I[I)[I", sig := { parameters := [(.array .short), (.array .int), (.array .int)], returnType := some (.array .int) }, accessFlags := 8, code := some k3c0 }
/-- com/example/rankbucket/rankbucket/Bucketing -/
def k3 : Class := { plain "com/example/rankbucket/rankbucket/Bucketing" (some 0) with
  accessFlags := 1057
  interfaces := #[2]
  cf := some (fileOf pool3 1 #[.nestMembers #[142, 144, 146, 148, 150, 152, 22]] #[{ accessFlags := 8, nameIndex := 134, descriptorIndex := 135, attributes := #[] }] 1057 4 #[88] #[{ accessFlags := 25, nameIndex := 90, descriptorIndex := 12, attributes := #[] }, { accessFlags := 25, nameIndex := 92, descriptorIndex := 12, attributes := #[] }, { accessFlags := 25, nameIndex := 95, descriptorIndex := 12, attributes := #[] }, { accessFlags := 25, nameIndex := 98, descriptorIndex := 12, attributes := #[] }, { accessFlags := 25, nameIndex := 101, descriptorIndex := 12, attributes := #[] }, { accessFlags := 25, nameIndex := 104, descriptorIndex := 12, attributes := #[] }, { accessFlags := 25, nameIndex := 107, descriptorIndex := 12, attributes := #[] }, { accessFlags := 25, nameIndex := 110, descriptorIndex := 12, attributes := #[] }, { accessFlags := 25, nameIndex := 113, descriptorIndex := 20, attributes := #[] }, { accessFlags := 26, nameIndex := 115, descriptorIndex := 20, attributes := #[] }, { accessFlags := 18, nameIndex := 11, descriptorIndex := 12, attributes := #[] }, { accessFlags := 18, nameIndex := 19, descriptorIndex := 20, attributes := #[] }])
  fields := #[{ name := "ORDER", type := (.object "java/lang/String"), accessFlags := 25, slot := 0, constantValue := 0 }, { name := "LINEAR", type := (.object "java/lang/String"), accessFlags := 25, slot := 1, constantValue := 0 }, { name := "LOG", type := (.object "java/lang/String"), accessFlags := 25, slot := 2, constantValue := 0 }, { name := "SQRT", type := (.object "java/lang/String"), accessFlags := 25, slot := 3, constantValue := 0 }, { name := "POW", type := (.object "java/lang/String"), accessFlags := 25, slot := 4, constantValue := 0 }, { name := "EQUIDEPTH", type := (.object "java/lang/String"), accessFlags := 25, slot := 5, constantValue := 0 }, { name := "GEOMETRIC", type := (.object "java/lang/String"), accessFlags := 25, slot := 6, constantValue := 0 }, { name := "SCHEMES", type := (.object "java/lang/String"), accessFlags := 25, slot := 7, constantValue := 0 }, { name := "MAX_BUCKETS", type := .int, accessFlags := 25, slot := 8, constantValue := 0 }, { name := "POWER_MAXIMUM_RANK_DIVISOR", type := .int, accessFlags := 26, slot := 9, constantValue := 0 }, { name := "scheme", type := (.object "java/lang/String"), accessFlags := 18, slot := 0, constantValue := 0 }, { name := "buckets", type := .int, accessFlags := 18, slot := 1, constantValue := 0 }]
  methods := #[k3m0]
  instanceTypes := #[(.object "java/lang/String"), .int]
  staticTypes := #[(.object "java/lang/String"), (.object "java/lang/String"), (.object "java/lang/String"), (.object "java/lang/String"), (.object "java/lang/String"), (.object "java/lang/String"), (.object "java/lang/String"), (.object "java/lang/String"), .int, .int]
  resolved := Array.replicate 179 none
  statics := none }

def pool4 : Array CpInfo := pool [(1, u "java/lang/Cloneable"), (0, .class_ 1), (0, u "java/lang/Object"), (0, .class_ 3)] 3

/-- java/lang/Cloneable -/
def k4 : Class := { plain "java/lang/Cloneable" (some 0) with
  accessFlags := 1537
  interfaces := #[]
  cf := some (fileOf pool4 2 #[] #[] 1537 4 #[] #[])
  fields := #[]
  methods := #[]
  instanceTypes := #[]
  staticTypes := #[]
  resolved := Array.replicate 8 none
  statics := none }

def pool5 : Array CpInfo := pool [(1, u "java/io/Serializable"), (0, .class_ 1), (0, u "java/lang/Object"), (0, .class_ 3)] 3

/-- java/io/Serializable -/
def k5 : Class := { plain "java/io/Serializable" (some 0) with
  accessFlags := 1537
  interfaces := #[]
  cf := some (fileOf pool5 2 #[] #[] 1537 4 #[] #[])
  fields := #[]
  methods := #[]
  instanceTypes := #[]
  staticTypes := #[]
  resolved := Array.replicate 8 none
  statics := none }

/-- the primitive byte -/
def k6 : Class := { plain "byte" none with kind := .primitive 'B', accessFlags := 0x411 }
/-- [B -/
def k7 : Class := { plain "[B" (some 0) with kind := .array 6 .byte, interfaces := #[4, 5], accessFlags := 1041 }

/-- the primitive int -/
def k8 : Class := { plain "int" none with kind := .primitive 'I', accessFlags := 0x411 }
/-- [I -/
def k9 : Class := { plain "[I" (some 0) with kind := .array 8 .int, interfaces := #[4, 5], accessFlags := 1041 }

/-- the primitive short -/
def k10 : Class := { plain "short" none with kind := .primitive 'S', accessFlags := 0x411 }
/-- [S -/
def k11 : Class := { plain "[S" (some 0) with kind := .array 10 .short, interfaces := #[4, 5], accessFlags := 1041 }

def heap : Heap := #[]
def classes : Array Class := #[k0, k1, k2, k3, k4, k5, k6, k7, k8, k9, k10, k11]
def interned : List (Array UInt16 × Addr) := []
def slotsUsed : Nat := 0
def theMethod : MethodId := ⟨1, 1⟩
def args0 : Array Value := #[.int 2, .int 5, .int 9, .int 3, .int 4, .int 11]
def aboutOver (below : List Frame) : State where
  vm := { classes := classes, interned := interned.toArray }
  heap := heap
  slotsUsed := slotsUsed
  threads := #[{ frames := .invoking theMethod args0 :: below }]
def below0 : List Frame := [.native { method := ⟨0, 0⟩, args := #[] }]
def about1 : State := aboutOver below0
def p0 : Program := .bare "" "" ""
def e0 : Env := launch0.env 0 0 0
theorem w_frames : about1.frames = Frame.invoking theMethod args0 :: below0 := rfl
set_option maxRecDepth 65536 in
theorem w_args : argsFit about1.vm theMethod args0 = true := by decide +kernel
set_option maxRecDepth 65536 in
theorem w_heap : heapFits about1 = true := by decide +kernel
set_option maxRecDepth 65536 in
theorem w_runnable : about1.curStatus? = some .runnable := by decide +kernel
set_option maxRecDepth 65536 in
theorem w_alone : about1.alone = true := by decide +kernel
set_option maxRecDepth 65536 in
theorem w_named : about1.methodNamed? x = some theMethod := by decide +kernel
set_option maxRecDepth 65536 in
theorem w_hears : about1.hears theMethod below0 = true := by decide +kernel
set_option maxRecDepth 65536 in
theorem w_ripe : about1.ripe theMethod args0 below0 = true := by decide +kernel
theorem w_running : about1.status = .running := rfl
set_option maxRecDepth 65536 in
theorem w_room : about1.hasRoom e0.platform room_1 = true :=
  launch0.hasRoom_least _ room_1 (by decide +kernel) (by decide +kernel) (by decide +kernel) (by decide +kernel) (by decide +kernel) (by decide +kernel)
theorem allAtoms_all (ts : List Jvm.Cond) (a : Array Jvm.Value) (st : Jvm.State) : (allAtoms ts).before a st = ts.all (fun c => c.before a st) := by
  induction ts with
  | nil => rfl
  | cons c t ih =>
    show (Jvm.Cond.and c (allAtoms t)).before a st = _
    rw [Jvm.Cond.before_and, ih, List.all_cons]
def words1 : List Jvm.Cond := Jvm.Cond.code x code maxLocals ret :: tables_1
/-- a 'code' word, met by the world's own term for the bytes: nothing is compared byte by byte -/
theorem code_word {y : MethodName} {bytes : ByteArray} {mx : Nat} {rt : Option FieldType} {a : Array Value} {s : State} {m : MethodId} {meth : Method} {c : Code} (h1 : s.methodNamed? y = some m) (h2 : s.vm.method? m = some meth) (h3 : meth.code = some c) (h4 : c.code = bytes)
    (h5 : (c.maxLocals == mx && c.exceptionTable.isEmpty && decide (c.maxStack ≤ mostOperands) && decide (meth.sig.returnType = rt) && !meth.locks && decide (parseMethodDescriptor y.desc = some meth.sig)) = true) : (Jvm.Cond.code y bytes mx rt).before a s = true := by
  simp only [Bool.and_eq_true, beq_iff_eq, Bool.not_eq_true', decide_eq_true_eq] at h5
  obtain ⟨⟨⟨⟨⟨g1, g2⟩, g3⟩, g4⟩, g5⟩, g6⟩ := h5
  simp [Cond.before, Cond.holds, Cond.value, h1, h2, h3, h4, g1, g2, g3, g4, g5, g6]
def isCode : Jvm.Cond → Bool
  | .code _ _ _ _ => true
  | _ => false
theorem all_split {L : List Jvm.Cond} {P : Jvm.Cond → Bool} (h1 : L.all (fun c => isCode c || P c) = true) (h2 : ∀ c ∈ L.filter isCode, P c = true) : L.all P = true := by
  refine List.all_eq_true.mpr fun c hc => ?_
  have h := List.all_eq_true.mp h1 c hc
  rcases Bool.eq_false_or_eq_true (isCode c) with hi | hi
  · exact h2 c (List.mem_filter.mpr ⟨hc, hi⟩)
  · simpa [hi] using h
set_option maxRecDepth 65536 in
theorem w_c0 : (Jvm.Cond.code x code maxLocals ret).before args0 about1 = true := code_word (m := ⟨1, 1⟩) (meth := k1m1) (c := k1c1) (by decide +kernel) rfl rfl rfl (by decide +kernel)
set_option maxRecDepth 65536 in
theorem w_c1 : (Jvm.Cond.code ({ cls := "com/example/rankbucket/rankbucket/BucketingRanksPinLaw", name := "count", desc := "([IS)V" } : Jvm.MethodName) method_3_code (2 : Nat) (Option.none : Option Jvm.ClassFile.FieldType)).before args0 about1 = true := code_word (m := ⟨1, 2⟩) (meth := k1m2) (c := k1c2) (by decide +kernel) rfl rfl rfl (by decide +kernel)
set_option maxRecDepth 65536 in
theorem w_c2 : (Jvm.Cond.code ({ cls := "com/example/rankbucket/rankbucket/BucketingRanksPinLaw", name := "swap", desc := "([III)V" } : Jvm.MethodName) method_4_code (4 : Nat) (Option.none : Option Jvm.ClassFile.FieldType)).before args0 about1 = true := code_word (m := ⟨1, 3⟩) (meth := k1m3) (c := k1c3) (by decide +kernel) rfl rfl rfl (by decide +kernel)
set_option maxRecDepth 65536 in
theorem w_c3 : (Jvm.Cond.code ({ cls := "com/example/rankbucket/rankbucket/Bucketing", name := "ranks", desc := "([S[I[I)[I" } : Jvm.MethodName) prog_6_method_15_code (9 : Nat) (Option.some (Jvm.ClassFile.FieldType.array Jvm.ClassFile.FieldType.int))).before args0 about1 = true := code_word (m := ⟨3, 0⟩) (meth := k3m0) (c := k3c0) (by decide +kernel) rfl rfl rfl (by decide +kernel)
set_option maxRecDepth 65536 in
theorem w_c4 : (Jvm.Cond.code ({ cls := "com/example/rankbucket/rankbucket/BucketingRanksPinLaw", name := "expected", desc := "([S[II)I" } : Jvm.MethodName) method_5_code (3 : Nat) (Option.some Jvm.ClassFile.FieldType.int)).before args0 about1 = true := code_word (m := ⟨1, 4⟩) (meth := k1m4) (c := k1c4) (by decide +kernel) rfl rfl rfl (by decide +kernel)
set_option maxRecDepth 65536 in
theorem w_c5 : (Jvm.Cond.code ({ cls := "com/example/rankbucket/rankbucket/BucketingRanksPinLaw", name := "before", desc := "([S[III)I" } : Jvm.MethodName) method_6_code (4 : Nat) (Option.some Jvm.ClassFile.FieldType.int)).before args0 about1 = true := code_word (m := ⟨1, 5⟩) (meth := k1m5) (c := k1c5) (by decide +kernel) rfl rfl rfl (by decide +kernel)
def codes1 : List Jvm.Cond := [Jvm.Cond.code x code maxLocals ret, Jvm.Cond.code ({ cls := "com/example/rankbucket/rankbucket/BucketingRanksPinLaw", name := "count", desc := "([IS)V" } : Jvm.MethodName) method_3_code (2 : Nat) (Option.none : Option Jvm.ClassFile.FieldType), Jvm.Cond.code ({ cls := "com/example/rankbucket/rankbucket/BucketingRanksPinLaw", name := "swap", desc := "([III)V" } : Jvm.MethodName) method_4_code (4 : Nat) (Option.none : Option Jvm.ClassFile.FieldType), Jvm.Cond.code ({ cls := "com/example/rankbucket/rankbucket/Bucketing", name := "ranks", desc := "([S[I[I)[I" } : Jvm.MethodName) prog_6_method_15_code (9 : Nat) (Option.some (Jvm.ClassFile.FieldType.array Jvm.ClassFile.FieldType.int)), Jvm.Cond.code ({ cls := "com/example/rankbucket/rankbucket/BucketingRanksPinLaw", name := "expected", desc := "([S[II)I" } : Jvm.MethodName) method_5_code (3 : Nat) (Option.some Jvm.ClassFile.FieldType.int), Jvm.Cond.code ({ cls := "com/example/rankbucket/rankbucket/BucketingRanksPinLaw", name := "before", desc := "([S[III)I" } : Jvm.MethodName) method_6_code (4 : Nat) (Option.some Jvm.ClassFile.FieldType.int)]
set_option maxRecDepth 65536 in
theorem codes_eq : words1.filter isCode = codes1 := rfl
theorem w_codes : ∀ c ∈ words1.filter isCode, c.before args0 about1 = true := by
  rw [codes_eq]
  intro c hc
  simp only [codes1, List.mem_cons, List.not_mem_nil, or_false] at hc
  rcases hc with rfl | rfl | rfl | rfl | rfl | rfl
  · exact w_c0
  · exact w_c1
  · exact w_c2
  · exact w_c3
  · exact w_c4
  · exact w_c5
set_option maxRecDepth 65536 in
theorem w_t1 : words1.all (fun c => isCode c || c.before args0 about1) = true := by decide +kernel
theorem w_tables : (allAtoms (Jvm.Cond.code x code maxLocals ret :: tables_1)).before args0 about1 = true := by
  rw [allAtoms_all]
  show words1.all (fun c => c.before args0 about1) = true
  refine all_split ?_ w_codes
  rw [w_t1]
set_option maxRecDepth 65536 in
theorem w_case : (Jvm.Cond.and given_1 narrow_1).before args0 about1 = true := by decide +kernel
theorem w_applies : (headSpec (Jvm.Cond.code x code maxLocals ret :: tables_1) room_1).applies x e0.platform about1 = true :=
  (Spec.applies_iff w_frames).mpr ⟨w_running, w_runnable, w_alone, w_named, w_hears, w_ripe, w_room, w_tables⟩
theorem atStart : AtStart classFile x code maxLocals ret World_1 tables_1 room_1 Calls_1 rest_1 Pre_1 launch0 p0 e0 about1 theMethod args0 below0 :=
  ⟨lists_1, trivial, launch0.admits_env _ _ _, launch0.least_env, fairChoices_fair.cas, fairChoices_fair.clock, w_frames, w_args, w_heap, w_applies, trivial, trivial, w_case⟩
end start1
theorem witness_1 : WitnessClaimed_1 := ⟨start1.p0, start1.e0, start1.about1, start1.theMethod, start1.args0, start1.below0, start1.atStart⟩
end Jvm.Pilot.@@N@@

import JvmDerived
import JvmDerived.Pilot.@@N@@Statement
import JvmDerived.Pilot.@@N@@Code
set_option linter.unusedVariables false
set_option linter.unusedSimpArgs false
namespace Jvm.Pilot.@@N@@
open Jvm Jvm.ClassFile Sem Op Lib Jvm.Free Jvm.Stand Jvm.LawKit Jvm.RoadKit Bundle Jvm.Pilot.@@N@@.Jvm.D
/-! own layer: forward walking in continuation style, arrays as functions -/
def own_R (tb : Tables) (e : Env) (below : List Frame) (P : State → Outcome → Prop) (st : State) : Prop := ∃ t o, Steps tb e below st t ∧ P t o
theorem own_fwd {tb : Tables} {e : Env} {below : List Frame} {P : State → Outcome → Prop} {st st' : State} (k : ∀ t, Steps tb e below st' t → Steps tb e below st t) (h : own_R tb e below P st') : own_R tb e below P st := by
  obtain ⟨t, o, h1, h2⟩ := h; exact ⟨t, o, k t h1, h2⟩
theorem own_trn {tb : Tables} {e : Env} {below : List Frame} {P : State → Outcome → Prop} {st st' : State} (k : Steps tb e below st st') (h : own_R tb e below P st') : own_R tb e below P st := own_fwd (fun _ q => k.trans q) h
theorem own_nm {tb : Tables} {e : Env} {below : List Frame} {P : State → Outcome → Prop} {st : State} (h : ∀ P' : State → Outcome → Prop, (∀ t o, P t o → P' t o) → own_R tb e below P' st) : own_R tb e below P st := h P fun _ _ q => q
/-- an array, n long, place i holds f i -/
def own_AV (Z : State) (h : Heap) (a : Addr) (ty : FieldType) (n : Nat) (f : Nat → Value) : Prop := ∃ c : Cell, Arr Z h a c ty ∧ c.slots.size = n ∧ n < 2 ^ 31 ∧ ∀ i, i < n → c.slots[i]? = some (f i)
abbrev own_AI (Z : State) (h : Heap) (a : Addr) (ty : FieldType) (n : Nat) (f : Nat → Int32) : Prop := own_AV Z h a ty n fun i => .int (f i)
abbrev own_AJ (Z : State) (h : Heap) (a : Addr) (n : Nat) (f : Nat → Int64) : Prop := own_AV Z h a .long n fun i => .long (f i)
def own_upd {α : Type} (f : Nat → α) (i : Nat) (x : α) : Nat → α := fun k => if k = i then x else f k
theorem own_upd_hit {α : Type} (f : Nat → α) (i : Nat) (x : α) : own_upd f i x i = x := if_pos rfl
theorem own_upd_miss {α : Type} (f : Nat → α) {i k : Nat} (x : α) (q : k ≠ i) : own_upd f i x k = f k := if_neg q
section Own
variable {p : Program} {l : Launch} {e : Env} {R : Room} {s : State} {m : MethodId} {args : Array Value} {below : List Frame} {meth : Method} {c : Code} {T : State} {locs : List Loc} {cells slots : Nat} {Z : State} {a0 : Array Value} {h h' : Heap} {a b : Addr} {ty : FieldType} {n : Nat} {f : Nat → Value} {v : Value} {sl : Nat}
theorem own_AV.lt (F : own_AV Z h a ty n f) : a < h.size := by obtain ⟨c, A, -⟩ := F; exact A.lt
theorem own_AV.bd (F : own_AV Z h a ty n f) : n < 2 ^ 31 := by obtain ⟨c, A, -, q, -⟩ := F; exact q
theorem own_AV.ext (F : own_AV Z h a ty n f) (E : Ext h h') : own_AV Z h' a ty n f := by obtain ⟨c, A, r⟩ := F; exact ⟨c, A.ext E, r⟩
theorem own_AV.other (F : own_AV Z h b ty n f) (W : Wr h h' a sl v) (q : b ≠ a) : own_AV Z h' b ty n f := by obtain ⟨c, A, r⟩ := F; exact ⟨c, A.other W q, r⟩
theorem own_AV.keep {ws : List Addr} (F : own_AV Z h a ty n f) (K : Keep h h' ws) (q : a ∉ ws) : own_AV Z h' a ty n f := by obtain ⟨c, A, r⟩ := F; exact ⟨c, ⟨K.2.1 a c A.1 q, A.2⟩, r⟩
theorem own_AV.cong {f' : Nat → Value} (F : own_AV Z h a ty n f) (q : ∀ i, i < n → f' i = f i) : own_AV Z h a ty n f' := by obtain ⟨c, A, r1, r2, r3⟩ := F; exact ⟨c, A, r1, r2, fun i hi => by rw [q i hi]; exact r3 i hi⟩
theorem own_clamp {j : Int32} {i : Nat} (hj : j.toInt = (i : Int)) : j.toNatClampNeg = i ∧ ¬ j < 0 := by
  have q0 : (0 : Int32).toInt = 0 := rfl
  exact ⟨by unfold Int32.toNatClampNeg; omega, by rw [Int32.lt_iff_toInt_lt]; omega⟩
theorem own_inb {cl : Cell} {j : Int32} {i : Nat} (hj : j.toInt = (i : Int)) (S : cl.slots.size = n) (hi : i < n) : ¬ (j < 0 ∨ cl.slots.size ≤ j.toNatClampNeg) := by
  obtain ⟨q1, q2⟩ := own_clamp hj
  rw [q1]; rintro (q | q)
  · exact q2 q
  · omega
theorem own_AV.new {k : ClassId} {z : Int32} (A : Arr Z h a (newA k ty z) ty) (hz : z.toInt = (n : Int)) : own_AV Z h a ty n (fun _ => defaultValue ty) := by
  obtain ⟨q1, q2⟩ := own_clamp hz
  have hb := z.toInt_lt
  refine ⟨_, A, by rw [sz_new]; exact q1, by omega, fun i hi => ?_⟩
  simp [newA, q1, hi]
theorem own_ldI (X : Stand p l e R s m args below meth c T locs cells slots) (hx : p.tables.exec = Jvm.exec) (hZ : Z.Warmed39 s.vm) (eT : T.heap = h) (F : own_AV Z h a .int n f) {j : Int32} (i : Nat) (hj : j.toInt = (i : Int)) (hi : i < n) {g : JFrame} (hg : g.method = m) {rest : List Value} (hs : g.stack = .int j :: .ref a :: rest) (hd : decode c.code g.pc = .ok (.iaload, 1)) :
    ∀ t, Steps p.tables e below (T.setTop { g with pc := g.pc + 1, stack := f i :: rest }) t → Steps p.tables e below (T.setTop g) t := fun t k => by
  obtain ⟨cl, A, S, -, H⟩ := F
  exact X.iaload hx (by rw [eT]; exact A.1) (State.isArrayOf_alike hZ.alike A.2.1) A.2.2 (own_inb hj S hi) (by rw [(own_clamp hj).1]; exact H i hi) hg hs hd t k
theorem own_ldS (X : Stand p l e R s m args below meth c T locs cells slots) (hx : p.tables.exec = Jvm.exec) (hZ : Z.Warmed39 s.vm) (eT : T.heap = h) (F : own_AV Z h a .short n f) {j : Int32} (i : Nat) (hj : j.toInt = (i : Int)) (hi : i < n) {g : JFrame} (hg : g.method = m) {rest : List Value} (hs : g.stack = .int j :: .ref a :: rest) (hd : decode c.code g.pc = .ok (.saload, 1)) :
    ∀ t, Steps p.tables e below (T.setTop { g with pc := g.pc + 1, stack := f i :: rest }) t → Steps p.tables e below (T.setTop g) t := fun t k => by
  obtain ⟨cl, A, S, -, H⟩ := F
  exact X.saload hx (by rw [eT]; exact A.1) (State.isArrayOf_alike hZ.alike A.2.1) A.2.2 (own_inb hj S hi) (by rw [(own_clamp hj).1]; exact H i hi) hg hs hd t k
theorem own_ldC (X : Stand p l e R s m args below meth c T locs cells slots) (hx : p.tables.exec = Jvm.exec) (hZ : Z.Warmed39 s.vm) (eT : T.heap = h) (F : own_AV Z h a .char n f) {j : Int32} (i : Nat) (hj : j.toInt = (i : Int)) (hi : i < n) {g : JFrame} (hg : g.method = m) {rest : List Value} (hs : g.stack = .int j :: .ref a :: rest) (hd : decode c.code g.pc = .ok (.caload, 1)) :
    ∀ t, Steps p.tables e below (T.setTop { g with pc := g.pc + 1, stack := f i :: rest }) t → Steps p.tables e below (T.setTop g) t := fun t k => by
  obtain ⟨cl, A, S, -, H⟩ := F
  exact X.caload hx (by rw [eT]; exact A.1) (State.isArrayOf_alike hZ.alike A.2.1) A.2.2 (own_inb hj S hi) (by rw [(own_clamp hj).1]; exact H i hi) hg hs hd t k
theorem own_ldJ (X : Stand p l e R s m args below meth c T locs cells slots) (hx : p.tables.exec = Jvm.exec) (hZ : Z.Warmed39 s.vm) (eT : T.heap = h) (F : own_AV Z h a .long n f) {j : Int32} (i : Nat) (hj : j.toInt = (i : Int)) (hi : i < n) {g : JFrame} (hg : g.method = m) {rest : List Value} (hs : g.stack = .int j :: .ref a :: rest) (hd : decode c.code g.pc = .ok (.laload, 1)) :
    ∀ t, Steps p.tables e below (T.setTop { g with pc := g.pc + 1, stack := f i :: rest }) t → Steps p.tables e below (T.setTop g) t := fun t k => by
  obtain ⟨cl, A, S, -, H⟩ := F
  exact X.laload hx (by rw [eT]; exact A.1) (State.isArrayOf_alike hZ.alike A.2.1) A.2.2 (own_inb hj S hi) (by rw [(own_clamp hj).1]; exact H i hi) hg hs hd t k
theorem own_len (X : Stand p l e R s m args below meth c T locs cells slots) (hx : p.tables.exec = Jvm.exec) (hZ : Z.Warmed39 s.vm) (eT : T.heap = h) (F : own_AV Z h a ty n f) (z : Int32) (hz : z.toInt = (n : Int)) {g : JFrame} (hg : g.method = m) {rest : List Value} (hs : g.stack = .ref a :: rest) (hd : decode c.code g.pc = .ok (.arraylength, 1)) :
    ∀ t, Steps p.tables e below (T.setTop { g with pc := g.pc + 1, stack := .int z :: rest }) t → Steps p.tables e below (T.setTop g) t := fun t k => by
  obtain ⟨cl, A, S, q, H⟩ := F
  have e1 : cl.slots.size.toInt32 = z := by
    rw [S]; apply Int32.toInt_inj.mp; rw [hz]; exact len_toInt q
  refine X.arraylength hx (by rw [eT]; exact A.1) (State.isArrayOf_alike hZ.alike A.2.1) hg hs hd t ?_
  rw [e1]; exact k
theorem own_AV.set {h' : Heap} {cl : Cell} {j : Int32} {i : Nat} {w : Value} (A : Arr Z h a cl ty) (S : cl.slots.size = n) (q : n < 2 ^ 31) (H : ∀ i, i < n → cl.slots[i]? = some (f i)) (hj : j.toInt = (i : Int)) (hi : i < n) (W : Wr h h' a j.toNatClampNeg w) : own_AV Z h' a ty n (own_upd f i w) := by
  rw [(own_clamp hj).1] at W
  refine ⟨_, A.same W, by rw [sz_set]; exact S, q, fun k hk => ?_⟩
  by_cases e : k = i
  · subst e; rw [own_upd_hit]; simp [Cell.setSlot, S, hi]
  · rw [own_upd_miss _ _ e]; simp only [Cell.setSlot]; rw [Array.getElem?_setIfInBounds_ne (Ne.symm e)]; exact H k hk
theorem own_stI {g0 : Nat → Int32} (X : Stand p l e R s m args below meth c T locs cells slots) (hx : p.tables.exec = Jvm.exec) (hZ : Z.Warmed39 s.vm) (eT : T.heap = h) (F : own_AI Z h a .int n g0) {j x : Int32} (i : Nat) (hj : j.toInt = (i : Int)) (hi : i < n) {g : JFrame} (hg : g.method = m) {rest : List Value} (hs : g.stack = .int x :: .int j :: .ref a :: rest) (hd : decode c.code g.pc = .ok (.iastore, 1)) :
    ∃ T' h', Stand p l e R s m args below meth c T' (locs ++ [⟨a, j.toNatClampNeg⟩]) cells slots ∧ T'.heap = h' ∧ Wr h h' a j.toNatClampNeg (.int x) ∧ own_AI Z h' a .int n (own_upd g0 i x) ∧ ∀ t, Steps p.tables e below (T'.setTop { g with pc := g.pc + 1, stack := rest }) t → Steps p.tables e below (T.setTop g) t := by
  obtain ⟨cl, A, S, q, H⟩ := F
  obtain ⟨T', h', X', e', W, st⟩ := stI X hx hZ eT A (own_inb hj S hi) hg hs hd
  exact ⟨T', h', X', e', W, (own_AV.set A S q H hj hi W).cong fun k _ => by simp only [own_upd]; split <;> rfl, st⟩
theorem own_stS {g0 : Nat → Int32} (X : Stand p l e R s m args below meth c T locs cells slots) (hx : p.tables.exec = Jvm.exec) (hZ : Z.Warmed39 s.vm) (eT : T.heap = h) (F : own_AI Z h a .short n g0) {j x : Int32} (i : Nat) (hj : j.toInt = (i : Int)) (hi : i < n) {g : JFrame} (hg : g.method = m) {rest : List Value} (hs : g.stack = .int x :: .int j :: .ref a :: rest) (hd : decode c.code g.pc = .ok (.sastore, 1)) :
    ∃ T' h', Stand p l e R s m args below meth c T' (locs ++ [⟨a, j.toNatClampNeg⟩]) cells slots ∧ T'.heap = h' ∧ Wr h h' a j.toNatClampNeg (.int (nar .short x)) ∧ own_AI Z h' a .short n (own_upd g0 i (nar .short x)) ∧ ∀ t, Steps p.tables e below (T'.setTop { g with pc := g.pc + 1, stack := rest }) t → Steps p.tables e below (T.setTop g) t := by
  obtain ⟨cl, A, S, q, H⟩ := F
  obtain ⟨T', h', X', e', W, st⟩ := stS X hx hZ eT A (own_inb hj S hi) hg hs hd
  exact ⟨T', h', X', e', W, (own_AV.set A S q H hj hi W).cong fun k _ => by simp only [own_upd]; split <;> rfl, st⟩
theorem own_stC {g0 : Nat → Int32} (X : Stand p l e R s m args below meth c T locs cells slots) (hx : p.tables.exec = Jvm.exec) (hZ : Z.Warmed39 s.vm) (eT : T.heap = h) (F : own_AI Z h a .char n g0) {j x : Int32} (i : Nat) (hj : j.toInt = (i : Int)) (hi : i < n) {g : JFrame} (hg : g.method = m) {rest : List Value} (hs : g.stack = .int x :: .int j :: .ref a :: rest) (hd : decode c.code g.pc = .ok (.castore, 1)) :
    ∃ T' h', Stand p l e R s m args below meth c T' (locs ++ [⟨a, j.toNatClampNeg⟩]) cells slots ∧ T'.heap = h' ∧ Wr h h' a j.toNatClampNeg (.int (nar .char x)) ∧ own_AI Z h' a .char n (own_upd g0 i (nar .char x)) ∧ ∀ t, Steps p.tables e below (T'.setTop { g with pc := g.pc + 1, stack := rest }) t → Steps p.tables e below (T.setTop g) t := by
  obtain ⟨cl, A, S, q, H⟩ := F
  obtain ⟨T', h', X', e', W, st⟩ := stC X hx hZ eT A (own_inb hj S hi) hg hs hd
  exact ⟨T', h', X', e', W, (own_AV.set A S q H hj hi W).cong fun k _ => by simp only [own_upd]; split <;> rfl, st⟩
theorem own_stJ {g0 : Nat → Int64} (X : Stand p l e R s m args below meth c T locs cells slots) (hx : p.tables.exec = Jvm.exec) (hZ : Z.Warmed39 s.vm) (eT : T.heap = h) (F : own_AJ Z h a n g0) {j : Int32} {x : Int64} (i : Nat) (hj : j.toInt = (i : Int)) (hi : i < n) {g : JFrame} (hg : g.method = m) {rest : List Value} (hs : g.stack = .long x :: .int j :: .ref a :: rest) (hd : decode c.code g.pc = .ok (.lastore, 1)) :
    ∃ T' h', Stand p l e R s m args below meth c T' (locs ++ [⟨a, j.toNatClampNeg⟩]) cells slots ∧ T'.heap = h' ∧ Wr h h' a j.toNatClampNeg (.long x) ∧ own_AJ Z h' a n (own_upd g0 i x) ∧ ∀ t, Steps p.tables e below (T'.setTop { g with pc := g.pc + 1, stack := rest }) t → Steps p.tables e below (T.setTop g) t := by
  obtain ⟨cl, A, S, q, H⟩ := F
  obtain ⟨T', h', X', e', W, st⟩ := stJ X hx hZ eT A (own_inb hj S hi) hg hs hd
  exact ⟨T', h', X', e', W, (own_AV.set A S q H hj hi W).cong fun k _ => by simp only [own_upd]; split <;> rfl, st⟩
theorem own_newA (X : Stand p l e R s m args below meth c T locs cells slots) (hx : p.tables.exec = Jvm.exec) (hZ : Z.Warmed39 s.vm) {aty : ArrayType} (w : (Cond.arrayClass (newarray.typeOf aty)).before a0 Z = true) (eT : T.heap = h) {z : Int32} (hz : z.toInt = (n : Int)) {cap : Nat} (hcap : n ≤ cap) {g : JFrame} (hg : g.method = m) (hd : decode c.code g.pc = .ok (.newarray aty, 2)) {rest : List Value} (hs : g.stack = .int z :: rest)
    (hb : cap * 8 ≤ 536870912) (hc : cells + 1 ≤ R.cells) (hl : slots + cap ≤ R.slots) {ad : String} (had : "[" ++ (newarray.typeOf aty).toString = ad) :
    ∃ T' h' b, b = h.size ∧ Stand p l e R s m args below meth c T' locs (cells + 1) (slots + cap) ∧ T'.heap = h' ∧ Ext h h' ∧ own_AV Z h' b (newarray.typeOf aty) n (fun _ => defaultValue (newarray.typeOf aty)) ∧ Exa Z h' b ad ∧
      ∀ t, Steps p.tables e below (T'.setTop { g with pc := g.pc + 2, stack := .ref b :: rest }) t → Steps p.tables e below (T.setTop g) t := by
  obtain ⟨q1, q2⟩ := own_clamp hz
  obtain ⟨T', h', k, X', e', E, A, Ea, st⟩ := newPE X hx hZ w eT hg hd hs q2 (by rw [q1]; exact hcap) hb hc hl had
  exact ⟨T', h', _, rfl, X', e', E, own_AV.new A hz, Ea, st⟩
end Own
def own_two {α : Type} (x y : α) : Nat → α
  | 0 => x
  | _ => y
theorem own_two_0 {α : Type} (x y : α) : own_two x y 0 = x := rfl
theorem own_two_1 {α : Type} (x y : α) : own_two x y 1 = y := rfl
theorem own_nlt {i n : Nat} (hi : i < n) (hn : n < 2 ^ 31) : i.toInt32 < n.toInt32 := by
  rw [Int32.lt_iff_toInt_lt, len_toInt hn, len_toInt (by omega)]; omega
theorem own_nge {i n : Nat} (hi : n ≤ i) (hn : i < 2 ^ 31) : ¬ i.toInt32 < n.toInt32 := by
  rw [Int32.lt_iff_toInt_lt, len_toInt hn, len_toInt (by omega)]; omega
theorem own_nsucc {i : Nat} (hn : i + 1 < 2 ^ 31) : i.toInt32 + (1 : Int32) = (i + 1).toInt32 := by
  have e1 : (1 : Int32).toInt = 1 := rfl
  have h1 := c_iadd i.toInt32 1
  have h2 := rng32 (i.toInt32 + 1)
  rw [← Int32.toInt_inj, len_toInt hn]
  rw [len_toInt (by omega), e1] at h1
  omega
theorem own_and3 (x : Int32) : (x &&& (3 : Int32)) = 0 ∨ (x &&& (3 : Int32)) = 1 ∨ (x &&& (3 : Int32)) = 2 ∨ (x &&& (3 : Int32)) = 3 := by
  have h := c_mask x 3 2 (by decide) (by decide)
  have e : ((2 ^ 2 : Nat) : Int) = 4 := by decide
  rw [e] at h
  have e0 : (0 : Int32).toInt = 0 := rfl
  have e1 : (1 : Int32).toInt = 1 := rfl
  have e2 : (2 : Int32).toInt = 2 := rfl
  have e3 : (3 : Int32).toInt = 3 := rfl
  simp only [← Int32.toInt_inj]
  omega
theorem own_i0 : (0 : Int32).toInt = 0 := rfl
theorem own_i1 : (1 : Int32).toInt = 1 := rfl
theorem own_i2 : (2 : Int32).toInt = 2 := rfl
theorem own_i3 : (3 : Int32).toInt = 3 := rfl
theorem own_m3 (x : Int32) : ((x &&& (3 : Int32)) % (3 : Int32)) = 0 ∨ ((x &&& (3 : Int32)) % (3 : Int32)) = 1 ∨ ((x &&& (3 : Int32)) % (3 : Int32)) = 2 := by
  have h := c_mask x 3 2 (by decide) (by decide)
  have e : ((2 ^ 2 : Nat) : Int) = 4 := by decide
  rw [e] at h
  have h2 := (c_irem (x &&& (3 : Int32)) 3 3 rfl).1 (by omega)
  simp only [← Int32.toInt_inj, own_i0, own_i1, own_i2]
  omega
theorem own_toN (z : Int32) (h : 0 ≤ z.toInt) : z = z.toInt.toNat.toInt32 := by
  have r := rng32 z
  rw [← Int32.toInt_inj, len_toInt (by omega)]; omega
theorem own_n (mm : Int32) (M : Nat) (hM : mm.toInt = (M : Int)) (h2 : M ≤ 2) (y : Int32) : ∃ n : Nat, (if (mm + (y &&& (3 : Int32))) < (3 : Int32) then (mm + (y &&& (3 : Int32))) else (3 : Int32)) = n.toInt32 ∧ M ≤ n ∧ n ≤ 3 := by
  have h := c_mask y 3 2 (by decide) (by decide)
  have e : ((2 ^ 2 : Nat) : Int) = 4 := by decide
  rw [e] at h
  have h1 := c_iadd mm (y &&& (3 : Int32))
  have r := rng32 (mm + (y &&& (3 : Int32)))
  have h3 := own_i3
  split
  · rename_i q
    rw [Int32.lt_iff_toInt_lt] at q
    exact ⟨(mm + (y &&& (3 : Int32))).toInt.toNat, own_toN _ (by omega), by omega, by omega⟩
  · exact ⟨3, rfl, by omega, by omega⟩
theorem own_u (n : Nat) (hn : n ≤ 3) (y : Int32) : ∃ u : Nat, (if (0 : Int32) < n.toInt32 then ((y &&& (7 : Int32)) % n.toInt32) else (0 : Int32)) = u.toInt32 ∧ (0 < n → u < n) ∧ u ≤ 3 := by
  have h := c_mask y 7 3 (by decide) (by decide)
  have e : ((2 ^ 3 : Nat) : Int) = 8 := by decide
  rw [e] at h
  have hl : n.toInt32.toInt = n := len_toInt (by omega)
  split
  · rename_i q
    rw [Int32.lt_iff_toInt_lt, hl, own_i0] at q
    have k := (c_iremV (y &&& (7 : Int32)) n.toInt32).1 (by omega) (by omega)
    rw [hl] at k
    exact ⟨((y &&& (7 : Int32)) % n.toInt32).toInt.toNat, own_toN _ (by omega), by omega, by omega⟩
  · rename_i q
    rw [Int32.lt_iff_toInt_lt, hl, own_i0] at q
    exact ⟨0, rfl, by omega, by omega⟩
theorem own_v (n u : Nat) (hn : n ≤ 3) (hu : 0 < n → u < n) (y : Int32) : ∃ v : Nat, (if (1 : Int32) < n.toInt32 then (((u.toInt32 + (1 : Int32)) + ((y &&& (7 : Int32)) % (n.toInt32 - (1 : Int32)))) % n.toInt32) else (0 : Int32)) = v.toInt32 ∧ (1 < n → v < n ∧ v ≠ u) ∧ v ≤ 3 := by
  have h := c_mask y 7 3 (by decide) (by decide)
  have e : ((2 ^ 3 : Nat) : Int) = 8 := by decide
  rw [e] at h
  have hl : n.toInt32.toInt = n := len_toInt (by omega)
  split
  · rename_i q
    rw [Int32.lt_iff_toInt_lt, hl, own_i1] at q
    have hul : u.toInt32.toInt = u := len_toInt (by omega)
    have hu' := hu (by omega)
    have s1 := c_isub n.toInt32 1
    have r1 := rng32 (n.toInt32 - 1)
    rw [hl, own_i1] at s1
    have k := (c_iremV (y &&& (7 : Int32)) (n.toInt32 - 1)).1 (by omega) (by omega)
    have s2 := c_iadd u.toInt32 1
    have r2 := rng32 (u.toInt32 + 1)
    rw [hul, own_i1] at s2
    have s3 := c_iadd (u.toInt32 + 1) ((y &&& (7 : Int32)) % (n.toInt32 - 1))
    have r3 := rng32 ((u.toInt32 + 1) + ((y &&& (7 : Int32)) % (n.toInt32 - 1)))
    have k2 := (c_iremV ((u.toInt32 + 1) + ((y &&& (7 : Int32)) % (n.toInt32 - 1))) n.toInt32).1 (by omega) (by omega)
    rw [hl] at k2
    obtain ⟨k21, k22, k23, k24, k25⟩ := k2
    refine ⟨_, own_toN _ k21, fun _ => ⟨by omega, ?_⟩, by omega⟩
    by_cases c : ((u.toInt32 + 1) + ((y &&& (7 : Int32)) % (n.toInt32 - 1))).toInt < n
    · have := k24 c; omega
    · have := k25 (by omega) (by omega); omega
  · rename_i q
    rw [Int32.lt_iff_toInt_lt, hl, own_i1] at q
    exact ⟨0, rfl, by omega, by omega⟩
theorem own_12n (n : Nat) (hn : n ≤ 3) (z : Int32) (hz : z.toInt = (n : Int)) : ((1 : Int32) + ((2 : Int32) * z)).toInt = ((1 + 2 * n : Nat) : Int) := by
  have a1 := c_imul 2 z
  have a2 := c_iadd 1 ((2 : Int32) * z)
  have r1 := rng32 ((2 : Int32) * z)
  have r2 := rng32 ((1 : Int32) + ((2 : Int32) * z))
  rw [own_i2, hz] at a1
  rw [own_i1] at a2
  omega
theorem own_add {a b : Int32} {i j : Nat} (ha : a.toInt = (i : Int)) (hb : b.toInt = (j : Int)) (h : i + j < 2 ^ 31) : (a + b).toInt = ((i + j : Nat) : Int) := by
  have a1 := c_iadd a b
  have r := rng32 (a + b)
  omega
def own_exp (j m a b x y : Int32) : Int32 := if ¬ m < (1 : Int32) ∧ a = j then x else if ¬ m < (2 : Int32) ∧ b = j then y else (0 : Int32)
theorem own_eqi {a b : Int32} {i j : Nat} (ha : a.toInt = (i : Int)) (hb : b.toInt = (j : Int)) : a = b ↔ i = j := by rw [← Int32.toInt_inj, ha, hb]; omega
theorem own_e0 (j a b x y : Int32) : own_exp j 0 a b x y = 0 := by simp [own_exp]
theorem own_e1 {j a b x y : Int32} {i u : Nat} (hj : j.toInt = (i : Int)) (ha : a.toInt = (u : Int)) : own_exp j 1 a b x y = if u = i then x else 0 := by
  have q := own_eqi ha hj
  have d1 : ¬ (1 : Int32) < 1 := by decide
  have d2 : (1 : Int32) < 2 := by decide
  by_cases c : u = i
  · rw [own_exp, if_pos ⟨d1, q.mpr c⟩, if_pos c]
  · rw [own_exp, if_neg (fun z => c (q.mp z.2)), if_neg (fun z => z.1 d2), if_neg c]
theorem own_e2 {j a b x y : Int32} {i u v : Nat} (hj : j.toInt = (i : Int)) (ha : a.toInt = (u : Int)) (hb : b.toInt = (v : Int)) : own_exp j 2 a b x y = if u = i then x else if v = i then y else 0 := by
  have q := own_eqi ha hj
  have q' := own_eqi hb hj
  have d1 : ¬ (2 : Int32) < 1 := by decide
  have d2 : ¬ (2 : Int32) < 2 := by decide
  by_cases c : u = i
  · rw [own_exp, if_pos ⟨d1, q.mpr c⟩, if_pos c]
  · rw [own_exp, if_neg (fun z => c (q.mp z.2)), if_neg c]
    by_cases c' : v = i
    · rw [if_pos ⟨d2, q'.mpr c'⟩, if_pos c']
    · rw [if_neg (fun z => c' (q'.mp z.2)), if_neg c']
theorem own_d1_0 : decode jdk_29_method_69_code 0 = .ok (.iload_n 0, 1) := by decide +kernel
theorem own_d1_1 : decode jdk_29_method_69_code 1 = .ok (.iload_n 1, 1) := by decide +kernel
theorem own_d1_2 : decode jdk_29_method_69_code 2 = .ok (.if_icmp .gt 7, 3) := by decide +kernel
theorem own_d1_5 : decode jdk_29_method_69_code 5 = .ok (.iload_n 0, 1) := by decide +kernel
theorem own_d1_6 : decode jdk_29_method_69_code 6 = .ok (.goto 4, 3) := by decide +kernel
theorem own_d1_9 : decode jdk_29_method_69_code 9 = .ok (.iload_n 1, 1) := by decide +kernel
theorem own_d1_10 : decode jdk_29_method_69_code 10 = .ok (.ireturn, 1) := by decide +kernel
theorem own_ef1 (m : MethodId) (p1 : Int32) (p2 : Int32) : entryFrame m #[(.int p1), (.int p2)] 2 = mkF m 0 #[.val (.int p1), .val (.int p2)] [] := by first | (simp [entryFrame, mkF, argsToLocals, Value.category]; done) | rfl
def own_Q1 (Z : State) (p1 p2 : Int32) (h0 : Heap) (n0 : Nat) (v : Option Value) (h : Heap) (L : List Loc) : Prop := v = some (.int (if p2 < p1 then p2 else p1)) ∧ Fr n0 L ∧ h = h0
set_option maxRecDepth 65536 in
set_option maxHeartbeats 40000000 in
theorem own_rm1 (l : Launch) (Z : State) (a0 : Array Value) (hw : ∀ d ∈ tables_1, d.before a0 Z = true) (ws : List Jvm.Cond) (p1 p2 : Int32) (h0 : Heap) (n0 : Nat) (Z0 : n0 ≤ h0.size) :
    MetFree l (⟨"java/lang/Math", "min", "(II)I"⟩ : MethodName) (head1 (Jvm.Cond.code (⟨"java/lang/Math", "min", "(II)I"⟩ : MethodName) jdk_29_method_69_code 2 (some .int) :: ws) ({ frames := 0, cells := 0, slots := 0, locals := 0 } : Room)) (fun a U => a = #[(.int p1), (.int p2)] ∧ Z.Warmed39 U.vm ∧ U.heap = h0) (fun _ _ _ _ _ => True) (fun _ U o U' => ∃ v L, o = .returned v ∧ own_Q1 Z p1 p2 h0 n0 v U'.heap L ∧ FrameEnd U o U' L ({ frames := 0, cells := 0, slots := 0, locals := 0 } : Room).cells ({ frames := 0, cells := 0, slots := 0, locals := 0 } : Room).slots) := by
  refine MetFree.of_bodySF (Jvm.Free.JP.mathPlain rfl (by decide +kernel)) hisR ?_
  intro p e s m args below meth c s₁ Bd hml0 hP hK
  obtain ⟨rfl, hZ, hh⟩ := hP
  have hx := Bd.exec
  have hby := Bd.bytes
  have hml : c.maxLocals = 2 := hml0
  have hown : s.vm.findClass "java/lang/Math" = some m.cls := findClass_of_methodNamed Bd.named
  have hnm := (name_of_methodNamed Bd.named Bd.method).1
  have X0 : Stand p l e ({ frames := 0, cells := 0, slots := 0, locals := 0 } : Room) s m #[(.int p1), (.int p2)] below meth c s₁ [] 0 0 := Stand.of_body Bd
  have e0 : s₁.heap = h0 := by rw [← hh, Bd.state]; rfl
  have N0 := Fr.nil n0
  refine own_nm (st := s₁.setTop (entryFrame m #[(.int p1), (.int p2)] 2)) fun P fin => ?_
  refine own_fwd (fun tt kt => castTop (own_ef1 m p1 p2) kt) ?_
  show own_R p.tables e below P (s₁.setTop (mkF m 0 #[.val (.int p1), .val (.int p2)] []))
  refine own_fwd (fun tt kt => XS.iloadN X0.here hx rfl (hb hby own_d1_0) rfl kt) ?_
  show own_R p.tables e below P (s₁.setTop (mkF m 1 #[.val (.int p1), .val (.int p2)] [(.int p1)]))
  refine own_fwd (fun tt kt => XS.iloadN X0.here hx rfl (hb hby own_d1_1) rfl kt) ?_
  show own_R p.tables e below P (s₁.setTop (mkF m 2 #[.val (.int p1), .val (.int p2)] [(.int p2), (.int p1)]))
  by_cases hc1 : p2 < p1
  · refine own_fwd (fun tt kt => XS.icmpYes X0.here hx rfl (pc0 := 2) (pc' := 9) rfl (hb hby own_d1_2) rfl (tlt hc1).2.2.1 (by decide) (by decide) kt) ?_
    show own_R p.tables e below P (s₁.setTop (mkF m 9 #[.val (.int p1), .val (.int p2)] []))
    refine own_fwd (fun tt kt => XS.iloadN X0.here hx rfl (hb hby own_d1_9) rfl kt) ?_
    show own_R p.tables e below P (s₁.setTop (mkF m 10 #[.val (.int p1), .val (.int p2)] [(.int p2)]))
    obtain ⟨fs2, hr2, hrun2, hended2, hW2, hsame2⟩ := X0.leave (v := some (.int p2)) (fun h => by rw [Bd.returns] at h; cases h)
    refine ⟨_, _, X0.ireturnOut hx (w := p2) Bd.returns rfl (by simp) (hb hby own_d1_10) hr2, fin _ _ ⟨hrun2, hended2, _, _, rfl, ?_, ⟨_, rfl⟩, hW2, hsame2.mono (by decide) (by decide)⟩⟩
    show own_Q1 Z p1 p2 h0 n0 _ s₁.heap _
    rw [e0]
    exact ⟨by rw [if_pos hc1], N0, rfl⟩
  · refine own_fwd (fun tt kt => XS.icmpNo X0.here hx rfl (hb hby own_d1_2) rfl (flt hc1).2.2.1 kt) ?_
    show own_R p.tables e below P (s₁.setTop (mkF m 5 #[.val (.int p1), .val (.int p2)] []))
    refine own_fwd (fun tt kt => XS.iloadN X0.here hx rfl (hb hby own_d1_5) rfl kt) ?_
    show own_R p.tables e below P (s₁.setTop (mkF m 6 #[.val (.int p1), .val (.int p2)] [(.int p1)]))
    refine own_fwd (fun tt kt => XS.goto X0.here hx rfl (pc0 := 6) (pc' := 10) rfl (hb hby own_d1_6) (by decide) (by decide) kt) ?_
    show own_R p.tables e below P (s₁.setTop (mkF m 10 #[.val (.int p1), .val (.int p2)] [(.int p1)]))
    obtain ⟨fs3, hr3, hrun3, hended3, hW3, hsame3⟩ := X0.leave (v := some (.int p1)) (fun h => by rw [Bd.returns] at h; cases h)
    refine ⟨_, _, X0.ireturnOut hx (w := p1) Bd.returns rfl (by simp) (hb hby own_d1_10) hr3, fin _ _ ⟨hrun3, hended3, _, _, rfl, ?_, ⟨_, rfl⟩, hW3, hsame3.mono (by decide) (by decide)⟩⟩
    show own_Q1 Z p1 p2 h0 n0 _ s₁.heap _
    rw [e0]
    exact ⟨by rw [if_neg hc1], N0, rfl⟩
theorem own_d4_0 : decode method_3_code 0 = .ok (.iload_n 1, 1) := by decide +kernel
theorem own_d4_1 : decode method_3_code 1 = .ok (.iconst 1, 1) := by decide +kernel
theorem own_d4_2 : decode method_3_code 2 = .ok (.if_icmp .lt 11, 3) := by decide +kernel
theorem own_d4_5 : decode method_3_code 5 = .ok (.iload_n 2, 1) := by decide +kernel
theorem own_d4_6 : decode method_3_code 6 = .ok (.iload_n 0, 1) := by decide +kernel
theorem own_d4_7 : decode method_3_code 7 = .ok (.if_icmp .ne 6, 3) := by decide +kernel
theorem own_d4_10 : decode method_3_code 10 = .ok (.iload 4, 2) := by decide +kernel
theorem own_d4_12 : decode method_3_code 12 = .ok (.ireturn, 1) := by decide +kernel
theorem own_d4_13 : decode method_3_code 13 = .ok (.iload_n 1, 1) := by decide +kernel
theorem own_d4_14 : decode method_3_code 14 = .ok (.iconst 2, 1) := by decide +kernel
theorem own_d4_15 : decode method_3_code 15 = .ok (.if_icmp .lt 11, 3) := by decide +kernel
theorem own_d4_18 : decode method_3_code 18 = .ok (.iload_n 3, 1) := by decide +kernel
theorem own_d4_19 : decode method_3_code 19 = .ok (.iload_n 0, 1) := by decide +kernel
theorem own_d4_20 : decode method_3_code 20 = .ok (.if_icmp .ne 6, 3) := by decide +kernel
theorem own_d4_23 : decode method_3_code 23 = .ok (.iload 5, 2) := by decide +kernel
theorem own_d4_25 : decode method_3_code 25 = .ok (.ireturn, 1) := by decide +kernel
theorem own_d4_26 : decode method_3_code 26 = .ok (.iconst 0, 1) := by decide +kernel
theorem own_d4_27 : decode method_3_code 27 = .ok (.ireturn, 1) := by decide +kernel
theorem own_pn0 : plainName "com/example/tracefold/tracefold/PlaceProgramMovedPinLaw" = true := by first | (simp [plainName, overriddenIn]; done) | decide +kernel
theorem own_ef4 (m : MethodId) (p0 : Int32) (p1 : Int32) (p2 : Int32) (p3 : Int32) (p4 : Int32) (p5 : Int32) : entryFrame m #[(.int p0), (.int p1), (.int p2), (.int p3), (.int p4), (.int p5)] 6 = mkF m 0 #[.val (.int p0), .val (.int p1), .val (.int p2), .val (.int p3), .val (.int p4), .val (.int p5)] [] := by first | (simp [entryFrame, mkF, argsToLocals, Value.category]; done) | rfl
def own_Q4 (Z : State) (p0 p1 p2 p3 p4 p5 : Int32) (h0 : Heap) (n0 : Nat) (v : Option Value) (h : Heap) (L : List Loc) : Prop := v = some (.int (own_exp p0 p1 p2 p3 p4 p5)) ∧ Fr n0 L ∧ h = h0
set_option maxRecDepth 65536 in
set_option maxHeartbeats 40000000 in
theorem own_rm4 (l : Launch) (Z : State) (a0 : Array Value) (hw : ∀ d ∈ tables_1, d.before a0 Z = true) (ws : List Jvm.Cond) (p0 p1 p2 p3 p4 p5 : Int32) (h0 : Heap) (n0 : Nat) (Z0 : n0 ≤ h0.size) :
    MetFree l (⟨"com/example/tracefold/tracefold/PlaceProgramMovedPinLaw", "expected", "(IIIIII)I"⟩ : MethodName) (head1 (Jvm.Cond.code (⟨"com/example/tracefold/tracefold/PlaceProgramMovedPinLaw", "expected", "(IIIIII)I"⟩ : MethodName) method_3_code 6 (some .int) :: ws) ({ frames := 0, cells := 0, slots := 0, locals := 0 } : Room)) (fun a U => a = #[(.int p0), (.int p1), (.int p2), (.int p3), (.int p4), (.int p5)] ∧ Z.Warmed39 U.vm ∧ U.heap = h0) (fun _ _ _ _ _ => True) (fun _ U o U' => ∃ v L, o = .returned v ∧ own_Q4 Z p0 p1 p2 p3 p4 p5 h0 n0 v U'.heap L ∧ FrameEnd U o U' L ({ frames := 0, cells := 0, slots := 0, locals := 0 } : Room).cells ({ frames := 0, cells := 0, slots := 0, locals := 0 } : Room).slots) := by
  refine MetFree.of_bodySF (plainFor_of_name own_pn0) hisR ?_
  intro p e s m args below meth c s₁ Bd hml0 hP hK
  obtain ⟨rfl, hZ, hh⟩ := hP
  have hx := Bd.exec
  have hby := Bd.bytes
  have hml : c.maxLocals = 6 := hml0
  have hown : s.vm.findClass "com/example/tracefold/tracefold/PlaceProgramMovedPinLaw" = some m.cls := findClass_of_methodNamed Bd.named
  have hnm := (name_of_methodNamed Bd.named Bd.method).1
  have X0 : Stand p l e ({ frames := 0, cells := 0, slots := 0, locals := 0 } : Room) s m #[(.int p0), (.int p1), (.int p2), (.int p3), (.int p4), (.int p5)] below meth c s₁ [] 0 0 := Stand.of_body Bd
  have e0 : s₁.heap = h0 := by rw [← hh, Bd.state]; rfl
  have N0 := Fr.nil n0
  refine own_nm (st := s₁.setTop (entryFrame m #[(.int p0), (.int p1), (.int p2), (.int p3), (.int p4), (.int p5)] 6)) fun P fin => ?_
  refine own_fwd (fun tt kt => castTop (own_ef4 m p0 p1 p2 p3 p4 p5) kt) ?_
  show own_R p.tables e below P (s₁.setTop (mkF m 0 #[.val (.int p0), .val (.int p1), .val (.int p2), .val (.int p3), .val (.int p4), .val (.int p5)] []))
  refine own_fwd (fun tt kt => XS.iloadN X0.here hx rfl (hb hby own_d4_0) rfl kt) ?_
  show own_R p.tables e below P (s₁.setTop (mkF m 1 #[.val (.int p0), .val (.int p1), .val (.int p2), .val (.int p3), .val (.int p4), .val (.int p5)] [(.int p1)]))
  refine own_fwd (fun tt kt => XS.iconst X0.here hx rfl (hb hby own_d4_1) kt) ?_
  show own_R p.tables e below P (s₁.setTop (mkF m 2 #[.val (.int p0), .val (.int p1), .val (.int p2), .val (.int p3), .val (.int p4), .val (.int p5)] [(.int (1 : Int32)), (.int p1)]))
  by_cases hc4 : p1 < (1 : Int32)
  · refine own_fwd (fun tt kt => XS.icmpYes X0.here hx rfl (pc0 := 2) (pc' := 13) rfl (hb hby own_d4_2) rfl (tlt hc4).1 (by decide) (by decide) kt) ?_
    show own_R p.tables e below P (s₁.setTop (mkF m 13 #[.val (.int p0), .val (.int p1), .val (.int p2), .val (.int p3), .val (.int p4), .val (.int p5)] []))
    refine own_fwd (fun tt kt => XS.iloadN X0.here hx rfl (hb hby own_d4_13) rfl kt) ?_
    show own_R p.tables e below P (s₁.setTop (mkF m 14 #[.val (.int p0), .val (.int p1), .val (.int p2), .val (.int p3), .val (.int p4), .val (.int p5)] [(.int p1)]))
    refine own_fwd (fun tt kt => XS.iconst X0.here hx rfl (hb hby own_d4_14) kt) ?_
    show own_R p.tables e below P (s₁.setTop (mkF m 15 #[.val (.int p0), .val (.int p1), .val (.int p2), .val (.int p3), .val (.int p4), .val (.int p5)] [(.int (2 : Int32)), (.int p1)]))
    by_cases hc5 : p1 < (2 : Int32)
    · refine own_fwd (fun tt kt => XS.icmpYes X0.here hx rfl (pc0 := 15) (pc' := 26) rfl (hb hby own_d4_15) rfl (tlt hc5).1 (by decide) (by decide) kt) ?_
      show own_R p.tables e below P (s₁.setTop (mkF m 26 #[.val (.int p0), .val (.int p1), .val (.int p2), .val (.int p3), .val (.int p4), .val (.int p5)] []))
      refine own_fwd (fun tt kt => XS.iconst X0.here hx rfl (hb hby own_d4_26) kt) ?_
      show own_R p.tables e below P (s₁.setTop (mkF m 27 #[.val (.int p0), .val (.int p1), .val (.int p2), .val (.int p3), .val (.int p4), .val (.int p5)] [(.int (0 : Int32))]))
      obtain ⟨fs6, hr6, hrun6, hended6, hW6, hsame6⟩ := X0.leave (v := some (.int (0 : Int32))) (fun h => by rw [Bd.returns] at h; cases h)
      refine ⟨_, _, X0.ireturnOut hx (w := (0 : Int32)) Bd.returns rfl (by simp) (hb hby own_d4_27) hr6, fin _ _ ⟨hrun6, hended6, _, _, rfl, ?_, ⟨_, rfl⟩, hW6, hsame6.mono (by decide) (by decide)⟩⟩
      show own_Q4 Z p0 p1 p2 p3 p4 p5 h0 n0 _ s₁.heap _
      rw [e0]
      exact ⟨by rw [own_exp, if_neg (fun z => z.1 hc4), if_neg (fun z => z.1 hc5)], N0, rfl⟩
    · refine own_fwd (fun tt kt => XS.icmpNo X0.here hx rfl (hb hby own_d4_15) rfl (flt hc5).1 kt) ?_
      show own_R p.tables e below P (s₁.setTop (mkF m 18 #[.val (.int p0), .val (.int p1), .val (.int p2), .val (.int p3), .val (.int p4), .val (.int p5)] []))
      refine own_fwd (fun tt kt => XS.iloadN X0.here hx rfl (hb hby own_d4_18) rfl kt) ?_
      show own_R p.tables e below P (s₁.setTop (mkF m 19 #[.val (.int p0), .val (.int p1), .val (.int p2), .val (.int p3), .val (.int p4), .val (.int p5)] [(.int p3)]))
      refine own_fwd (fun tt kt => XS.iloadN X0.here hx rfl (hb hby own_d4_19) rfl kt) ?_
      show own_R p.tables e below P (s₁.setTop (mkF m 20 #[.val (.int p0), .val (.int p1), .val (.int p2), .val (.int p3), .val (.int p4), .val (.int p5)] [(.int p0), (.int p3)]))
      by_cases hc7 : p3 = p0
      · refine own_fwd (fun tt kt => XS.icmpNo X0.here hx rfl (hb hby own_d4_20) rfl (teq hc7).2 kt) ?_
        show own_R p.tables e below P (s₁.setTop (mkF m 23 #[.val (.int p0), .val (.int p1), .val (.int p2), .val (.int p3), .val (.int p4), .val (.int p5)] []))
        refine own_fwd (fun tt kt => XS.iload X0.here hx rfl (hb hby own_d4_23) rfl kt) ?_
        show own_R p.tables e below P (s₁.setTop (mkF m 25 #[.val (.int p0), .val (.int p1), .val (.int p2), .val (.int p3), .val (.int p4), .val (.int p5)] [(.int p5)]))
        obtain ⟨fs8, hr8, hrun8, hended8, hW8, hsame8⟩ := X0.leave (v := some (.int p5)) (fun h => by rw [Bd.returns] at h; cases h)
        refine ⟨_, _, X0.ireturnOut hx (w := p5) Bd.returns rfl (by simp) (hb hby own_d4_25) hr8, fin _ _ ⟨hrun8, hended8, _, _, rfl, ?_, ⟨_, rfl⟩, hW8, hsame8.mono (by decide) (by decide)⟩⟩
        show own_Q4 Z p0 p1 p2 p3 p4 p5 h0 n0 _ s₁.heap _
        rw [e0]
        exact ⟨by rw [own_exp, if_neg (fun z => z.1 hc4), if_pos ⟨hc5, hc7⟩], N0, rfl⟩
      · refine own_fwd (fun tt kt => XS.icmpYes X0.here hx rfl (pc0 := 20) (pc' := 26) rfl (hb hby own_d4_20) rfl (feq hc7).2 (by decide) (by decide) kt) ?_
        show own_R p.tables e below P (s₁.setTop (mkF m 26 #[.val (.int p0), .val (.int p1), .val (.int p2), .val (.int p3), .val (.int p4), .val (.int p5)] []))
        refine own_fwd (fun tt kt => XS.iconst X0.here hx rfl (hb hby own_d4_26) kt) ?_
        show own_R p.tables e below P (s₁.setTop (mkF m 27 #[.val (.int p0), .val (.int p1), .val (.int p2), .val (.int p3), .val (.int p4), .val (.int p5)] [(.int (0 : Int32))]))
        obtain ⟨fs9, hr9, hrun9, hended9, hW9, hsame9⟩ := X0.leave (v := some (.int (0 : Int32))) (fun h => by rw [Bd.returns] at h; cases h)
        refine ⟨_, _, X0.ireturnOut hx (w := (0 : Int32)) Bd.returns rfl (by simp) (hb hby own_d4_27) hr9, fin _ _ ⟨hrun9, hended9, _, _, rfl, ?_, ⟨_, rfl⟩, hW9, hsame9.mono (by decide) (by decide)⟩⟩
        show own_Q4 Z p0 p1 p2 p3 p4 p5 h0 n0 _ s₁.heap _
        rw [e0]
        exact ⟨by rw [own_exp, if_neg (fun z => z.1 hc4), if_neg (fun z => hc7 z.2)], N0, rfl⟩
  · refine own_fwd (fun tt kt => XS.icmpNo X0.here hx rfl (hb hby own_d4_2) rfl (flt hc4).1 kt) ?_
    show own_R p.tables e below P (s₁.setTop (mkF m 5 #[.val (.int p0), .val (.int p1), .val (.int p2), .val (.int p3), .val (.int p4), .val (.int p5)] []))
    refine own_fwd (fun tt kt => XS.iloadN X0.here hx rfl (hb hby own_d4_5) rfl kt) ?_
    show own_R p.tables e below P (s₁.setTop (mkF m 6 #[.val (.int p0), .val (.int p1), .val (.int p2), .val (.int p3), .val (.int p4), .val (.int p5)] [(.int p2)]))
    refine own_fwd (fun tt kt => XS.iloadN X0.here hx rfl (hb hby own_d4_6) rfl kt) ?_
    show own_R p.tables e below P (s₁.setTop (mkF m 7 #[.val (.int p0), .val (.int p1), .val (.int p2), .val (.int p3), .val (.int p4), .val (.int p5)] [(.int p0), (.int p2)]))
    by_cases hc10 : p2 = p0
    · refine own_fwd (fun tt kt => XS.icmpNo X0.here hx rfl (hb hby own_d4_7) rfl (teq hc10).2 kt) ?_
      show own_R p.tables e below P (s₁.setTop (mkF m 10 #[.val (.int p0), .val (.int p1), .val (.int p2), .val (.int p3), .val (.int p4), .val (.int p5)] []))
      refine own_fwd (fun tt kt => XS.iload X0.here hx rfl (hb hby own_d4_10) rfl kt) ?_
      show own_R p.tables e below P (s₁.setTop (mkF m 12 #[.val (.int p0), .val (.int p1), .val (.int p2), .val (.int p3), .val (.int p4), .val (.int p5)] [(.int p4)]))
      obtain ⟨fs11, hr11, hrun11, hended11, hW11, hsame11⟩ := X0.leave (v := some (.int p4)) (fun h => by rw [Bd.returns] at h; cases h)
      refine ⟨_, _, X0.ireturnOut hx (w := p4) Bd.returns rfl (by simp) (hb hby own_d4_12) hr11, fin _ _ ⟨hrun11, hended11, _, _, rfl, ?_, ⟨_, rfl⟩, hW11, hsame11.mono (by decide) (by decide)⟩⟩
      show own_Q4 Z p0 p1 p2 p3 p4 p5 h0 n0 _ s₁.heap _
      rw [e0]
      exact ⟨by rw [own_exp, if_pos ⟨hc4, hc10⟩], N0, rfl⟩
    · refine own_fwd (fun tt kt => XS.icmpYes X0.here hx rfl (pc0 := 7) (pc' := 13) rfl (hb hby own_d4_7) rfl (feq hc10).2 (by decide) (by decide) kt) ?_
      show own_R p.tables e below P (s₁.setTop (mkF m 13 #[.val (.int p0), .val (.int p1), .val (.int p2), .val (.int p3), .val (.int p4), .val (.int p5)] []))
      refine own_fwd (fun tt kt => XS.iloadN X0.here hx rfl (hb hby own_d4_13) rfl kt) ?_
      show own_R p.tables e below P (s₁.setTop (mkF m 14 #[.val (.int p0), .val (.int p1), .val (.int p2), .val (.int p3), .val (.int p4), .val (.int p5)] [(.int p1)]))
      refine own_fwd (fun tt kt => XS.iconst X0.here hx rfl (hb hby own_d4_14) kt) ?_
      show own_R p.tables e below P (s₁.setTop (mkF m 15 #[.val (.int p0), .val (.int p1), .val (.int p2), .val (.int p3), .val (.int p4), .val (.int p5)] [(.int (2 : Int32)), (.int p1)]))
      by_cases hc12 : p1 < (2 : Int32)
      · refine own_fwd (fun tt kt => XS.icmpYes X0.here hx rfl (pc0 := 15) (pc' := 26) rfl (hb hby own_d4_15) rfl (tlt hc12).1 (by decide) (by decide) kt) ?_
        show own_R p.tables e below P (s₁.setTop (mkF m 26 #[.val (.int p0), .val (.int p1), .val (.int p2), .val (.int p3), .val (.int p4), .val (.int p5)] []))
        refine own_fwd (fun tt kt => XS.iconst X0.here hx rfl (hb hby own_d4_26) kt) ?_
        show own_R p.tables e below P (s₁.setTop (mkF m 27 #[.val (.int p0), .val (.int p1), .val (.int p2), .val (.int p3), .val (.int p4), .val (.int p5)] [(.int (0 : Int32))]))
        obtain ⟨fs13, hr13, hrun13, hended13, hW13, hsame13⟩ := X0.leave (v := some (.int (0 : Int32))) (fun h => by rw [Bd.returns] at h; cases h)
        refine ⟨_, _, X0.ireturnOut hx (w := (0 : Int32)) Bd.returns rfl (by simp) (hb hby own_d4_27) hr13, fin _ _ ⟨hrun13, hended13, _, _, rfl, ?_, ⟨_, rfl⟩, hW13, hsame13.mono (by decide) (by decide)⟩⟩
        show own_Q4 Z p0 p1 p2 p3 p4 p5 h0 n0 _ s₁.heap _
        rw [e0]
        exact ⟨by rw [own_exp, if_neg (fun z => hc10 z.2), if_neg (fun z => z.1 hc12)], N0, rfl⟩
      · refine own_fwd (fun tt kt => XS.icmpNo X0.here hx rfl (hb hby own_d4_15) rfl (flt hc12).1 kt) ?_
        show own_R p.tables e below P (s₁.setTop (mkF m 18 #[.val (.int p0), .val (.int p1), .val (.int p2), .val (.int p3), .val (.int p4), .val (.int p5)] []))
        refine own_fwd (fun tt kt => XS.iloadN X0.here hx rfl (hb hby own_d4_18) rfl kt) ?_
        show own_R p.tables e below P (s₁.setTop (mkF m 19 #[.val (.int p0), .val (.int p1), .val (.int p2), .val (.int p3), .val (.int p4), .val (.int p5)] [(.int p3)]))
        refine own_fwd (fun tt kt => XS.iloadN X0.here hx rfl (hb hby own_d4_19) rfl kt) ?_
        show own_R p.tables e below P (s₁.setTop (mkF m 20 #[.val (.int p0), .val (.int p1), .val (.int p2), .val (.int p3), .val (.int p4), .val (.int p5)] [(.int p0), (.int p3)]))
        by_cases hc14 : p3 = p0
        · refine own_fwd (fun tt kt => XS.icmpNo X0.here hx rfl (hb hby own_d4_20) rfl (teq hc14).2 kt) ?_
          show own_R p.tables e below P (s₁.setTop (mkF m 23 #[.val (.int p0), .val (.int p1), .val (.int p2), .val (.int p3), .val (.int p4), .val (.int p5)] []))
          refine own_fwd (fun tt kt => XS.iload X0.here hx rfl (hb hby own_d4_23) rfl kt) ?_
          show own_R p.tables e below P (s₁.setTop (mkF m 25 #[.val (.int p0), .val (.int p1), .val (.int p2), .val (.int p3), .val (.int p4), .val (.int p5)] [(.int p5)]))
          obtain ⟨fs15, hr15, hrun15, hended15, hW15, hsame15⟩ := X0.leave (v := some (.int p5)) (fun h => by rw [Bd.returns] at h; cases h)
          refine ⟨_, _, X0.ireturnOut hx (w := p5) Bd.returns rfl (by simp) (hb hby own_d4_25) hr15, fin _ _ ⟨hrun15, hended15, _, _, rfl, ?_, ⟨_, rfl⟩, hW15, hsame15.mono (by decide) (by decide)⟩⟩
          show own_Q4 Z p0 p1 p2 p3 p4 p5 h0 n0 _ s₁.heap _
          rw [e0]
          exact ⟨by rw [own_exp, if_neg (fun z => hc10 z.2), if_pos ⟨hc12, hc14⟩], N0, rfl⟩
        · refine own_fwd (fun tt kt => XS.icmpYes X0.here hx rfl (pc0 := 20) (pc' := 26) rfl (hb hby own_d4_20) rfl (feq hc14).2 (by decide) (by decide) kt) ?_
          show own_R p.tables e below P (s₁.setTop (mkF m 26 #[.val (.int p0), .val (.int p1), .val (.int p2), .val (.int p3), .val (.int p4), .val (.int p5)] []))
          refine own_fwd (fun tt kt => XS.iconst X0.here hx rfl (hb hby own_d4_26) kt) ?_
          show own_R p.tables e below P (s₁.setTop (mkF m 27 #[.val (.int p0), .val (.int p1), .val (.int p2), .val (.int p3), .val (.int p4), .val (.int p5)] [(.int (0 : Int32))]))
          obtain ⟨fs16, hr16, hrun16, hended16, hW16, hsame16⟩ := X0.leave (v := some (.int (0 : Int32))) (fun h => by rw [Bd.returns] at h; cases h)
          refine ⟨_, _, X0.ireturnOut hx (w := (0 : Int32)) Bd.returns rfl (by simp) (hb hby own_d4_27) hr16, fin _ _ ⟨hrun16, hended16, _, _, rfl, ?_, ⟨_, rfl⟩, hW16, hsame16.mono (by decide) (by decide)⟩⟩
          show own_Q4 Z p0 p1 p2 p3 p4 p5 h0 n0 _ s₁.heap _
          rw [e0]
          exact ⟨by rw [own_exp, if_neg (fun z => hc10 z.2), if_neg (fun z => hc14 z.2)], N0, rfl⟩
theorem own_d3_0 : decode method_4_code 0 = .ok (.iload_n 2, 1) := by decide +kernel
theorem own_d3_1 : decode method_4_code 1 = .ok (.iload_n 1, 1) := by decide +kernel
theorem own_d3_2 : decode method_4_code 2 = .ok (.if_icmp .lt 5, 3) := by decide +kernel
theorem own_d3_5 : decode method_4_code 5 = .ok (.iconst 1, 1) := by decide +kernel
theorem own_d3_6 : decode method_4_code 6 = .ok (.ireturn, 1) := by decide +kernel
theorem own_d3_7 : decode method_4_code 7 = .ok (.aload_n 0, 1) := by decide +kernel
theorem own_d3_8 : decode method_4_code 8 = .ok (.iconst 1, 1) := by decide +kernel
theorem own_d3_9 : decode method_4_code 9 = .ok (.iload_n 2, 1) := by decide +kernel
theorem own_d3_10 : decode method_4_code 10 = .ok (.iadd, 1) := by decide +kernel
theorem own_d3_11 : decode method_4_code 11 = .ok (.iaload, 1) := by decide +kernel
theorem own_d3_12 : decode method_4_code 12 = .ok (.iload_n 2, 1) := by decide +kernel
theorem own_d3_13 : decode method_4_code 13 = .ok (.iload_n 3, 1) := by decide +kernel
theorem own_d3_14 : decode method_4_code 14 = .ok (.iload 4, 2) := by decide +kernel
theorem own_d3_16 : decode method_4_code 16 = .ok (.iload 5, 2) := by decide +kernel
theorem own_d3_18 : decode method_4_code 18 = .ok (.iload 6, 2) := by decide +kernel
theorem own_d3_20 : decode method_4_code 20 = .ok (.iload 7, 2) := by decide +kernel
theorem own_d3_22 : decode method_4_code 22 = .ok (.invokestatic 25, 3) := by decide +kernel
theorem own_d3_25 : decode method_4_code 25 = .ok (.if_icmp .ne 30, 3) := by decide +kernel
theorem own_d3_28 : decode method_4_code 28 = .ok (.aload_n 0, 1) := by decide +kernel
theorem own_d3_29 : decode method_4_code 29 = .ok (.iconst 1, 1) := by decide +kernel
theorem own_d3_30 : decode method_4_code 30 = .ok (.iload_n 1, 1) := by decide +kernel
theorem own_d3_31 : decode method_4_code 31 = .ok (.iadd, 1) := by decide +kernel
theorem own_d3_32 : decode method_4_code 32 = .ok (.iload_n 2, 1) := by decide +kernel
theorem own_d3_33 : decode method_4_code 33 = .ok (.iadd, 1) := by decide +kernel
theorem own_d3_34 : decode method_4_code 34 = .ok (.iaload, 1) := by decide +kernel
theorem own_d3_35 : decode method_4_code 35 = .ok (.iload_n 2, 1) := by decide +kernel
theorem own_d3_36 : decode method_4_code 36 = .ok (.iload_n 3, 1) := by decide +kernel
theorem own_d3_37 : decode method_4_code 37 = .ok (.iload 4, 2) := by decide +kernel
theorem own_d3_39 : decode method_4_code 39 = .ok (.iload 5, 2) := by decide +kernel
theorem own_d3_41 : decode method_4_code 41 = .ok (.iload 8, 2) := by decide +kernel
theorem own_d3_43 : decode method_4_code 43 = .ok (.iload 9, 2) := by decide +kernel
theorem own_d3_45 : decode method_4_code 45 = .ok (.invokestatic 25, 3) := by decide +kernel
theorem own_d3_48 : decode method_4_code 48 = .ok (.if_icmp .ne 7, 3) := by decide +kernel
theorem own_d3_51 : decode method_4_code 51 = .ok (.iconst 1, 1) := by decide +kernel
theorem own_d3_52 : decode method_4_code 52 = .ok (.goto 4, 3) := by decide +kernel
theorem own_d3_55 : decode method_4_code 55 = .ok (.iconst 0, 1) := by decide +kernel
theorem own_d3_56 : decode method_4_code 56 = .ok (.ireturn, 1) := by decide +kernel
theorem own_pd0 : parseMethodDescriptor "(IIIIII)I" = some ⟨[.int, .int, .int, .int, .int, .int], some .int⟩ := by decide +kernel
theorem own_ef3 (m : MethodId) (a1 : Addr) (p1 : Int32) (p2 : Int32) (p3 : Int32) (p4 : Int32) (p5 : Int32) (p6 : Int32) (p7 : Int32) (p8 : Int32) (p9 : Int32) : entryFrame m #[(.ref a1), (.int p1), (.int p2), (.int p3), (.int p4), (.int p5), (.int p6), (.int p7), (.int p8), (.int p9)] 10 = mkF m 0 #[.val (.ref a1), .val (.int p1), .val (.int p2), .val (.int p3), .val (.int p4), .val (.int p5), .val (.int p6), .val (.int p7), .val (.int p8), .val (.int p9)] [] := by first | (simp [entryFrame, mkF, argsToLocals, Value.category]; done) | rfl
def own_Q3 (Z : State) (a1 : Addr) (p1 p2 p3 p4 p5 p6 p7 p8 p9 : Int32) (n j : Nat) (F : Nat → Int32) (h0 : Heap) (n0 : Nat) (v : Option Value) (h : Heap) (L : List Loc) : Prop := v = some (.int (1 : Int32)) ∧ Fr n0 L ∧ h = h0
set_option maxRecDepth 65536 in
set_option maxHeartbeats 40000000 in
theorem own_rm3 (l : Launch) (Z : State) (a0 : Array Value) (hw : ∀ d ∈ tables_1, d.before a0 Z = true) (ws : List Jvm.Cond) (a1 : Addr) (p1 p2 p3 p4 p5 p6 p7 p8 p9 : Int32) (n j : Nat) (F : Nat → Int32) (h0 : Heap) (n0 : Nat) (Z0 : n0 ≤ h0.size) (pA : own_AI Z h0 a1 .int (1 + 2 * n) F) (hn : p1.toInt = (n : Int)) (hj : p2.toInt = (j : Int)) (bn : n ≤ 3) (bj : j ≤ 2) (h1 : j < n → F (1 + j) = own_exp p2 p3 p4 p5 p6 p7) (h2 : j < n → F (1 + n + j) = own_exp p2 p3 p4 p5 p8 p9) :
    MetFree l (⟨"com/example/tracefold/tracefold/PlaceProgramMovedPinLaw", "slot", "([IIIIIIIIII)Z"⟩ : MethodName) (head1 (Jvm.Cond.code (⟨"com/example/tracefold/tracefold/PlaceProgramMovedPinLaw", "slot", "([IIIIIIIIII)Z"⟩ : MethodName) method_4_code 10 (some .boolean) :: ws) ({ frames := 1, cells := 0, slots := 0, locals := 18 } : Room)) (fun a U => a = #[(.ref a1), (.int p1), (.int p2), (.int p3), (.int p4), (.int p5), (.int p6), (.int p7), (.int p8), (.int p9)] ∧ Z.Warmed39 U.vm ∧ U.heap = h0) (fun _ _ _ _ _ => True) (fun _ U o U' => ∃ v L, o = .returned v ∧ own_Q3 Z a1 p1 p2 p3 p4 p5 p6 p7 p8 p9 n j F h0 n0 v U'.heap L ∧ FrameEnd U o U' L ({ frames := 1, cells := 0, slots := 0, locals := 18 } : Room).cells ({ frames := 1, cells := 0, slots := 0, locals := 18 } : Room).slots) := by
  refine MetFree.of_bodySF (plainFor_of_name own_pn0) hisR ?_
  intro p e s m args below meth c s₁ Bd hml0 hP hK
  obtain ⟨rfl, hZ, hh⟩ := hP
  have hx := Bd.exec
  have hby := Bd.bytes
  have hml : c.maxLocals = 10 := hml0
  have hown : s.vm.findClass "com/example/tracefold/tracefold/PlaceProgramMovedPinLaw" = some m.cls := findClass_of_methodNamed Bd.named
  have hnm := (name_of_methodNamed Bd.named Bd.method).1
  have X0 : Stand p l e ({ frames := 1, cells := 0, slots := 0, locals := 18 } : Room) s m #[(.ref a1), (.int p1), (.int p2), (.int p3), (.int p4), (.int p5), (.int p6), (.int p7), (.int p8), (.int p9)] below meth c s₁ [] 0 0 := Stand.of_body Bd
  have e0 : s₁.heap = h0 := by rw [← hh, Bd.state]; rfl
  have N0 := Fr.nil n0
  refine own_nm (st := s₁.setTop (entryFrame m #[(.ref a1), (.int p1), (.int p2), (.int p3), (.int p4), (.int p5), (.int p6), (.int p7), (.int p8), (.int p9)] 10)) fun P fin => ?_
  refine own_fwd (fun tt kt => castTop (own_ef3 m a1 p1 p2 p3 p4 p5 p6 p7 p8 p9) kt) ?_
  show own_R p.tables e below P (s₁.setTop (mkF m 0 #[.val (.ref a1), .val (.int p1), .val (.int p2), .val (.int p3), .val (.int p4), .val (.int p5), .val (.int p6), .val (.int p7), .val (.int p8), .val (.int p9)] []))
  refine own_fwd (fun tt kt => XS.iloadN X0.here hx rfl (hb hby own_d3_0) rfl kt) ?_
  show own_R p.tables e below P (s₁.setTop (mkF m 1 #[.val (.ref a1), .val (.int p1), .val (.int p2), .val (.int p3), .val (.int p4), .val (.int p5), .val (.int p6), .val (.int p7), .val (.int p8), .val (.int p9)] [(.int p2)]))
  refine own_fwd (fun tt kt => XS.iloadN X0.here hx rfl (hb hby own_d3_1) rfl kt) ?_
  show own_R p.tables e below P (s₁.setTop (mkF m 2 #[.val (.ref a1), .val (.int p1), .val (.int p2), .val (.int p3), .val (.int p4), .val (.int p5), .val (.int p6), .val (.int p7), .val (.int p8), .val (.int p9)] [(.int p1), (.int p2)]))
  by_cases hc17 : p2 < p1
  · refine own_fwd (fun tt kt => XS.icmpYes X0.here hx rfl (pc0 := 2) (pc' := 7) rfl (hb hby own_d3_2) rfl (tlt hc17).1 (by decide) (by decide) kt) ?_
    show own_R p.tables e below P (s₁.setTop (mkF m 7 #[.val (.ref a1), .val (.int p1), .val (.int p2), .val (.int p3), .val (.int p4), .val (.int p5), .val (.int p6), .val (.int p7), .val (.int p8), .val (.int p9)] []))
    have hjn : j < n := by have q := hc17; rw [Int32.lt_iff_toInt_lt] at q; omega
    refine own_fwd (fun tt kt => XS.aloadN X0.here hx rfl (hb hby own_d3_7) rfl rfl kt) ?_
    show own_R p.tables e below P (s₁.setTop (mkF m 8 #[.val (.ref a1), .val (.int p1), .val (.int p2), .val (.int p3), .val (.int p4), .val (.int p5), .val (.int p6), .val (.int p7), .val (.int p8), .val (.int p9)] [(.ref a1)]))
    refine own_fwd (fun tt kt => XS.iconst X0.here hx rfl (hb hby own_d3_8) kt) ?_
    show own_R p.tables e below P (s₁.setTop (mkF m 9 #[.val (.ref a1), .val (.int p1), .val (.int p2), .val (.int p3), .val (.int p4), .val (.int p5), .val (.int p6), .val (.int p7), .val (.int p8), .val (.int p9)] [(.int (1 : Int32)), (.ref a1)]))
    refine own_fwd (fun tt kt => XS.iloadN X0.here hx rfl (hb hby own_d3_9) rfl kt) ?_
    show own_R p.tables e below P (s₁.setTop (mkF m 10 #[.val (.ref a1), .val (.int p1), .val (.int p2), .val (.int p3), .val (.int p4), .val (.int p5), .val (.int p6), .val (.int p7), .val (.int p8), .val (.int p9)] [(.int p2), (.int (1 : Int32)), (.ref a1)]))
    refine own_fwd (fun tt kt => XS.iadd X0.here hx rfl (hb hby own_d3_10) rfl kt) ?_
    show own_R p.tables e below P (s₁.setTop (mkF m 11 #[.val (.ref a1), .val (.int p1), .val (.int p2), .val (.int p3), .val (.int p4), .val (.int p5), .val (.int p6), .val (.int p7), .val (.int p8), .val (.int p9)] [(.int ((1 : Int32) + p2)), (.ref a1)]))
    refine own_fwd (own_ldI X0 hx hZ e0 pA (j := ((1 : Int32) + p2)) (1 + j) (own_add own_i1 hj (by omega)) (by omega) (g := (mkF m 11 #[.val (.ref a1), .val (.int p1), .val (.int p2), .val (.int p3), .val (.int p4), .val (.int p5), .val (.int p6), .val (.int p7), .val (.int p8), .val (.int p9)] [(.int ((1 : Int32) + p2)), (.ref a1)])) rfl rfl (hb hby own_d3_11)) ?_
    show own_R p.tables e below P (s₁.setTop (mkF m 12 #[.val (.ref a1), .val (.int p1), .val (.int p2), .val (.int p3), .val (.int p4), .val (.int p5), .val (.int p6), .val (.int p7), .val (.int p8), .val (.int p9)] [(.int (F (1 + j)))]))
    refine own_fwd (fun tt kt => XS.iloadN X0.here hx rfl (hb hby own_d3_12) rfl kt) ?_
    show own_R p.tables e below P (s₁.setTop (mkF m 13 #[.val (.ref a1), .val (.int p1), .val (.int p2), .val (.int p3), .val (.int p4), .val (.int p5), .val (.int p6), .val (.int p7), .val (.int p8), .val (.int p9)] [(.int p2), (.int (F (1 + j)))]))
    refine own_fwd (fun tt kt => XS.iloadN X0.here hx rfl (hb hby own_d3_13) rfl kt) ?_
    show own_R p.tables e below P (s₁.setTop (mkF m 14 #[.val (.ref a1), .val (.int p1), .val (.int p2), .val (.int p3), .val (.int p4), .val (.int p5), .val (.int p6), .val (.int p7), .val (.int p8), .val (.int p9)] [(.int p3), (.int p2), (.int (F (1 + j)))]))
    refine own_fwd (fun tt kt => XS.iload X0.here hx rfl (hb hby own_d3_14) rfl kt) ?_
    show own_R p.tables e below P (s₁.setTop (mkF m 16 #[.val (.ref a1), .val (.int p1), .val (.int p2), .val (.int p3), .val (.int p4), .val (.int p5), .val (.int p6), .val (.int p7), .val (.int p8), .val (.int p9)] [(.int p4), (.int p3), (.int p2), (.int (F (1 + j)))]))
    refine own_fwd (fun tt kt => XS.iload X0.here hx rfl (hb hby own_d3_16) rfl kt) ?_
    show own_R p.tables e below P (s₁.setTop (mkF m 18 #[.val (.ref a1), .val (.int p1), .val (.int p2), .val (.int p3), .val (.int p4), .val (.int p5), .val (.int p6), .val (.int p7), .val (.int p8), .val (.int p9)] [(.int p5), (.int p4), (.int p3), (.int p2), (.int (F (1 + j)))]))
    refine own_fwd (fun tt kt => XS.iload X0.here hx rfl (hb hby own_d3_18) rfl kt) ?_
    show own_R p.tables e below P (s₁.setTop (mkF m 20 #[.val (.ref a1), .val (.int p1), .val (.int p2), .val (.int p3), .val (.int p4), .val (.int p5), .val (.int p6), .val (.int p7), .val (.int p8), .val (.int p9)] [(.int p6), (.int p5), (.int p4), (.int p3), (.int p2), (.int (F (1 + j)))]))
    refine own_fwd (fun tt kt => XS.iload X0.here hx rfl (hb hby own_d3_20) rfl kt) ?_
    show own_R p.tables e below P (s₁.setTop (mkF m 22 #[.val (.ref a1), .val (.int p1), .val (.int p2), .val (.int p3), .val (.int p4), .val (.int p5), .val (.int p6), .val (.int p7), .val (.int p8), .val (.int p9)] [(.int p7), (.int p6), (.int p5), (.int p4), (.int p3), (.int p2), (.int (F (1 + j)))]))
    obtain ⟨_, _, ⟨T18, L18, k18, n18⟩, -, X18, ⟨Lc18, hQ18, l18, y18, z18⟩, st18⟩ := Jvm.LawKit.callS X0 hx (y := (⟨"com/example/tracefold/tracefold/PlaceProgramMovedPinLaw", "expected", "(IIIIII)I"⟩ : MethodName)) hown (mvT hZ (hw _ (List.mem_of_getElem? (i := 13) rfl))) (mvT hZ (hw _ (List.mem_of_getElem? (i := 14) rfl))) (mvT hZ (hw _ (List.mem_of_getElem? (i := 11) rfl))) (mvT hZ (hw _ (List.mem_of_getElem? (i := 15) rfl))) (by decide) (backOf (W := 1) (own_rm4 l Z a0 hw [] p2 p3 p4 p5 p6 p7 h0 n0 Z0 ) hZ (hw _ (List.mem_of_getElem? (i := 15) rfl)) (hw _ (List.mem_of_getElem? (i := 11) rfl)) (by decide) (by decide)) (g := (mkF m 22 #[.val (.ref a1), .val (.int p1), .val (.int p2), .val (.int p3), .val (.int p4), .val (.int p5), .val (.int p6), .val (.int p7), .val (.int p8), .val (.int p9)] [(.int p7), (.int p6), (.int p5), (.int p4), (.int p3), (.int p2), (.int (F (1 + j)))])) rfl (by rw [hml]; rfl) (argsL := [(.int p2), (.int p3), (.int p4), (.int p5), (.int p6), (.int p7)]) (rest := [(.int (F (1 + j)))]) (lenOf own_pd0 rfl) rfl (by show 2 * 0 + _ ≤ _; exact Nat.le_of_eq rfl) (hb hby own_d3_22) (fun _ _ => ⟨rfl, e0, (by decide : 0 + 0 ≤ _), (by decide : 0 + 0 ≤ _)⟩)
    dsimp only [Pt.U, Pt.locs, Pt.cells, Pt.slots] at X18 l18 y18 z18 st18 hQ18
    subst l18 y18 z18
    obtain ⟨h18, e18⟩ : ∃ z, T18.heap = z := ⟨_, rfl⟩
    rw [e18] at hQ18
    obtain ⟨hq18, N18q, q18⟩ := hQ18
    rw [q18] at e18
    subst hq18
    have N18 := Fr.app N0 N18q
    refine own_fwd st18 ?_
    show own_R p.tables e below P (T18.setTop (mkF m 25 #[.val (.ref a1), .val (.int p1), .val (.int p2), .val (.int p3), .val (.int p4), .val (.int p5), .val (.int p6), .val (.int p7), .val (.int p8), .val (.int p9)] [(.int (own_exp p2 p3 p4 p5 p6 p7)), (.int (F (1 + j)))]))
    have hc19 : (F (1 + j)) = (own_exp p2 p3 p4 p5 p6 p7) := h1 hjn
    refine own_fwd (fun tt kt => XS.icmpNo X18.here hx rfl (hb hby own_d3_25) rfl (teq hc19).2 kt) ?_
    show own_R p.tables e below P (T18.setTop (mkF m 28 #[.val (.ref a1), .val (.int p1), .val (.int p2), .val (.int p3), .val (.int p4), .val (.int p5), .val (.int p6), .val (.int p7), .val (.int p8), .val (.int p9)] []))
    refine own_fwd (fun tt kt => XS.aloadN X18.here hx rfl (hb hby own_d3_28) rfl rfl kt) ?_
    show own_R p.tables e below P (T18.setTop (mkF m 29 #[.val (.ref a1), .val (.int p1), .val (.int p2), .val (.int p3), .val (.int p4), .val (.int p5), .val (.int p6), .val (.int p7), .val (.int p8), .val (.int p9)] [(.ref a1)]))
    refine own_fwd (fun tt kt => XS.iconst X18.here hx rfl (hb hby own_d3_29) kt) ?_
    show own_R p.tables e below P (T18.setTop (mkF m 30 #[.val (.ref a1), .val (.int p1), .val (.int p2), .val (.int p3), .val (.int p4), .val (.int p5), .val (.int p6), .val (.int p7), .val (.int p8), .val (.int p9)] [(.int (1 : Int32)), (.ref a1)]))
    refine own_fwd (fun tt kt => XS.iloadN X18.here hx rfl (hb hby own_d3_30) rfl kt) ?_
    show own_R p.tables e below P (T18.setTop (mkF m 31 #[.val (.ref a1), .val (.int p1), .val (.int p2), .val (.int p3), .val (.int p4), .val (.int p5), .val (.int p6), .val (.int p7), .val (.int p8), .val (.int p9)] [(.int p1), (.int (1 : Int32)), (.ref a1)]))
    refine own_fwd (fun tt kt => XS.iadd X18.here hx rfl (hb hby own_d3_31) rfl kt) ?_
    show own_R p.tables e below P (T18.setTop (mkF m 32 #[.val (.ref a1), .val (.int p1), .val (.int p2), .val (.int p3), .val (.int p4), .val (.int p5), .val (.int p6), .val (.int p7), .val (.int p8), .val (.int p9)] [(.int ((1 : Int32) + p1)), (.ref a1)]))
    refine own_fwd (fun tt kt => XS.iloadN X18.here hx rfl (hb hby own_d3_32) rfl kt) ?_
    show own_R p.tables e below P (T18.setTop (mkF m 33 #[.val (.ref a1), .val (.int p1), .val (.int p2), .val (.int p3), .val (.int p4), .val (.int p5), .val (.int p6), .val (.int p7), .val (.int p8), .val (.int p9)] [(.int p2), (.int ((1 : Int32) + p1)), (.ref a1)]))
    refine own_fwd (fun tt kt => XS.iadd X18.here hx rfl (hb hby own_d3_33) rfl kt) ?_
    show own_R p.tables e below P (T18.setTop (mkF m 34 #[.val (.ref a1), .val (.int p1), .val (.int p2), .val (.int p3), .val (.int p4), .val (.int p5), .val (.int p6), .val (.int p7), .val (.int p8), .val (.int p9)] [(.int (((1 : Int32) + p1) + p2)), (.ref a1)]))
    refine own_fwd (own_ldI X18 hx hZ e18 pA (j := (((1 : Int32) + p1) + p2)) (1 + n + j) (own_add (own_add own_i1 hn (by omega)) hj (by omega)) (by omega) (g := (mkF m 34 #[.val (.ref a1), .val (.int p1), .val (.int p2), .val (.int p3), .val (.int p4), .val (.int p5), .val (.int p6), .val (.int p7), .val (.int p8), .val (.int p9)] [(.int (((1 : Int32) + p1) + p2)), (.ref a1)])) rfl rfl (hb hby own_d3_34)) ?_
    show own_R p.tables e below P (T18.setTop (mkF m 35 #[.val (.ref a1), .val (.int p1), .val (.int p2), .val (.int p3), .val (.int p4), .val (.int p5), .val (.int p6), .val (.int p7), .val (.int p8), .val (.int p9)] [(.int (F (1 + n + j)))]))
    refine own_fwd (fun tt kt => XS.iloadN X18.here hx rfl (hb hby own_d3_35) rfl kt) ?_
    show own_R p.tables e below P (T18.setTop (mkF m 36 #[.val (.ref a1), .val (.int p1), .val (.int p2), .val (.int p3), .val (.int p4), .val (.int p5), .val (.int p6), .val (.int p7), .val (.int p8), .val (.int p9)] [(.int p2), (.int (F (1 + n + j)))]))
    refine own_fwd (fun tt kt => XS.iloadN X18.here hx rfl (hb hby own_d3_36) rfl kt) ?_
    show own_R p.tables e below P (T18.setTop (mkF m 37 #[.val (.ref a1), .val (.int p1), .val (.int p2), .val (.int p3), .val (.int p4), .val (.int p5), .val (.int p6), .val (.int p7), .val (.int p8), .val (.int p9)] [(.int p3), (.int p2), (.int (F (1 + n + j)))]))
    refine own_fwd (fun tt kt => XS.iload X18.here hx rfl (hb hby own_d3_37) rfl kt) ?_
    show own_R p.tables e below P (T18.setTop (mkF m 39 #[.val (.ref a1), .val (.int p1), .val (.int p2), .val (.int p3), .val (.int p4), .val (.int p5), .val (.int p6), .val (.int p7), .val (.int p8), .val (.int p9)] [(.int p4), (.int p3), (.int p2), (.int (F (1 + n + j)))]))
    refine own_fwd (fun tt kt => XS.iload X18.here hx rfl (hb hby own_d3_39) rfl kt) ?_
    show own_R p.tables e below P (T18.setTop (mkF m 41 #[.val (.ref a1), .val (.int p1), .val (.int p2), .val (.int p3), .val (.int p4), .val (.int p5), .val (.int p6), .val (.int p7), .val (.int p8), .val (.int p9)] [(.int p5), (.int p4), (.int p3), (.int p2), (.int (F (1 + n + j)))]))
    refine own_fwd (fun tt kt => XS.iload X18.here hx rfl (hb hby own_d3_41) rfl kt) ?_
    show own_R p.tables e below P (T18.setTop (mkF m 43 #[.val (.ref a1), .val (.int p1), .val (.int p2), .val (.int p3), .val (.int p4), .val (.int p5), .val (.int p6), .val (.int p7), .val (.int p8), .val (.int p9)] [(.int p8), (.int p5), (.int p4), (.int p3), (.int p2), (.int (F (1 + n + j)))]))
    refine own_fwd (fun tt kt => XS.iload X18.here hx rfl (hb hby own_d3_43) rfl kt) ?_
    show own_R p.tables e below P (T18.setTop (mkF m 45 #[.val (.ref a1), .val (.int p1), .val (.int p2), .val (.int p3), .val (.int p4), .val (.int p5), .val (.int p6), .val (.int p7), .val (.int p8), .val (.int p9)] [(.int p9), (.int p8), (.int p5), (.int p4), (.int p3), (.int p2), (.int (F (1 + n + j)))]))
    obtain ⟨_, _, ⟨T20, L20, k20, n20⟩, -, X20, ⟨Lc20, hQ20, l20, y20, z20⟩, st20⟩ := Jvm.LawKit.callS X18 hx (y := (⟨"com/example/tracefold/tracefold/PlaceProgramMovedPinLaw", "expected", "(IIIIII)I"⟩ : MethodName)) hown (mvT hZ (hw _ (List.mem_of_getElem? (i := 13) rfl))) (mvT hZ (hw _ (List.mem_of_getElem? (i := 14) rfl))) (mvT hZ (hw _ (List.mem_of_getElem? (i := 11) rfl))) (mvT hZ (hw _ (List.mem_of_getElem? (i := 15) rfl))) (by decide) (backOf (W := 1) (own_rm4 l Z a0 hw [] p2 p3 p4 p5 p8 p9 h0 n0 Z0 ) hZ (hw _ (List.mem_of_getElem? (i := 15) rfl)) (hw _ (List.mem_of_getElem? (i := 11) rfl)) (by decide) (by decide)) (g := (mkF m 45 #[.val (.ref a1), .val (.int p1), .val (.int p2), .val (.int p3), .val (.int p4), .val (.int p5), .val (.int p6), .val (.int p7), .val (.int p8), .val (.int p9)] [(.int p9), (.int p8), (.int p5), (.int p4), (.int p3), (.int p2), (.int (F (1 + n + j)))])) rfl (by rw [hml]; rfl) (argsL := [(.int p2), (.int p3), (.int p4), (.int p5), (.int p8), (.int p9)]) (rest := [(.int (F (1 + n + j)))]) (lenOf own_pd0 rfl) rfl (by show 2 * 0 + _ ≤ _; exact Nat.le_of_eq rfl) (hb hby own_d3_45) (fun _ _ => ⟨rfl, e18, (by decide : 0 + 0 ≤ _), (by decide : 0 + 0 ≤ _)⟩)
    dsimp only [Pt.U, Pt.locs, Pt.cells, Pt.slots] at X20 l20 y20 z20 st20 hQ20
    subst l20 y20 z20
    obtain ⟨h20, e20⟩ : ∃ z, T20.heap = z := ⟨_, rfl⟩
    rw [e20] at hQ20
    obtain ⟨hq20, N20q, q20⟩ := hQ20
    rw [q20] at e20
    subst hq20
    have N20 := Fr.app N18 N20q
    refine own_fwd st20 ?_
    show own_R p.tables e below P (T20.setTop (mkF m 48 #[.val (.ref a1), .val (.int p1), .val (.int p2), .val (.int p3), .val (.int p4), .val (.int p5), .val (.int p6), .val (.int p7), .val (.int p8), .val (.int p9)] [(.int (own_exp p2 p3 p4 p5 p8 p9)), (.int (F (1 + n + j)))]))
    have hc21 : (F (1 + n + j)) = (own_exp p2 p3 p4 p5 p8 p9) := h2 hjn
    refine own_fwd (fun tt kt => XS.icmpNo X20.here hx rfl (hb hby own_d3_48) rfl (teq hc21).2 kt) ?_
    show own_R p.tables e below P (T20.setTop (mkF m 51 #[.val (.ref a1), .val (.int p1), .val (.int p2), .val (.int p3), .val (.int p4), .val (.int p5), .val (.int p6), .val (.int p7), .val (.int p8), .val (.int p9)] []))
    refine own_fwd (fun tt kt => XS.iconst X20.here hx rfl (hb hby own_d3_51) kt) ?_
    show own_R p.tables e below P (T20.setTop (mkF m 52 #[.val (.ref a1), .val (.int p1), .val (.int p2), .val (.int p3), .val (.int p4), .val (.int p5), .val (.int p6), .val (.int p7), .val (.int p8), .val (.int p9)] [(.int (1 : Int32))]))
    refine own_fwd (fun tt kt => XS.goto X20.here hx rfl (pc0 := 52) (pc' := 56) rfl (hb hby own_d3_52) (by decide) (by decide) kt) ?_
    show own_R p.tables e below P (T20.setTop (mkF m 56 #[.val (.ref a1), .val (.int p1), .val (.int p2), .val (.int p3), .val (.int p4), .val (.int p5), .val (.int p6), .val (.int p7), .val (.int p8), .val (.int p9)] [(.int (1 : Int32))]))
    obtain ⟨fs22, hr22, hrun22, hended22, hW22, hsame22⟩ := X20.leave (v := some (.int (1 : Int32))) (fun h => by rw [Bd.returns] at h; cases h)
    refine ⟨_, _, X20.ireturnOut hx (w := (1 : Int32)) Bd.returns rfl (by simp) (hb hby own_d3_56) hr22, fin _ _ ⟨hrun22, hended22, _, _, rfl, ?_, ⟨_, rfl⟩, hW22, hsame22.mono (by decide) (by decide)⟩⟩
    show own_Q3 Z a1 p1 p2 p3 p4 p5 p6 p7 p8 p9 n j F h0 n0 _ T20.heap _
    rw [e20]
    exact ⟨rfl, N20, rfl⟩
  · refine own_fwd (fun tt kt => XS.icmpNo X0.here hx rfl (hb hby own_d3_2) rfl (flt hc17).1 kt) ?_
    show own_R p.tables e below P (s₁.setTop (mkF m 5 #[.val (.ref a1), .val (.int p1), .val (.int p2), .val (.int p3), .val (.int p4), .val (.int p5), .val (.int p6), .val (.int p7), .val (.int p8), .val (.int p9)] []))
    refine own_fwd (fun tt kt => XS.iconst X0.here hx rfl (hb hby own_d3_5) kt) ?_
    show own_R p.tables e below P (s₁.setTop (mkF m 6 #[.val (.ref a1), .val (.int p1), .val (.int p2), .val (.int p3), .val (.int p4), .val (.int p5), .val (.int p6), .val (.int p7), .val (.int p8), .val (.int p9)] [(.int (1 : Int32))]))
    obtain ⟨fs23, hr23, hrun23, hended23, hW23, hsame23⟩ := X0.leave (v := some (.int (1 : Int32))) (fun h => by rw [Bd.returns] at h; cases h)
    refine ⟨_, _, X0.ireturnOut hx (w := (1 : Int32)) Bd.returns rfl (by simp) (hb hby own_d3_6) hr23, fin _ _ ⟨hrun23, hended23, _, _, rfl, ?_, ⟨_, rfl⟩, hW23, hsame23.mono (by decide) (by decide)⟩⟩
    show own_Q3 Z a1 p1 p2 p3 p4 p5 p6 p7 p8 p9 n j F h0 n0 _ s₁.heap _
    rw [e0]
    exact ⟨rfl, N0, rfl⟩
theorem own_d2_0 : decode prog_51_method_29_code 0 = .ok (.iconst 1, 1) := by decide +kernel
theorem own_d2_1 : decode prog_51_method_29_code 1 = .ok (.iconst 2, 1) := by decide +kernel
theorem own_d2_2 : decode prog_51_method_29_code 2 = .ok (.iload_n 2, 1) := by decide +kernel
theorem own_d2_3 : decode prog_51_method_29_code 3 = .ok (.imul, 1) := by decide +kernel
theorem own_d2_4 : decode prog_51_method_29_code 4 = .ok (.iadd, 1) := by decide +kernel
theorem own_d2_5 : decode prog_51_method_29_code 5 = .ok (.newarray .int, 2) := by decide +kernel
theorem own_d2_7 : decode prog_51_method_29_code 7 = .ok (.astore_n 3, 1) := by decide +kernel
theorem own_d2_8 : decode prog_51_method_29_code 8 = .ok (.aload_n 3, 1) := by decide +kernel
theorem own_d2_9 : decode prog_51_method_29_code 9 = .ok (.iconst 0, 1) := by decide +kernel
theorem own_d2_10 : decode prog_51_method_29_code 10 = .ok (.aload_n 0, 1) := by decide +kernel
theorem own_d2_11 : decode prog_51_method_29_code 11 = .ok (.iconst 0, 1) := by decide +kernel
theorem own_d2_12 : decode prog_51_method_29_code 12 = .ok (.iaload, 1) := by decide +kernel
theorem own_d2_13 : decode prog_51_method_29_code 13 = .ok (.iastore, 1) := by decide +kernel
theorem own_d2_14 : decode prog_51_method_29_code 14 = .ok (.iconst 0, 1) := by decide +kernel
theorem own_d2_15 : decode prog_51_method_29_code 15 = .ok (.istore 4, 2) := by decide +kernel
theorem own_d2_17 : decode prog_51_method_29_code 17 = .ok (.iload 4, 2) := by decide +kernel
theorem own_d2_19 : decode prog_51_method_29_code 19 = .ok (.aload_n 1, 1) := by decide +kernel
theorem own_d2_20 : decode prog_51_method_29_code 20 = .ok (.arraylength, 1) := by decide +kernel
theorem own_d2_21 : decode prog_51_method_29_code 21 = .ok (.if_icmp .ge 42, 3) := by decide +kernel
theorem own_d2_24 : decode prog_51_method_29_code 24 = .ok (.aload_n 3, 1) := by decide +kernel
theorem own_d2_25 : decode prog_51_method_29_code 25 = .ok (.iconst 1, 1) := by decide +kernel
theorem own_d2_26 : decode prog_51_method_29_code 26 = .ok (.aload_n 1, 1) := by decide +kernel
theorem own_d2_27 : decode prog_51_method_29_code 27 = .ok (.iload 4, 2) := by decide +kernel
theorem own_d2_29 : decode prog_51_method_29_code 29 = .ok (.iaload, 1) := by decide +kernel
theorem own_d2_30 : decode prog_51_method_29_code 30 = .ok (.iadd, 1) := by decide +kernel
theorem own_d2_31 : decode prog_51_method_29_code 31 = .ok (.aload_n 0, 1) := by decide +kernel
theorem own_d2_32 : decode prog_51_method_29_code 32 = .ok (.iconst 1, 1) := by decide +kernel
theorem own_d2_33 : decode prog_51_method_29_code 33 = .ok (.iload 4, 2) := by decide +kernel
theorem own_d2_35 : decode prog_51_method_29_code 35 = .ok (.iadd, 1) := by decide +kernel
theorem own_d2_36 : decode prog_51_method_29_code 36 = .ok (.iaload, 1) := by decide +kernel
theorem own_d2_37 : decode prog_51_method_29_code 37 = .ok (.iastore, 1) := by decide +kernel
theorem own_d2_38 : decode prog_51_method_29_code 38 = .ok (.aload_n 3, 1) := by decide +kernel
theorem own_d2_39 : decode prog_51_method_29_code 39 = .ok (.iconst 1, 1) := by decide +kernel
theorem own_d2_40 : decode prog_51_method_29_code 40 = .ok (.iload_n 2, 1) := by decide +kernel
theorem own_d2_41 : decode prog_51_method_29_code 41 = .ok (.iadd, 1) := by decide +kernel
theorem own_d2_42 : decode prog_51_method_29_code 42 = .ok (.aload_n 1, 1) := by decide +kernel
theorem own_d2_43 : decode prog_51_method_29_code 43 = .ok (.iload 4, 2) := by decide +kernel
theorem own_d2_45 : decode prog_51_method_29_code 45 = .ok (.iaload, 1) := by decide +kernel
theorem own_d2_46 : decode prog_51_method_29_code 46 = .ok (.iadd, 1) := by decide +kernel
theorem own_d2_47 : decode prog_51_method_29_code 47 = .ok (.aload_n 0, 1) := by decide +kernel
theorem own_d2_48 : decode prog_51_method_29_code 48 = .ok (.iconst 1, 1) := by decide +kernel
theorem own_d2_49 : decode prog_51_method_29_code 49 = .ok (.aload_n 1, 1) := by decide +kernel
theorem own_d2_50 : decode prog_51_method_29_code 50 = .ok (.arraylength, 1) := by decide +kernel
theorem own_d2_51 : decode prog_51_method_29_code 51 = .ok (.iadd, 1) := by decide +kernel
theorem own_d2_52 : decode prog_51_method_29_code 52 = .ok (.iload 4, 2) := by decide +kernel
theorem own_d2_54 : decode prog_51_method_29_code 54 = .ok (.iadd, 1) := by decide +kernel
theorem own_d2_55 : decode prog_51_method_29_code 55 = .ok (.iaload, 1) := by decide +kernel
theorem own_d2_56 : decode prog_51_method_29_code 56 = .ok (.iastore, 1) := by decide +kernel
theorem own_d2_57 : decode prog_51_method_29_code 57 = .ok (.iinc 4 1, 3) := by decide +kernel
theorem own_d2_60 : decode prog_51_method_29_code 60 = .ok (.goto (-43), 3) := by decide +kernel
theorem own_d2_63 : decode prog_51_method_29_code 63 = .ok (.aload_n 3, 1) := by decide +kernel
theorem own_d2_64 : decode prog_51_method_29_code 64 = .ok (.areturn, 1) := by decide +kernel
theorem own_pn1 : plainName "com/example/tracefold/tracefold/PlaceProgram" = true := by first | (simp [plainName, overriddenIn]; done) | decide +kernel
theorem own_efmv0 (m : MethodId) (a1 : Addr) (a2 : Addr) (p3 : Int32) : entryFrame m #[(.ref a1), (.ref a2), (.int p3)] 5 = mkF m 0 #[.val (.ref a1), .val (.ref a2), .val (.int p3), .unset, .unset] [] := by first | (simp [entryFrame, mkF, argsToLocals, Value.category]; done) | rfl
def own_Qmv0 (Z : State) (a1 a2 : Addr) (p3 : Int32) (n : Nat) (fv fm : Nat → Int32) (h0 : Heap) (n0 : Nat) (v : Option Value) (h : Heap) (L : List Loc) : Prop := ∃ b, v = some (.ref b) ∧ Fr n0 L ∧ n0 ≤ b ∧ Keep h0 h [] ∧ own_AI Z h b .int (1 + 2 * n) (own_upd (fun _ => (0 : Int32)) 0 (fv 0))
set_option maxRecDepth 65536 in
set_option maxHeartbeats 40000000 in
theorem own_rmmv0 (l : Launch) (Z : State) (a0 : Array Value) (hw : ∀ d ∈ tables_1, d.before a0 Z = true) (ws : List Jvm.Cond) (a1 a2 : Addr) (p3 : Int32) (n : Nat) (fv fm : Nat → Int32) (h0 : Heap) (n0 : Nat) (Z0 : n0 ≤ h0.size) (pV : own_AI Z h0 a1 .int 1 fv) (pM : own_AI Z h0 a2 .int 0 fm) (hn : p3.toInt = (n : Int)) (bn : n ≤ 3) :
    MetFree l (⟨"com/example/tracefold/tracefold/PlaceProgram", "moved", "([I[II)[I"⟩ : MethodName) (head1 (Jvm.Cond.code (⟨"com/example/tracefold/tracefold/PlaceProgram", "moved", "([I[II)[I"⟩ : MethodName) prog_51_method_29_code 5 (some (.array .int)) :: ws) ({ frames := 0, cells := 1, slots := 7, locals := 0 } : Room)) (fun a U => a = #[(.ref a1), (.ref a2), (.int p3)] ∧ Z.Warmed39 U.vm ∧ U.heap = h0) (fun _ _ _ _ _ => True) (fun _ U o U' => ∃ v L, o = .returned v ∧ own_Qmv0 Z a1 a2 p3 n fv fm h0 n0 v U'.heap L ∧ FrameEnd U o U' L ({ frames := 0, cells := 1, slots := 7, locals := 0 } : Room).cells ({ frames := 0, cells := 1, slots := 7, locals := 0 } : Room).slots) := by
  refine MetFree.of_bodySF (plainFor_of_name own_pn1) hisR ?_
  intro p e s m args below meth c s₁ Bd hml0 hP hK
  obtain ⟨rfl, hZ, hh⟩ := hP
  have hx := Bd.exec
  have hby := Bd.bytes
  have hml : c.maxLocals = 5 := hml0
  have hown : s.vm.findClass "com/example/tracefold/tracefold/PlaceProgram" = some m.cls := findClass_of_methodNamed Bd.named
  have hnm := (name_of_methodNamed Bd.named Bd.method).1
  have X0 : Stand p l e ({ frames := 0, cells := 1, slots := 7, locals := 0 } : Room) s m #[(.ref a1), (.ref a2), (.int p3)] below meth c s₁ [] 0 0 := Stand.of_body Bd
  have e0 : s₁.heap = h0 := by rw [← hh, Bd.state]; rfl
  have N0 := Fr.nil n0
  refine own_nm (st := s₁.setTop (entryFrame m #[(.ref a1), (.ref a2), (.int p3)] 5)) fun P fin => ?_
  refine own_fwd (fun tt kt => castTop (own_efmv0 m a1 a2 p3) kt) ?_
  show own_R p.tables e below P (s₁.setTop (mkF m 0 #[.val (.ref a1), .val (.ref a2), .val (.int p3), .unset, .unset] []))
  have K0 := Keep.refl h0 []
  refine own_fwd (fun tt kt => XS.iconst X0.here hx rfl (hb hby own_d2_0) kt) ?_
  show own_R p.tables e below P (s₁.setTop (mkF m 1 #[.val (.ref a1), .val (.ref a2), .val (.int p3), .unset, .unset] [(.int (1 : Int32))]))
  refine own_fwd (fun tt kt => XS.iconst X0.here hx rfl (hb hby own_d2_1) kt) ?_
  show own_R p.tables e below P (s₁.setTop (mkF m 2 #[.val (.ref a1), .val (.ref a2), .val (.int p3), .unset, .unset] [(.int (2 : Int32)), (.int (1 : Int32))]))
  refine own_fwd (fun tt kt => XS.iloadN X0.here hx rfl (hb hby own_d2_2) rfl kt) ?_
  show own_R p.tables e below P (s₁.setTop (mkF m 3 #[.val (.ref a1), .val (.ref a2), .val (.int p3), .unset, .unset] [(.int p3), (.int (2 : Int32)), (.int (1 : Int32))]))
  refine own_fwd (fun tt kt => XS.imul X0.here hx rfl (hb hby own_d2_3) rfl kt) ?_
  show own_R p.tables e below P (s₁.setTop (mkF m 4 #[.val (.ref a1), .val (.ref a2), .val (.int p3), .unset, .unset] [(.int ((2 : Int32) * p3)), (.int (1 : Int32))]))
  refine own_fwd (fun tt kt => XS.iadd X0.here hx rfl (hb hby own_d2_4) rfl kt) ?_
  show own_R p.tables e below P (s₁.setTop (mkF m 5 #[.val (.ref a1), .val (.ref a2), .val (.int p3), .unset, .unset] [(.int ((1 : Int32) + ((2 : Int32) * p3)))]))
  obtain ⟨T24, h24, b24, g24, X24, e24, E24, A24, B24, st24⟩ := own_newA (n := (1 + 2 * n)) X0 hx hZ (hw _ (List.mem_of_getElem? (i := 4) rfl)) e0 (z := ((1 : Int32) + ((2 : Int32) * p3))) (own_12n n bn p3 hn) (cap := 7) (by omega) (g := (mkF m 5 #[.val (.ref a1), .val (.ref a2), .val (.int p3), .unset, .unset] [(.int ((1 : Int32) + ((2 : Int32) * p3)))])) rfl (hb hby own_d2_5) rfl (by decide) (by decide) (by decide) (ad := "[I") (by decide)
  have ne24_a1 : a1 ≠ b24 := Nat.ne_of_lt (by rw [g24]; exact pV.lt)
  have ne24_a2 : a2 ≠ b24 := Nat.ne_of_lt (by rw [g24]; exact pM.lt)
  have ge_b24 : n0 ≤ b24 := by rw [g24]; exact Z0
  have sz_b24 : h0.size ≤ b24 := by rw [g24]; exact (Nat.le_refl h0.size)
  have pV_x24 := pV.ext E24
  have pM_x24 := pM.ext E24
  have A24_ : own_AI Z h24 b24 .int (1 + 2 * n) (fun _ => (0 : Int32)) := A24
  have Z24 : n0 ≤ h24.size := Nat.le_trans Z0 E24.1
  have K24 := K0.ext E24
  have Y24 : h0.size ≤ h24.size := Nat.le_trans (Nat.le_refl h0.size) E24.1
  refine own_fwd st24 ?_
  show own_R p.tables e below P (T24.setTop (mkF m 7 #[.val (.ref a1), .val (.ref a2), .val (.int p3), .unset, .unset] [(.ref b24)]))
  refine own_fwd (fun tt kt => XS.astoreN X24.here hx rfl (hb hby own_d2_7) rfl rfl (l' := #[.val (.ref a1), .val (.ref a2), .val (.int p3), .val (.ref b24), .unset]) rfl kt) ?_
  show own_R p.tables e below P (T24.setTop (mkF m 8 #[.val (.ref a1), .val (.ref a2), .val (.int p3), .val (.ref b24), .unset] []))
  refine own_fwd (fun tt kt => XS.aloadN X24.here hx rfl (hb hby own_d2_8) rfl rfl kt) ?_
  show own_R p.tables e below P (T24.setTop (mkF m 9 #[.val (.ref a1), .val (.ref a2), .val (.int p3), .val (.ref b24), .unset] [(.ref b24)]))
  refine own_fwd (fun tt kt => XS.iconst X24.here hx rfl (hb hby own_d2_9) kt) ?_
  show own_R p.tables e below P (T24.setTop (mkF m 10 #[.val (.ref a1), .val (.ref a2), .val (.int p3), .val (.ref b24), .unset] [(.int (0 : Int32)), (.ref b24)]))
  refine own_fwd (fun tt kt => XS.aloadN X24.here hx rfl (hb hby own_d2_10) rfl rfl kt) ?_
  show own_R p.tables e below P (T24.setTop (mkF m 11 #[.val (.ref a1), .val (.ref a2), .val (.int p3), .val (.ref b24), .unset] [(.ref a1), (.int (0 : Int32)), (.ref b24)]))
  refine own_fwd (fun tt kt => XS.iconst X24.here hx rfl (hb hby own_d2_11) kt) ?_
  show own_R p.tables e below P (T24.setTop (mkF m 12 #[.val (.ref a1), .val (.ref a2), .val (.int p3), .val (.ref b24), .unset] [(.int (0 : Int32)), (.ref a1), (.int (0 : Int32)), (.ref b24)]))
  refine own_fwd (own_ldI X24 hx hZ e24 pV_x24 (j := (0 : Int32)) 0 (by decide) (by decide) (g := (mkF m 12 #[.val (.ref a1), .val (.ref a2), .val (.int p3), .val (.ref b24), .unset] [(.int (0 : Int32)), (.ref a1), (.int (0 : Int32)), (.ref b24)])) rfl rfl (hb hby own_d2_12)) ?_
  show own_R p.tables e below P (T24.setTop (mkF m 13 #[.val (.ref a1), .val (.ref a2), .val (.int p3), .val (.ref b24), .unset] [(.int (fv 0)), (.int (0 : Int32)), (.ref b24)]))
  obtain ⟨T25, h25, X25, e25, W25, A25_, st25⟩ := own_stI X24 hx hZ e24 A24_ (j := (0 : Int32)) 0 (by decide) (by omega) (g := (mkF m 13 #[.val (.ref a1), .val (.ref a2), .val (.int p3), .val (.ref b24), .unset] [(.int (fv 0)), (.int (0 : Int32)), (.ref b24)])) rfl rfl (hb hby own_d2_13)
  have pV_x25 := pV_x24.other W25 ne24_a1
  have pM_x25 := pM_x24.other W25 ne24_a2
  have B24_x25 := B24.wr W25
  have N25 := Fr.snoc X25 N0 ge_b24
  have Z25 : n0 ≤ h25.size := by rw [W25.size]; exact Z24
  have K25 := K24.wr W25 (Or.inr sz_b24)
  have Y25 : h0.size ≤ h25.size := by rw [W25.size]; exact Y24
  refine own_fwd st25 ?_
  show own_R p.tables e below P (T25.setTop (mkF m 14 #[.val (.ref a1), .val (.ref a2), .val (.int p3), .val (.ref b24), .unset] []))
  refine own_fwd (fun tt kt => XS.iconst X25.here hx rfl (hb hby own_d2_14) kt) ?_
  show own_R p.tables e below P (T25.setTop (mkF m 15 #[.val (.ref a1), .val (.ref a2), .val (.int p3), .val (.ref b24), .unset] [(.int (0 : Int32))]))
  refine own_fwd (fun tt kt => XS.istore X25.here hx rfl (hb hby own_d2_15) rfl (l' := #[.val (.ref a1), .val (.ref a2), .val (.int p3), .val (.ref b24), .val (.int (0 : Int32))]) rfl kt) ?_
  show own_R p.tables e below P (T25.setTop (mkF m 17 #[.val (.ref a1), .val (.ref a2), .val (.int p3), .val (.ref b24), .val (.int (0 : Int32))] []))
  refine own_fwd (fun tt kt => XS.iload X25.here hx rfl (hb hby own_d2_17) rfl kt) ?_
  show own_R p.tables e below P (T25.setTop (mkF m 19 #[.val (.ref a1), .val (.ref a2), .val (.int p3), .val (.ref b24), .val (.int (0 : Int32))] [(.int (0 : Int32))]))
  refine own_fwd (fun tt kt => XS.aloadN X25.here hx rfl (hb hby own_d2_19) rfl rfl kt) ?_
  show own_R p.tables e below P (T25.setTop (mkF m 20 #[.val (.ref a1), .val (.ref a2), .val (.int p3), .val (.ref b24), .val (.int (0 : Int32))] [(.ref a2), (.int (0 : Int32))]))
  refine own_fwd (own_len X25 hx hZ e25 pM_x25 (0 : Int32) (by decide) (g := (mkF m 20 #[.val (.ref a1), .val (.ref a2), .val (.int p3), .val (.ref b24), .val (.int (0 : Int32))] [(.ref a2), (.int (0 : Int32))])) rfl rfl (hb hby own_d2_20)) ?_
  show own_R p.tables e below P (T25.setTop (mkF m 21 #[.val (.ref a1), .val (.ref a2), .val (.int p3), .val (.ref b24), .val (.int (0 : Int32))] [(.int (0 : Int32)), (.int (0 : Int32))]))
  have hc26 : ¬ ((0 : Int32) < (0 : Int32)) := (by decide)
  refine own_fwd (fun tt kt => XS.icmpYes X25.here hx rfl (pc0 := 21) (pc' := 63) rfl (hb hby own_d2_21) rfl (flt hc26).2.1 (by decide) (by decide) kt) ?_
  show own_R p.tables e below P (T25.setTop (mkF m 63 #[.val (.ref a1), .val (.ref a2), .val (.int p3), .val (.ref b24), .val (.int (0 : Int32))] []))
  refine own_fwd (fun tt kt => XS.aloadN X25.here hx rfl (hb hby own_d2_63) rfl rfl kt) ?_
  show own_R p.tables e below P (T25.setTop (mkF m 64 #[.val (.ref a1), .val (.ref a2), .val (.int p3), .val (.ref b24), .val (.int (0 : Int32))] [(.ref b24)]))
  obtain ⟨fs27, hr27, hrun27, hended27, hW27, hsame27⟩ := X25.leave (v := some (.ref b24)) (fun h => by rw [Bd.returns] at h; cases h)
  refine ⟨_, _, X25.areturnOut hx rfl Bd.returns rfl (hb hby own_d2_64) hr27, fin _ _ ⟨hrun27, hended27, _, _, rfl, ?_, ⟨_, rfl⟩, hW27, hsame27.mono (by decide) (by decide)⟩⟩
  show own_Qmv0 Z a1 a2 p3 n fv fm h0 n0 _ T25.heap _
  rw [e25]
  exact ⟨b24, rfl, N25, ge_b24, K25, A25_⟩
theorem own_efmv1 (m : MethodId) (a1 : Addr) (a2 : Addr) (p3 : Int32) : entryFrame m #[(.ref a1), (.ref a2), (.int p3)] 5 = mkF m 0 #[.val (.ref a1), .val (.ref a2), .val (.int p3), .unset, .unset] [] := by first | (simp [entryFrame, mkF, argsToLocals, Value.category]; done) | rfl
def own_Qmv1 (Z : State) (a1 a2 : Addr) (p3 : Int32) (n : Nat) (fv fm : Nat → Int32) (u : Nat) (h0 : Heap) (n0 : Nat) (v : Option Value) (h : Heap) (L : List Loc) : Prop := ∃ b, v = some (.ref b) ∧ Fr n0 L ∧ n0 ≤ b ∧ Keep h0 h [] ∧ own_AI Z h b .int (1 + 2 * n) (own_upd (own_upd (own_upd (fun _ => (0 : Int32)) 0 (fv 0)) (1 + u) (fv 1)) (1 + n + u) (fv 2))
set_option maxRecDepth 65536 in
set_option maxHeartbeats 40000000 in
theorem own_rmmv1 (l : Launch) (Z : State) (a0 : Array Value) (hw : ∀ d ∈ tables_1, d.before a0 Z = true) (ws : List Jvm.Cond) (a1 a2 : Addr) (p3 : Int32) (n : Nat) (fv fm : Nat → Int32) (u : Nat) (h0 : Heap) (n0 : Nat) (Z0 : n0 ≤ h0.size) (pV : own_AI Z h0 a1 .int 3 fv) (pM : own_AI Z h0 a2 .int 1 fm) (hn : p3.toInt = (n : Int)) (bn : n ≤ 3) (hu : (fm 0).toInt = (u : Int)) (bu : u < n) :
    MetFree l (⟨"com/example/tracefold/tracefold/PlaceProgram", "moved", "([I[II)[I"⟩ : MethodName) (head1 (Jvm.Cond.code (⟨"com/example/tracefold/tracefold/PlaceProgram", "moved", "([I[II)[I"⟩ : MethodName) prog_51_method_29_code 5 (some (.array .int)) :: ws) ({ frames := 0, cells := 1, slots := 7, locals := 0 } : Room)) (fun a U => a = #[(.ref a1), (.ref a2), (.int p3)] ∧ Z.Warmed39 U.vm ∧ U.heap = h0) (fun _ _ _ _ _ => True) (fun _ U o U' => ∃ v L, o = .returned v ∧ own_Qmv1 Z a1 a2 p3 n fv fm u h0 n0 v U'.heap L ∧ FrameEnd U o U' L ({ frames := 0, cells := 1, slots := 7, locals := 0 } : Room).cells ({ frames := 0, cells := 1, slots := 7, locals := 0 } : Room).slots) := by
  refine MetFree.of_bodySF (plainFor_of_name own_pn1) hisR ?_
  intro p e s m args below meth c s₁ Bd hml0 hP hK
  obtain ⟨rfl, hZ, hh⟩ := hP
  have hx := Bd.exec
  have hby := Bd.bytes
  have hml : c.maxLocals = 5 := hml0
  have hown : s.vm.findClass "com/example/tracefold/tracefold/PlaceProgram" = some m.cls := findClass_of_methodNamed Bd.named
  have hnm := (name_of_methodNamed Bd.named Bd.method).1
  have X0 : Stand p l e ({ frames := 0, cells := 1, slots := 7, locals := 0 } : Room) s m #[(.ref a1), (.ref a2), (.int p3)] below meth c s₁ [] 0 0 := Stand.of_body Bd
  have e0 : s₁.heap = h0 := by rw [← hh, Bd.state]; rfl
  have N0 := Fr.nil n0
  refine own_nm (st := s₁.setTop (entryFrame m #[(.ref a1), (.ref a2), (.int p3)] 5)) fun P fin => ?_
  refine own_fwd (fun tt kt => castTop (own_efmv1 m a1 a2 p3) kt) ?_
  show own_R p.tables e below P (s₁.setTop (mkF m 0 #[.val (.ref a1), .val (.ref a2), .val (.int p3), .unset, .unset] []))
  have K0 := Keep.refl h0 []
  refine own_fwd (fun tt kt => XS.iconst X0.here hx rfl (hb hby own_d2_0) kt) ?_
  show own_R p.tables e below P (s₁.setTop (mkF m 1 #[.val (.ref a1), .val (.ref a2), .val (.int p3), .unset, .unset] [(.int (1 : Int32))]))
  refine own_fwd (fun tt kt => XS.iconst X0.here hx rfl (hb hby own_d2_1) kt) ?_
  show own_R p.tables e below P (s₁.setTop (mkF m 2 #[.val (.ref a1), .val (.ref a2), .val (.int p3), .unset, .unset] [(.int (2 : Int32)), (.int (1 : Int32))]))
  refine own_fwd (fun tt kt => XS.iloadN X0.here hx rfl (hb hby own_d2_2) rfl kt) ?_
  show own_R p.tables e below P (s₁.setTop (mkF m 3 #[.val (.ref a1), .val (.ref a2), .val (.int p3), .unset, .unset] [(.int p3), (.int (2 : Int32)), (.int (1 : Int32))]))
  refine own_fwd (fun tt kt => XS.imul X0.here hx rfl (hb hby own_d2_3) rfl kt) ?_
  show own_R p.tables e below P (s₁.setTop (mkF m 4 #[.val (.ref a1), .val (.ref a2), .val (.int p3), .unset, .unset] [(.int ((2 : Int32) * p3)), (.int (1 : Int32))]))
  refine own_fwd (fun tt kt => XS.iadd X0.here hx rfl (hb hby own_d2_4) rfl kt) ?_
  show own_R p.tables e below P (s₁.setTop (mkF m 5 #[.val (.ref a1), .val (.ref a2), .val (.int p3), .unset, .unset] [(.int ((1 : Int32) + ((2 : Int32) * p3)))]))
  obtain ⟨T28, h28, b28, g28, X28, e28, E28, A28, B28, st28⟩ := own_newA (n := (1 + 2 * n)) X0 hx hZ (hw _ (List.mem_of_getElem? (i := 4) rfl)) e0 (z := ((1 : Int32) + ((2 : Int32) * p3))) (own_12n n bn p3 hn) (cap := 7) (by omega) (g := (mkF m 5 #[.val (.ref a1), .val (.ref a2), .val (.int p3), .unset, .unset] [(.int ((1 : Int32) + ((2 : Int32) * p3)))])) rfl (hb hby own_d2_5) rfl (by decide) (by decide) (by decide) (ad := "[I") (by decide)
  have ne28_a1 : a1 ≠ b28 := Nat.ne_of_lt (by rw [g28]; exact pV.lt)
  have ne28_a2 : a2 ≠ b28 := Nat.ne_of_lt (by rw [g28]; exact pM.lt)
  have ge_b28 : n0 ≤ b28 := by rw [g28]; exact Z0
  have sz_b28 : h0.size ≤ b28 := by rw [g28]; exact (Nat.le_refl h0.size)
  have pV_x28 := pV.ext E28
  have pM_x28 := pM.ext E28
  have A28_ : own_AI Z h28 b28 .int (1 + 2 * n) (fun _ => (0 : Int32)) := A28
  have Z28 : n0 ≤ h28.size := Nat.le_trans Z0 E28.1
  have K28 := K0.ext E28
  have Y28 : h0.size ≤ h28.size := Nat.le_trans (Nat.le_refl h0.size) E28.1
  refine own_fwd st28 ?_
  show own_R p.tables e below P (T28.setTop (mkF m 7 #[.val (.ref a1), .val (.ref a2), .val (.int p3), .unset, .unset] [(.ref b28)]))
  refine own_fwd (fun tt kt => XS.astoreN X28.here hx rfl (hb hby own_d2_7) rfl rfl (l' := #[.val (.ref a1), .val (.ref a2), .val (.int p3), .val (.ref b28), .unset]) rfl kt) ?_
  show own_R p.tables e below P (T28.setTop (mkF m 8 #[.val (.ref a1), .val (.ref a2), .val (.int p3), .val (.ref b28), .unset] []))
  refine own_fwd (fun tt kt => XS.aloadN X28.here hx rfl (hb hby own_d2_8) rfl rfl kt) ?_
  show own_R p.tables e below P (T28.setTop (mkF m 9 #[.val (.ref a1), .val (.ref a2), .val (.int p3), .val (.ref b28), .unset] [(.ref b28)]))
  refine own_fwd (fun tt kt => XS.iconst X28.here hx rfl (hb hby own_d2_9) kt) ?_
  show own_R p.tables e below P (T28.setTop (mkF m 10 #[.val (.ref a1), .val (.ref a2), .val (.int p3), .val (.ref b28), .unset] [(.int (0 : Int32)), (.ref b28)]))
  refine own_fwd (fun tt kt => XS.aloadN X28.here hx rfl (hb hby own_d2_10) rfl rfl kt) ?_
  show own_R p.tables e below P (T28.setTop (mkF m 11 #[.val (.ref a1), .val (.ref a2), .val (.int p3), .val (.ref b28), .unset] [(.ref a1), (.int (0 : Int32)), (.ref b28)]))
  refine own_fwd (fun tt kt => XS.iconst X28.here hx rfl (hb hby own_d2_11) kt) ?_
  show own_R p.tables e below P (T28.setTop (mkF m 12 #[.val (.ref a1), .val (.ref a2), .val (.int p3), .val (.ref b28), .unset] [(.int (0 : Int32)), (.ref a1), (.int (0 : Int32)), (.ref b28)]))
  refine own_fwd (own_ldI X28 hx hZ e28 pV_x28 (j := (0 : Int32)) 0 (by decide) (by decide) (g := (mkF m 12 #[.val (.ref a1), .val (.ref a2), .val (.int p3), .val (.ref b28), .unset] [(.int (0 : Int32)), (.ref a1), (.int (0 : Int32)), (.ref b28)])) rfl rfl (hb hby own_d2_12)) ?_
  show own_R p.tables e below P (T28.setTop (mkF m 13 #[.val (.ref a1), .val (.ref a2), .val (.int p3), .val (.ref b28), .unset] [(.int (fv 0)), (.int (0 : Int32)), (.ref b28)]))
  obtain ⟨T29, h29, X29, e29, W29, A29_, st29⟩ := own_stI X28 hx hZ e28 A28_ (j := (0 : Int32)) 0 (by decide) (by omega) (g := (mkF m 13 #[.val (.ref a1), .val (.ref a2), .val (.int p3), .val (.ref b28), .unset] [(.int (fv 0)), (.int (0 : Int32)), (.ref b28)])) rfl rfl (hb hby own_d2_13)
  have pV_x29 := pV_x28.other W29 ne28_a1
  have pM_x29 := pM_x28.other W29 ne28_a2
  have B28_x29 := B28.wr W29
  have N29 := Fr.snoc X29 N0 ge_b28
  have Z29 : n0 ≤ h29.size := by rw [W29.size]; exact Z28
  have K29 := K28.wr W29 (Or.inr sz_b28)
  have Y29 : h0.size ≤ h29.size := by rw [W29.size]; exact Y28
  refine own_fwd st29 ?_
  show own_R p.tables e below P (T29.setTop (mkF m 14 #[.val (.ref a1), .val (.ref a2), .val (.int p3), .val (.ref b28), .unset] []))
  refine own_fwd (fun tt kt => XS.iconst X29.here hx rfl (hb hby own_d2_14) kt) ?_
  show own_R p.tables e below P (T29.setTop (mkF m 15 #[.val (.ref a1), .val (.ref a2), .val (.int p3), .val (.ref b28), .unset] [(.int (0 : Int32))]))
  refine own_fwd (fun tt kt => XS.istore X29.here hx rfl (hb hby own_d2_15) rfl (l' := #[.val (.ref a1), .val (.ref a2), .val (.int p3), .val (.ref b28), .val (.int (0 : Int32))]) rfl kt) ?_
  show own_R p.tables e below P (T29.setTop (mkF m 17 #[.val (.ref a1), .val (.ref a2), .val (.int p3), .val (.ref b28), .val (.int (0 : Int32))] []))
  refine own_fwd (fun tt kt => XS.iload X29.here hx rfl (hb hby own_d2_17) rfl kt) ?_
  show own_R p.tables e below P (T29.setTop (mkF m 19 #[.val (.ref a1), .val (.ref a2), .val (.int p3), .val (.ref b28), .val (.int (0 : Int32))] [(.int (0 : Int32))]))
  refine own_fwd (fun tt kt => XS.aloadN X29.here hx rfl (hb hby own_d2_19) rfl rfl kt) ?_
  show own_R p.tables e below P (T29.setTop (mkF m 20 #[.val (.ref a1), .val (.ref a2), .val (.int p3), .val (.ref b28), .val (.int (0 : Int32))] [(.ref a2), (.int (0 : Int32))]))
  refine own_fwd (own_len X29 hx hZ e29 pM_x29 (1 : Int32) (by decide) (g := (mkF m 20 #[.val (.ref a1), .val (.ref a2), .val (.int p3), .val (.ref b28), .val (.int (0 : Int32))] [(.ref a2), (.int (0 : Int32))])) rfl rfl (hb hby own_d2_20)) ?_
  show own_R p.tables e below P (T29.setTop (mkF m 21 #[.val (.ref a1), .val (.ref a2), .val (.int p3), .val (.ref b28), .val (.int (0 : Int32))] [(.int (1 : Int32)), (.int (0 : Int32))]))
  have hc30 : (0 : Int32) < (1 : Int32) := (by decide)
  refine own_fwd (fun tt kt => XS.icmpNo X29.here hx rfl (hb hby own_d2_21) rfl (tlt hc30).2.1 kt) ?_
  show own_R p.tables e below P (T29.setTop (mkF m 24 #[.val (.ref a1), .val (.ref a2), .val (.int p3), .val (.ref b28), .val (.int (0 : Int32))] []))
  refine own_fwd (fun tt kt => XS.aloadN X29.here hx rfl (hb hby own_d2_24) rfl rfl kt) ?_
  show own_R p.tables e below P (T29.setTop (mkF m 25 #[.val (.ref a1), .val (.ref a2), .val (.int p3), .val (.ref b28), .val (.int (0 : Int32))] [(.ref b28)]))
  refine own_fwd (fun tt kt => XS.iconst X29.here hx rfl (hb hby own_d2_25) kt) ?_
  show own_R p.tables e below P (T29.setTop (mkF m 26 #[.val (.ref a1), .val (.ref a2), .val (.int p3), .val (.ref b28), .val (.int (0 : Int32))] [(.int (1 : Int32)), (.ref b28)]))
  refine own_fwd (fun tt kt => XS.aloadN X29.here hx rfl (hb hby own_d2_26) rfl rfl kt) ?_
  show own_R p.tables e below P (T29.setTop (mkF m 27 #[.val (.ref a1), .val (.ref a2), .val (.int p3), .val (.ref b28), .val (.int (0 : Int32))] [(.ref a2), (.int (1 : Int32)), (.ref b28)]))
  refine own_fwd (fun tt kt => XS.iload X29.here hx rfl (hb hby own_d2_27) rfl kt) ?_
  show own_R p.tables e below P (T29.setTop (mkF m 29 #[.val (.ref a1), .val (.ref a2), .val (.int p3), .val (.ref b28), .val (.int (0 : Int32))] [(.int (0 : Int32)), (.ref a2), (.int (1 : Int32)), (.ref b28)]))
  refine own_fwd (own_ldI X29 hx hZ e29 pM_x29 (j := (0 : Int32)) 0 (by decide) (by decide) (g := (mkF m 29 #[.val (.ref a1), .val (.ref a2), .val (.int p3), .val (.ref b28), .val (.int (0 : Int32))] [(.int (0 : Int32)), (.ref a2), (.int (1 : Int32)), (.ref b28)])) rfl rfl (hb hby own_d2_29)) ?_
  show own_R p.tables e below P (T29.setTop (mkF m 30 #[.val (.ref a1), .val (.ref a2), .val (.int p3), .val (.ref b28), .val (.int (0 : Int32))] [(.int (fm 0)), (.int (1 : Int32)), (.ref b28)]))
  refine own_fwd (fun tt kt => XS.iadd X29.here hx rfl (hb hby own_d2_30) rfl kt) ?_
  show own_R p.tables e below P (T29.setTop (mkF m 31 #[.val (.ref a1), .val (.ref a2), .val (.int p3), .val (.ref b28), .val (.int (0 : Int32))] [(.int ((1 : Int32) + (fm 0))), (.ref b28)]))
  refine own_fwd (fun tt kt => XS.aloadN X29.here hx rfl (hb hby own_d2_31) rfl rfl kt) ?_
  show own_R p.tables e below P (T29.setTop (mkF m 32 #[.val (.ref a1), .val (.ref a2), .val (.int p3), .val (.ref b28), .val (.int (0 : Int32))] [(.ref a1), (.int ((1 : Int32) + (fm 0))), (.ref b28)]))
  refine own_fwd (fun tt kt => XS.iconst X29.here hx rfl (hb hby own_d2_32) kt) ?_
  show own_R p.tables e below P (T29.setTop (mkF m 33 #[.val (.ref a1), .val (.ref a2), .val (.int p3), .val (.ref b28), .val (.int (0 : Int32))] [(.int (1 : Int32)), (.ref a1), (.int ((1 : Int32) + (fm 0))), (.ref b28)]))
  refine own_fwd (fun tt kt => XS.iload X29.here hx rfl (hb hby own_d2_33) rfl kt) ?_
  show own_R p.tables e below P (T29.setTop (mkF m 35 #[.val (.ref a1), .val (.ref a2), .val (.int p3), .val (.ref b28), .val (.int (0 : Int32))] [(.int (0 : Int32)), (.int (1 : Int32)), (.ref a1), (.int ((1 : Int32) + (fm 0))), (.ref b28)]))
  refine own_fwd (fun tt kt => XS.iadd X29.here hx rfl (hb hby own_d2_35) rfl kt) ?_
  show own_R p.tables e below P (T29.setTop (mkF m 36 #[.val (.ref a1), .val (.ref a2), .val (.int p3), .val (.ref b28), .val (.int (0 : Int32))] [(.int ((1 : Int32) + (0 : Int32))), (.ref a1), (.int ((1 : Int32) + (fm 0))), (.ref b28)]))
  have hv31 : ((1 : Int32) + (0 : Int32)) = (1 : Int32) := by decide
  rw [hv31]
  show own_R p.tables e below P (T29.setTop (mkF m 36 #[.val (.ref a1), .val (.ref a2), .val (.int p3), .val (.ref b28), .val (.int (0 : Int32))] [(.int (1 : Int32)), (.ref a1), (.int ((1 : Int32) + (fm 0))), (.ref b28)]))
  refine own_fwd (own_ldI X29 hx hZ e29 pV_x29 (j := (1 : Int32)) 1 (by decide) (by decide) (g := (mkF m 36 #[.val (.ref a1), .val (.ref a2), .val (.int p3), .val (.ref b28), .val (.int (0 : Int32))] [(.int (1 : Int32)), (.ref a1), (.int ((1 : Int32) + (fm 0))), (.ref b28)])) rfl rfl (hb hby own_d2_36)) ?_
  show own_R p.tables e below P (T29.setTop (mkF m 37 #[.val (.ref a1), .val (.ref a2), .val (.int p3), .val (.ref b28), .val (.int (0 : Int32))] [(.int (fv 1)), (.int ((1 : Int32) + (fm 0))), (.ref b28)]))
  obtain ⟨T32, h32, X32, e32, W32, A32_, st32⟩ := own_stI X29 hx hZ e29 A29_ (j := ((1 : Int32) + (fm 0))) (1 + u) (own_add own_i1 hu (by omega)) (by omega) (g := (mkF m 37 #[.val (.ref a1), .val (.ref a2), .val (.int p3), .val (.ref b28), .val (.int (0 : Int32))] [(.int (fv 1)), (.int ((1 : Int32) + (fm 0))), (.ref b28)])) rfl rfl (hb hby own_d2_37)
  have pV_x32 := pV_x29.other W32 ne28_a1
  have pM_x32 := pM_x29.other W32 ne28_a2
  have B28_x32 := B28_x29.wr W32
  have N32 := Fr.snoc X32 N29 ge_b28
  have Z32 : n0 ≤ h32.size := by rw [W32.size]; exact Z29
  have K32 := K29.wr W32 (Or.inr sz_b28)
  have Y32 : h0.size ≤ h32.size := by rw [W32.size]; exact Y29
  refine own_fwd st32 ?_
  show own_R p.tables e below P (T32.setTop (mkF m 38 #[.val (.ref a1), .val (.ref a2), .val (.int p3), .val (.ref b28), .val (.int (0 : Int32))] []))
  refine own_fwd (fun tt kt => XS.aloadN X32.here hx rfl (hb hby own_d2_38) rfl rfl kt) ?_
  show own_R p.tables e below P (T32.setTop (mkF m 39 #[.val (.ref a1), .val (.ref a2), .val (.int p3), .val (.ref b28), .val (.int (0 : Int32))] [(.ref b28)]))
  refine own_fwd (fun tt kt => XS.iconst X32.here hx rfl (hb hby own_d2_39) kt) ?_
  show own_R p.tables e below P (T32.setTop (mkF m 40 #[.val (.ref a1), .val (.ref a2), .val (.int p3), .val (.ref b28), .val (.int (0 : Int32))] [(.int (1 : Int32)), (.ref b28)]))
  refine own_fwd (fun tt kt => XS.iloadN X32.here hx rfl (hb hby own_d2_40) rfl kt) ?_
  show own_R p.tables e below P (T32.setTop (mkF m 41 #[.val (.ref a1), .val (.ref a2), .val (.int p3), .val (.ref b28), .val (.int (0 : Int32))] [(.int p3), (.int (1 : Int32)), (.ref b28)]))
  refine own_fwd (fun tt kt => XS.iadd X32.here hx rfl (hb hby own_d2_41) rfl kt) ?_
  show own_R p.tables e below P (T32.setTop (mkF m 42 #[.val (.ref a1), .val (.ref a2), .val (.int p3), .val (.ref b28), .val (.int (0 : Int32))] [(.int ((1 : Int32) + p3)), (.ref b28)]))
  refine own_fwd (fun tt kt => XS.aloadN X32.here hx rfl (hb hby own_d2_42) rfl rfl kt) ?_
  show own_R p.tables e below P (T32.setTop (mkF m 43 #[.val (.ref a1), .val (.ref a2), .val (.int p3), .val (.ref b28), .val (.int (0 : Int32))] [(.ref a2), (.int ((1 : Int32) + p3)), (.ref b28)]))
  refine own_fwd (fun tt kt => XS.iload X32.here hx rfl (hb hby own_d2_43) rfl kt) ?_
  show own_R p.tables e below P (T32.setTop (mkF m 45 #[.val (.ref a1), .val (.ref a2), .val (.int p3), .val (.ref b28), .val (.int (0 : Int32))] [(.int (0 : Int32)), (.ref a2), (.int ((1 : Int32) + p3)), (.ref b28)]))
  refine own_fwd (own_ldI X32 hx hZ e32 pM_x32 (j := (0 : Int32)) 0 (by decide) (by decide) (g := (mkF m 45 #[.val (.ref a1), .val (.ref a2), .val (.int p3), .val (.ref b28), .val (.int (0 : Int32))] [(.int (0 : Int32)), (.ref a2), (.int ((1 : Int32) + p3)), (.ref b28)])) rfl rfl (hb hby own_d2_45)) ?_
  show own_R p.tables e below P (T32.setTop (mkF m 46 #[.val (.ref a1), .val (.ref a2), .val (.int p3), .val (.ref b28), .val (.int (0 : Int32))] [(.int (fm 0)), (.int ((1 : Int32) + p3)), (.ref b28)]))
  refine own_fwd (fun tt kt => XS.iadd X32.here hx rfl (hb hby own_d2_46) rfl kt) ?_
  show own_R p.tables e below P (T32.setTop (mkF m 47 #[.val (.ref a1), .val (.ref a2), .val (.int p3), .val (.ref b28), .val (.int (0 : Int32))] [(.int (((1 : Int32) + p3) + (fm 0))), (.ref b28)]))
  refine own_fwd (fun tt kt => XS.aloadN X32.here hx rfl (hb hby own_d2_47) rfl rfl kt) ?_
  show own_R p.tables e below P (T32.setTop (mkF m 48 #[.val (.ref a1), .val (.ref a2), .val (.int p3), .val (.ref b28), .val (.int (0 : Int32))] [(.ref a1), (.int (((1 : Int32) + p3) + (fm 0))), (.ref b28)]))
  refine own_fwd (fun tt kt => XS.iconst X32.here hx rfl (hb hby own_d2_48) kt) ?_
  show own_R p.tables e below P (T32.setTop (mkF m 49 #[.val (.ref a1), .val (.ref a2), .val (.int p3), .val (.ref b28), .val (.int (0 : Int32))] [(.int (1 : Int32)), (.ref a1), (.int (((1 : Int32) + p3) + (fm 0))), (.ref b28)]))
  refine own_fwd (fun tt kt => XS.aloadN X32.here hx rfl (hb hby own_d2_49) rfl rfl kt) ?_
  show own_R p.tables e below P (T32.setTop (mkF m 50 #[.val (.ref a1), .val (.ref a2), .val (.int p3), .val (.ref b28), .val (.int (0 : Int32))] [(.ref a2), (.int (1 : Int32)), (.ref a1), (.int (((1 : Int32) + p3) + (fm 0))), (.ref b28)]))
  refine own_fwd (own_len X32 hx hZ e32 pM_x32 (1 : Int32) (by decide) (g := (mkF m 50 #[.val (.ref a1), .val (.ref a2), .val (.int p3), .val (.ref b28), .val (.int (0 : Int32))] [(.ref a2), (.int (1 : Int32)), (.ref a1), (.int (((1 : Int32) + p3) + (fm 0))), (.ref b28)])) rfl rfl (hb hby own_d2_50)) ?_
  show own_R p.tables e below P (T32.setTop (mkF m 51 #[.val (.ref a1), .val (.ref a2), .val (.int p3), .val (.ref b28), .val (.int (0 : Int32))] [(.int (1 : Int32)), (.int (1 : Int32)), (.ref a1), (.int (((1 : Int32) + p3) + (fm 0))), (.ref b28)]))
  refine own_fwd (fun tt kt => XS.iadd X32.here hx rfl (hb hby own_d2_51) rfl kt) ?_
  show own_R p.tables e below P (T32.setTop (mkF m 52 #[.val (.ref a1), .val (.ref a2), .val (.int p3), .val (.ref b28), .val (.int (0 : Int32))] [(.int ((1 : Int32) + (1 : Int32))), (.ref a1), (.int (((1 : Int32) + p3) + (fm 0))), (.ref b28)]))
  have hv33 : ((1 : Int32) + (1 : Int32)) = (2 : Int32) := by decide
  rw [hv33]
  show own_R p.tables e below P (T32.setTop (mkF m 52 #[.val (.ref a1), .val (.ref a2), .val (.int p3), .val (.ref b28), .val (.int (0 : Int32))] [(.int (2 : Int32)), (.ref a1), (.int (((1 : Int32) + p3) + (fm 0))), (.ref b28)]))
  refine own_fwd (fun tt kt => XS.iload X32.here hx rfl (hb hby own_d2_52) rfl kt) ?_
  show own_R p.tables e below P (T32.setTop (mkF m 54 #[.val (.ref a1), .val (.ref a2), .val (.int p3), .val (.ref b28), .val (.int (0 : Int32))] [(.int (0 : Int32)), (.int (2 : Int32)), (.ref a1), (.int (((1 : Int32) + p3) + (fm 0))), (.ref b28)]))
  refine own_fwd (fun tt kt => XS.iadd X32.here hx rfl (hb hby own_d2_54) rfl kt) ?_
  show own_R p.tables e below P (T32.setTop (mkF m 55 #[.val (.ref a1), .val (.ref a2), .val (.int p3), .val (.ref b28), .val (.int (0 : Int32))] [(.int ((2 : Int32) + (0 : Int32))), (.ref a1), (.int (((1 : Int32) + p3) + (fm 0))), (.ref b28)]))
  have hv34 : ((2 : Int32) + (0 : Int32)) = (2 : Int32) := by decide
  rw [hv34]
  show own_R p.tables e below P (T32.setTop (mkF m 55 #[.val (.ref a1), .val (.ref a2), .val (.int p3), .val (.ref b28), .val (.int (0 : Int32))] [(.int (2 : Int32)), (.ref a1), (.int (((1 : Int32) + p3) + (fm 0))), (.ref b28)]))
  refine own_fwd (own_ldI X32 hx hZ e32 pV_x32 (j := (2 : Int32)) 2 (by decide) (by decide) (g := (mkF m 55 #[.val (.ref a1), .val (.ref a2), .val (.int p3), .val (.ref b28), .val (.int (0 : Int32))] [(.int (2 : Int32)), (.ref a1), (.int (((1 : Int32) + p3) + (fm 0))), (.ref b28)])) rfl rfl (hb hby own_d2_55)) ?_
  show own_R p.tables e below P (T32.setTop (mkF m 56 #[.val (.ref a1), .val (.ref a2), .val (.int p3), .val (.ref b28), .val (.int (0 : Int32))] [(.int (fv 2)), (.int (((1 : Int32) + p3) + (fm 0))), (.ref b28)]))
  obtain ⟨T35, h35, X35, e35, W35, A35_, st35⟩ := own_stI X32 hx hZ e32 A32_ (j := (((1 : Int32) + p3) + (fm 0))) (1 + n + u) (own_add (own_add own_i1 hn (by omega)) hu (by omega)) (by omega) (g := (mkF m 56 #[.val (.ref a1), .val (.ref a2), .val (.int p3), .val (.ref b28), .val (.int (0 : Int32))] [(.int (fv 2)), (.int (((1 : Int32) + p3) + (fm 0))), (.ref b28)])) rfl rfl (hb hby own_d2_56)
  have pV_x35 := pV_x32.other W35 ne28_a1
  have pM_x35 := pM_x32.other W35 ne28_a2
  have B28_x35 := B28_x32.wr W35
  have N35 := Fr.snoc X35 N32 ge_b28
  have Z35 : n0 ≤ h35.size := by rw [W35.size]; exact Z32
  have K35 := K32.wr W35 (Or.inr sz_b28)
  have Y35 : h0.size ≤ h35.size := by rw [W35.size]; exact Y32
  refine own_fwd st35 ?_
  show own_R p.tables e below P (T35.setTop (mkF m 57 #[.val (.ref a1), .val (.ref a2), .val (.int p3), .val (.ref b28), .val (.int (0 : Int32))] []))
  refine own_fwd (fun tt kt => XS.iinc X35.here hx rfl (hb hby own_d2_57) rfl (l' := #[.val (.ref a1), .val (.ref a2), .val (.int p3), .val (.ref b28), .val (.int ((0 : Int32) + (1 : Int32)))]) rfl kt) ?_
  show own_R p.tables e below P (T35.setTop (mkF m 60 #[.val (.ref a1), .val (.ref a2), .val (.int p3), .val (.ref b28), .val (.int ((0 : Int32) + (1 : Int32)))] []))
  have hv36 : ((0 : Int32) + (1 : Int32)) = (1 : Int32) := by decide
  rw [hv36]
  show own_R p.tables e below P (T35.setTop (mkF m 60 #[.val (.ref a1), .val (.ref a2), .val (.int p3), .val (.ref b28), .val (.int (1 : Int32))] []))
  refine own_fwd (fun tt kt => XS.goto X35.here hx rfl (pc0 := 60) (pc' := 17) rfl (hb hby own_d2_60) (by decide) (by decide) kt) ?_
  show own_R p.tables e below P (T35.setTop (mkF m 17 #[.val (.ref a1), .val (.ref a2), .val (.int p3), .val (.ref b28), .val (.int (1 : Int32))] []))
  refine own_fwd (fun tt kt => XS.iload X35.here hx rfl (hb hby own_d2_17) rfl kt) ?_
  show own_R p.tables e below P (T35.setTop (mkF m 19 #[.val (.ref a1), .val (.ref a2), .val (.int p3), .val (.ref b28), .val (.int (1 : Int32))] [(.int (1 : Int32))]))
  refine own_fwd (fun tt kt => XS.aloadN X35.here hx rfl (hb hby own_d2_19) rfl rfl kt) ?_
  show own_R p.tables e below P (T35.setTop (mkF m 20 #[.val (.ref a1), .val (.ref a2), .val (.int p3), .val (.ref b28), .val (.int (1 : Int32))] [(.ref a2), (.int (1 : Int32))]))
  refine own_fwd (own_len X35 hx hZ e35 pM_x35 (1 : Int32) (by decide) (g := (mkF m 20 #[.val (.ref a1), .val (.ref a2), .val (.int p3), .val (.ref b28), .val (.int (1 : Int32))] [(.ref a2), (.int (1 : Int32))])) rfl rfl (hb hby own_d2_20)) ?_
  show own_R p.tables e below P (T35.setTop (mkF m 21 #[.val (.ref a1), .val (.ref a2), .val (.int p3), .val (.ref b28), .val (.int (1 : Int32))] [(.int (1 : Int32)), (.int (1 : Int32))]))
  have hc37 : ¬ ((1 : Int32) < (1 : Int32)) := (by decide)
  refine own_fwd (fun tt kt => XS.icmpYes X35.here hx rfl (pc0 := 21) (pc' := 63) rfl (hb hby own_d2_21) rfl (flt hc37).2.1 (by decide) (by decide) kt) ?_
  show own_R p.tables e below P (T35.setTop (mkF m 63 #[.val (.ref a1), .val (.ref a2), .val (.int p3), .val (.ref b28), .val (.int (1 : Int32))] []))
  refine own_fwd (fun tt kt => XS.aloadN X35.here hx rfl (hb hby own_d2_63) rfl rfl kt) ?_
  show own_R p.tables e below P (T35.setTop (mkF m 64 #[.val (.ref a1), .val (.ref a2), .val (.int p3), .val (.ref b28), .val (.int (1 : Int32))] [(.ref b28)]))
  obtain ⟨fs38, hr38, hrun38, hended38, hW38, hsame38⟩ := X35.leave (v := some (.ref b28)) (fun h => by rw [Bd.returns] at h; cases h)
  refine ⟨_, _, X35.areturnOut hx rfl Bd.returns rfl (hb hby own_d2_64) hr38, fin _ _ ⟨hrun38, hended38, _, _, rfl, ?_, ⟨_, rfl⟩, hW38, hsame38.mono (by decide) (by decide)⟩⟩
  show own_Qmv1 Z a1 a2 p3 n fv fm u h0 n0 _ T35.heap _
  rw [e35]
  exact ⟨b28, rfl, N35, ge_b28, K35, A35_⟩
theorem own_efmv2 (m : MethodId) (a1 : Addr) (a2 : Addr) (p3 : Int32) : entryFrame m #[(.ref a1), (.ref a2), (.int p3)] 5 = mkF m 0 #[.val (.ref a1), .val (.ref a2), .val (.int p3), .unset, .unset] [] := by first | (simp [entryFrame, mkF, argsToLocals, Value.category]; done) | rfl
def own_Qmv2 (Z : State) (a1 a2 : Addr) (p3 : Int32) (n : Nat) (fv fm : Nat → Int32) (u : Nat) (vv : Nat) (h0 : Heap) (n0 : Nat) (v : Option Value) (h : Heap) (L : List Loc) : Prop := ∃ b, v = some (.ref b) ∧ Fr n0 L ∧ n0 ≤ b ∧ Keep h0 h [] ∧ own_AI Z h b .int (1 + 2 * n) (own_upd (own_upd (own_upd (own_upd (own_upd (fun _ => (0 : Int32)) 0 (fv 0)) (1 + u) (fv 1)) (1 + n + u) (fv 3)) (1 + vv) (fv 2)) (1 + n + vv) (fv 4))
set_option maxRecDepth 65536 in
set_option maxHeartbeats 40000000 in
theorem own_rmmv2 (l : Launch) (Z : State) (a0 : Array Value) (hw : ∀ d ∈ tables_1, d.before a0 Z = true) (ws : List Jvm.Cond) (a1 a2 : Addr) (p3 : Int32) (n : Nat) (fv fm : Nat → Int32) (u : Nat) (vv : Nat) (h0 : Heap) (n0 : Nat) (Z0 : n0 ≤ h0.size) (pV : own_AI Z h0 a1 .int 5 fv) (pM : own_AI Z h0 a2 .int 2 fm) (hn : p3.toInt = (n : Int)) (bn : n ≤ 3) (hu : (fm 0).toInt = (u : Int)) (bu : u < n) (hvv : (fm 1).toInt = (vv : Int)) (bvv : vv < n) :
    MetFree l (⟨"com/example/tracefold/tracefold/PlaceProgram", "moved", "([I[II)[I"⟩ : MethodName) (head1 (Jvm.Cond.code (⟨"com/example/tracefold/tracefold/PlaceProgram", "moved", "([I[II)[I"⟩ : MethodName) prog_51_method_29_code 5 (some (.array .int)) :: ws) ({ frames := 0, cells := 1, slots := 7, locals := 0 } : Room)) (fun a U => a = #[(.ref a1), (.ref a2), (.int p3)] ∧ Z.Warmed39 U.vm ∧ U.heap = h0) (fun _ _ _ _ _ => True) (fun _ U o U' => ∃ v L, o = .returned v ∧ own_Qmv2 Z a1 a2 p3 n fv fm u vv h0 n0 v U'.heap L ∧ FrameEnd U o U' L ({ frames := 0, cells := 1, slots := 7, locals := 0 } : Room).cells ({ frames := 0, cells := 1, slots := 7, locals := 0 } : Room).slots) := by
  refine MetFree.of_bodySF (plainFor_of_name own_pn1) hisR ?_
  intro p e s m args below meth c s₁ Bd hml0 hP hK
  obtain ⟨rfl, hZ, hh⟩ := hP
  have hx := Bd.exec
  have hby := Bd.bytes
  have hml : c.maxLocals = 5 := hml0
  have hown : s.vm.findClass "com/example/tracefold/tracefold/PlaceProgram" = some m.cls := findClass_of_methodNamed Bd.named
  have hnm := (name_of_methodNamed Bd.named Bd.method).1
  have X0 : Stand p l e ({ frames := 0, cells := 1, slots := 7, locals := 0 } : Room) s m #[(.ref a1), (.ref a2), (.int p3)] below meth c s₁ [] 0 0 := Stand.of_body Bd
  have e0 : s₁.heap = h0 := by rw [← hh, Bd.state]; rfl
  have N0 := Fr.nil n0
  refine own_nm (st := s₁.setTop (entryFrame m #[(.ref a1), (.ref a2), (.int p3)] 5)) fun P fin => ?_
  refine own_fwd (fun tt kt => castTop (own_efmv2 m a1 a2 p3) kt) ?_
  show own_R p.tables e below P (s₁.setTop (mkF m 0 #[.val (.ref a1), .val (.ref a2), .val (.int p3), .unset, .unset] []))
  have K0 := Keep.refl h0 []
  refine own_fwd (fun tt kt => XS.iconst X0.here hx rfl (hb hby own_d2_0) kt) ?_
  show own_R p.tables e below P (s₁.setTop (mkF m 1 #[.val (.ref a1), .val (.ref a2), .val (.int p3), .unset, .unset] [(.int (1 : Int32))]))
  refine own_fwd (fun tt kt => XS.iconst X0.here hx rfl (hb hby own_d2_1) kt) ?_
  show own_R p.tables e below P (s₁.setTop (mkF m 2 #[.val (.ref a1), .val (.ref a2), .val (.int p3), .unset, .unset] [(.int (2 : Int32)), (.int (1 : Int32))]))
  refine own_fwd (fun tt kt => XS.iloadN X0.here hx rfl (hb hby own_d2_2) rfl kt) ?_
  show own_R p.tables e below P (s₁.setTop (mkF m 3 #[.val (.ref a1), .val (.ref a2), .val (.int p3), .unset, .unset] [(.int p3), (.int (2 : Int32)), (.int (1 : Int32))]))
  refine own_fwd (fun tt kt => XS.imul X0.here hx rfl (hb hby own_d2_3) rfl kt) ?_
  show own_R p.tables e below P (s₁.setTop (mkF m 4 #[.val (.ref a1), .val (.ref a2), .val (.int p3), .unset, .unset] [(.int ((2 : Int32) * p3)), (.int (1 : Int32))]))
  refine own_fwd (fun tt kt => XS.iadd X0.here hx rfl (hb hby own_d2_4) rfl kt) ?_
  show own_R p.tables e below P (s₁.setTop (mkF m 5 #[.val (.ref a1), .val (.ref a2), .val (.int p3), .unset, .unset] [(.int ((1 : Int32) + ((2 : Int32) * p3)))]))
  obtain ⟨T39, h39, b39, g39, X39, e39, E39, A39, B39, st39⟩ := own_newA (n := (1 + 2 * n)) X0 hx hZ (hw _ (List.mem_of_getElem? (i := 4) rfl)) e0 (z := ((1 : Int32) + ((2 : Int32) * p3))) (own_12n n bn p3 hn) (cap := 7) (by omega) (g := (mkF m 5 #[.val (.ref a1), .val (.ref a2), .val (.int p3), .unset, .unset] [(.int ((1 : Int32) + ((2 : Int32) * p3)))])) rfl (hb hby own_d2_5) rfl (by decide) (by decide) (by decide) (ad := "[I") (by decide)
  have ne39_a1 : a1 ≠ b39 := Nat.ne_of_lt (by rw [g39]; exact pV.lt)
  have ne39_a2 : a2 ≠ b39 := Nat.ne_of_lt (by rw [g39]; exact pM.lt)
  have ge_b39 : n0 ≤ b39 := by rw [g39]; exact Z0
  have sz_b39 : h0.size ≤ b39 := by rw [g39]; exact (Nat.le_refl h0.size)
  have pV_x39 := pV.ext E39
  have pM_x39 := pM.ext E39
  have A39_ : own_AI Z h39 b39 .int (1 + 2 * n) (fun _ => (0 : Int32)) := A39
  have Z39 : n0 ≤ h39.size := Nat.le_trans Z0 E39.1
  have K39 := K0.ext E39
  have Y39 : h0.size ≤ h39.size := Nat.le_trans (Nat.le_refl h0.size) E39.1
  refine own_fwd st39 ?_
  show own_R p.tables e below P (T39.setTop (mkF m 7 #[.val (.ref a1), .val (.ref a2), .val (.int p3), .unset, .unset] [(.ref b39)]))
  refine own_fwd (fun tt kt => XS.astoreN X39.here hx rfl (hb hby own_d2_7) rfl rfl (l' := #[.val (.ref a1), .val (.ref a2), .val (.int p3), .val (.ref b39), .unset]) rfl kt) ?_
  show own_R p.tables e below P (T39.setTop (mkF m 8 #[.val (.ref a1), .val (.ref a2), .val (.int p3), .val (.ref b39), .unset] []))
  refine own_fwd (fun tt kt => XS.aloadN X39.here hx rfl (hb hby own_d2_8) rfl rfl kt) ?_
  show own_R p.tables e below P (T39.setTop (mkF m 9 #[.val (.ref a1), .val (.ref a2), .val (.int p3), .val (.ref b39), .unset] [(.ref b39)]))
  refine own_fwd (fun tt kt => XS.iconst X39.here hx rfl (hb hby own_d2_9) kt) ?_
  show own_R p.tables e below P (T39.setTop (mkF m 10 #[.val (.ref a1), .val (.ref a2), .val (.int p3), .val (.ref b39), .unset] [(.int (0 : Int32)), (.ref b39)]))
  refine own_fwd (fun tt kt => XS.aloadN X39.here hx rfl (hb hby own_d2_10) rfl rfl kt) ?_
  show own_R p.tables e below P (T39.setTop (mkF m 11 #[.val (.ref a1), .val (.ref a2), .val (.int p3), .val (.ref b39), .unset] [(.ref a1), (.int (0 : Int32)), (.ref b39)]))
  refine own_fwd (fun tt kt => XS.iconst X39.here hx rfl (hb hby own_d2_11) kt) ?_
  show own_R p.tables e below P (T39.setTop (mkF m 12 #[.val (.ref a1), .val (.ref a2), .val (.int p3), .val (.ref b39), .unset] [(.int (0 : Int32)), (.ref a1), (.int (0 : Int32)), (.ref b39)]))
  refine own_fwd (own_ldI X39 hx hZ e39 pV_x39 (j := (0 : Int32)) 0 (by decide) (by decide) (g := (mkF m 12 #[.val (.ref a1), .val (.ref a2), .val (.int p3), .val (.ref b39), .unset] [(.int (0 : Int32)), (.ref a1), (.int (0 : Int32)), (.ref b39)])) rfl rfl (hb hby own_d2_12)) ?_
  show own_R p.tables e below P (T39.setTop (mkF m 13 #[.val (.ref a1), .val (.ref a2), .val (.int p3), .val (.ref b39), .unset] [(.int (fv 0)), (.int (0 : Int32)), (.ref b39)]))
  obtain ⟨T40, h40, X40, e40, W40, A40_, st40⟩ := own_stI X39 hx hZ e39 A39_ (j := (0 : Int32)) 0 (by decide) (by omega) (g := (mkF m 13 #[.val (.ref a1), .val (.ref a2), .val (.int p3), .val (.ref b39), .unset] [(.int (fv 0)), (.int (0 : Int32)), (.ref b39)])) rfl rfl (hb hby own_d2_13)
  have pV_x40 := pV_x39.other W40 ne39_a1
  have pM_x40 := pM_x39.other W40 ne39_a2
  have B39_x40 := B39.wr W40
  have N40 := Fr.snoc X40 N0 ge_b39
  have Z40 : n0 ≤ h40.size := by rw [W40.size]; exact Z39
  have K40 := K39.wr W40 (Or.inr sz_b39)
  have Y40 : h0.size ≤ h40.size := by rw [W40.size]; exact Y39
  refine own_fwd st40 ?_
  show own_R p.tables e below P (T40.setTop (mkF m 14 #[.val (.ref a1), .val (.ref a2), .val (.int p3), .val (.ref b39), .unset] []))
  refine own_fwd (fun tt kt => XS.iconst X40.here hx rfl (hb hby own_d2_14) kt) ?_
  show own_R p.tables e below P (T40.setTop (mkF m 15 #[.val (.ref a1), .val (.ref a2), .val (.int p3), .val (.ref b39), .unset] [(.int (0 : Int32))]))
  refine own_fwd (fun tt kt => XS.istore X40.here hx rfl (hb hby own_d2_15) rfl (l' := #[.val (.ref a1), .val (.ref a2), .val (.int p3), .val (.ref b39), .val (.int (0 : Int32))]) rfl kt) ?_
  show own_R p.tables e below P (T40.setTop (mkF m 17 #[.val (.ref a1), .val (.ref a2), .val (.int p3), .val (.ref b39), .val (.int (0 : Int32))] []))
  refine own_fwd (fun tt kt => XS.iload X40.here hx rfl (hb hby own_d2_17) rfl kt) ?_
  show own_R p.tables e below P (T40.setTop (mkF m 19 #[.val (.ref a1), .val (.ref a2), .val (.int p3), .val (.ref b39), .val (.int (0 : Int32))] [(.int (0 : Int32))]))
  refine own_fwd (fun tt kt => XS.aloadN X40.here hx rfl (hb hby own_d2_19) rfl rfl kt) ?_
  show own_R p.tables e below P (T40.setTop (mkF m 20 #[.val (.ref a1), .val (.ref a2), .val (.int p3), .val (.ref b39), .val (.int (0 : Int32))] [(.ref a2), (.int (0 : Int32))]))
  refine own_fwd (own_len X40 hx hZ e40 pM_x40 (2 : Int32) (by decide) (g := (mkF m 20 #[.val (.ref a1), .val (.ref a2), .val (.int p3), .val (.ref b39), .val (.int (0 : Int32))] [(.ref a2), (.int (0 : Int32))])) rfl rfl (hb hby own_d2_20)) ?_
  show own_R p.tables e below P (T40.setTop (mkF m 21 #[.val (.ref a1), .val (.ref a2), .val (.int p3), .val (.ref b39), .val (.int (0 : Int32))] [(.int (2 : Int32)), (.int (0 : Int32))]))
  have hc41 : (0 : Int32) < (2 : Int32) := (by decide)
  refine own_fwd (fun tt kt => XS.icmpNo X40.here hx rfl (hb hby own_d2_21) rfl (tlt hc41).2.1 kt) ?_
  show own_R p.tables e below P (T40.setTop (mkF m 24 #[.val (.ref a1), .val (.ref a2), .val (.int p3), .val (.ref b39), .val (.int (0 : Int32))] []))
  refine own_fwd (fun tt kt => XS.aloadN X40.here hx rfl (hb hby own_d2_24) rfl rfl kt) ?_
  show own_R p.tables e below P (T40.setTop (mkF m 25 #[.val (.ref a1), .val (.ref a2), .val (.int p3), .val (.ref b39), .val (.int (0 : Int32))] [(.ref b39)]))
  refine own_fwd (fun tt kt => XS.iconst X40.here hx rfl (hb hby own_d2_25) kt) ?_
  show own_R p.tables e below P (T40.setTop (mkF m 26 #[.val (.ref a1), .val (.ref a2), .val (.int p3), .val (.ref b39), .val (.int (0 : Int32))] [(.int (1 : Int32)), (.ref b39)]))
  refine own_fwd (fun tt kt => XS.aloadN X40.here hx rfl (hb hby own_d2_26) rfl rfl kt) ?_
  show own_R p.tables e below P (T40.setTop (mkF m 27 #[.val (.ref a1), .val (.ref a2), .val (.int p3), .val (.ref b39), .val (.int (0 : Int32))] [(.ref a2), (.int (1 : Int32)), (.ref b39)]))
  refine own_fwd (fun tt kt => XS.iload X40.here hx rfl (hb hby own_d2_27) rfl kt) ?_
  show own_R p.tables e below P (T40.setTop (mkF m 29 #[.val (.ref a1), .val (.ref a2), .val (.int p3), .val (.ref b39), .val (.int (0 : Int32))] [(.int (0 : Int32)), (.ref a2), (.int (1 : Int32)), (.ref b39)]))
  refine own_fwd (own_ldI X40 hx hZ e40 pM_x40 (j := (0 : Int32)) 0 (by decide) (by decide) (g := (mkF m 29 #[.val (.ref a1), .val (.ref a2), .val (.int p3), .val (.ref b39), .val (.int (0 : Int32))] [(.int (0 : Int32)), (.ref a2), (.int (1 : Int32)), (.ref b39)])) rfl rfl (hb hby own_d2_29)) ?_
  show own_R p.tables e below P (T40.setTop (mkF m 30 #[.val (.ref a1), .val (.ref a2), .val (.int p3), .val (.ref b39), .val (.int (0 : Int32))] [(.int (fm 0)), (.int (1 : Int32)), (.ref b39)]))
  refine own_fwd (fun tt kt => XS.iadd X40.here hx rfl (hb hby own_d2_30) rfl kt) ?_
  show own_R p.tables e below P (T40.setTop (mkF m 31 #[.val (.ref a1), .val (.ref a2), .val (.int p3), .val (.ref b39), .val (.int (0 : Int32))] [(.int ((1 : Int32) + (fm 0))), (.ref b39)]))
  refine own_fwd (fun tt kt => XS.aloadN X40.here hx rfl (hb hby own_d2_31) rfl rfl kt) ?_
  show own_R p.tables e below P (T40.setTop (mkF m 32 #[.val (.ref a1), .val (.ref a2), .val (.int p3), .val (.ref b39), .val (.int (0 : Int32))] [(.ref a1), (.int ((1 : Int32) + (fm 0))), (.ref b39)]))
  refine own_fwd (fun tt kt => XS.iconst X40.here hx rfl (hb hby own_d2_32) kt) ?_
  show own_R p.tables e below P (T40.setTop (mkF m 33 #[.val (.ref a1), .val (.ref a2), .val (.int p3), .val (.ref b39), .val (.int (0 : Int32))] [(.int (1 : Int32)), (.ref a1), (.int ((1 : Int32) + (fm 0))), (.ref b39)]))
  refine own_fwd (fun tt kt => XS.iload X40.here hx rfl (hb hby own_d2_33) rfl kt) ?_
  show own_R p.tables e below P (T40.setTop (mkF m 35 #[.val (.ref a1), .val (.ref a2), .val (.int p3), .val (.ref b39), .val (.int (0 : Int32))] [(.int (0 : Int32)), (.int (1 : Int32)), (.ref a1), (.int ((1 : Int32) + (fm 0))), (.ref b39)]))
  refine own_fwd (fun tt kt => XS.iadd X40.here hx rfl (hb hby own_d2_35) rfl kt) ?_
  show own_R p.tables e below P (T40.setTop (mkF m 36 #[.val (.ref a1), .val (.ref a2), .val (.int p3), .val (.ref b39), .val (.int (0 : Int32))] [(.int ((1 : Int32) + (0 : Int32))), (.ref a1), (.int ((1 : Int32) + (fm 0))), (.ref b39)]))
  have hv42 : ((1 : Int32) + (0 : Int32)) = (1 : Int32) := by decide
  rw [hv42]
  show own_R p.tables e below P (T40.setTop (mkF m 36 #[.val (.ref a1), .val (.ref a2), .val (.int p3), .val (.ref b39), .val (.int (0 : Int32))] [(.int (1 : Int32)), (.ref a1), (.int ((1 : Int32) + (fm 0))), (.ref b39)]))
  refine own_fwd (own_ldI X40 hx hZ e40 pV_x40 (j := (1 : Int32)) 1 (by decide) (by decide) (g := (mkF m 36 #[.val (.ref a1), .val (.ref a2), .val (.int p3), .val (.ref b39), .val (.int (0 : Int32))] [(.int (1 : Int32)), (.ref a1), (.int ((1 : Int32) + (fm 0))), (.ref b39)])) rfl rfl (hb hby own_d2_36)) ?_
  show own_R p.tables e below P (T40.setTop (mkF m 37 #[.val (.ref a1), .val (.ref a2), .val (.int p3), .val (.ref b39), .val (.int (0 : Int32))] [(.int (fv 1)), (.int ((1 : Int32) + (fm 0))), (.ref b39)]))
  obtain ⟨T43, h43, X43, e43, W43, A43_, st43⟩ := own_stI X40 hx hZ e40 A40_ (j := ((1 : Int32) + (fm 0))) (1 + u) (own_add own_i1 hu (by omega)) (by omega) (g := (mkF m 37 #[.val (.ref a1), .val (.ref a2), .val (.int p3), .val (.ref b39), .val (.int (0 : Int32))] [(.int (fv 1)), (.int ((1 : Int32) + (fm 0))), (.ref b39)])) rfl rfl (hb hby own_d2_37)
  have pV_x43 := pV_x40.other W43 ne39_a1
  have pM_x43 := pM_x40.other W43 ne39_a2
  have B39_x43 := B39_x40.wr W43
  have N43 := Fr.snoc X43 N40 ge_b39
  have Z43 : n0 ≤ h43.size := by rw [W43.size]; exact Z40
  have K43 := K40.wr W43 (Or.inr sz_b39)
  have Y43 : h0.size ≤ h43.size := by rw [W43.size]; exact Y40
  refine own_fwd st43 ?_
  show own_R p.tables e below P (T43.setTop (mkF m 38 #[.val (.ref a1), .val (.ref a2), .val (.int p3), .val (.ref b39), .val (.int (0 : Int32))] []))
  refine own_fwd (fun tt kt => XS.aloadN X43.here hx rfl (hb hby own_d2_38) rfl rfl kt) ?_
  show own_R p.tables e below P (T43.setTop (mkF m 39 #[.val (.ref a1), .val (.ref a2), .val (.int p3), .val (.ref b39), .val (.int (0 : Int32))] [(.ref b39)]))
  refine own_fwd (fun tt kt => XS.iconst X43.here hx rfl (hb hby own_d2_39) kt) ?_
  show own_R p.tables e below P (T43.setTop (mkF m 40 #[.val (.ref a1), .val (.ref a2), .val (.int p3), .val (.ref b39), .val (.int (0 : Int32))] [(.int (1 : Int32)), (.ref b39)]))
  refine own_fwd (fun tt kt => XS.iloadN X43.here hx rfl (hb hby own_d2_40) rfl kt) ?_
  show own_R p.tables e below P (T43.setTop (mkF m 41 #[.val (.ref a1), .val (.ref a2), .val (.int p3), .val (.ref b39), .val (.int (0 : Int32))] [(.int p3), (.int (1 : Int32)), (.ref b39)]))
  refine own_fwd (fun tt kt => XS.iadd X43.here hx rfl (hb hby own_d2_41) rfl kt) ?_
  show own_R p.tables e below P (T43.setTop (mkF m 42 #[.val (.ref a1), .val (.ref a2), .val (.int p3), .val (.ref b39), .val (.int (0 : Int32))] [(.int ((1 : Int32) + p3)), (.ref b39)]))
  refine own_fwd (fun tt kt => XS.aloadN X43.here hx rfl (hb hby own_d2_42) rfl rfl kt) ?_
  show own_R p.tables e below P (T43.setTop (mkF m 43 #[.val (.ref a1), .val (.ref a2), .val (.int p3), .val (.ref b39), .val (.int (0 : Int32))] [(.ref a2), (.int ((1 : Int32) + p3)), (.ref b39)]))
  refine own_fwd (fun tt kt => XS.iload X43.here hx rfl (hb hby own_d2_43) rfl kt) ?_
  show own_R p.tables e below P (T43.setTop (mkF m 45 #[.val (.ref a1), .val (.ref a2), .val (.int p3), .val (.ref b39), .val (.int (0 : Int32))] [(.int (0 : Int32)), (.ref a2), (.int ((1 : Int32) + p3)), (.ref b39)]))
  refine own_fwd (own_ldI X43 hx hZ e43 pM_x43 (j := (0 : Int32)) 0 (by decide) (by decide) (g := (mkF m 45 #[.val (.ref a1), .val (.ref a2), .val (.int p3), .val (.ref b39), .val (.int (0 : Int32))] [(.int (0 : Int32)), (.ref a2), (.int ((1 : Int32) + p3)), (.ref b39)])) rfl rfl (hb hby own_d2_45)) ?_
  show own_R p.tables e below P (T43.setTop (mkF m 46 #[.val (.ref a1), .val (.ref a2), .val (.int p3), .val (.ref b39), .val (.int (0 : Int32))] [(.int (fm 0)), (.int ((1 : Int32) + p3)), (.ref b39)]))
  refine own_fwd (fun tt kt => XS.iadd X43.here hx rfl (hb hby own_d2_46) rfl kt) ?_
  show own_R p.tables e below P (T43.setTop (mkF m 47 #[.val (.ref a1), .val (.ref a2), .val (.int p3), .val (.ref b39), .val (.int (0 : Int32))] [(.int (((1 : Int32) + p3) + (fm 0))), (.ref b39)]))
  refine own_fwd (fun tt kt => XS.aloadN X43.here hx rfl (hb hby own_d2_47) rfl rfl kt) ?_
  show own_R p.tables e below P (T43.setTop (mkF m 48 #[.val (.ref a1), .val (.ref a2), .val (.int p3), .val (.ref b39), .val (.int (0 : Int32))] [(.ref a1), (.int (((1 : Int32) + p3) + (fm 0))), (.ref b39)]))
  refine own_fwd (fun tt kt => XS.iconst X43.here hx rfl (hb hby own_d2_48) kt) ?_
  show own_R p.tables e below P (T43.setTop (mkF m 49 #[.val (.ref a1), .val (.ref a2), .val (.int p3), .val (.ref b39), .val (.int (0 : Int32))] [(.int (1 : Int32)), (.ref a1), (.int (((1 : Int32) + p3) + (fm 0))), (.ref b39)]))
  refine own_fwd (fun tt kt => XS.aloadN X43.here hx rfl (hb hby own_d2_49) rfl rfl kt) ?_
  show own_R p.tables e below P (T43.setTop (mkF m 50 #[.val (.ref a1), .val (.ref a2), .val (.int p3), .val (.ref b39), .val (.int (0 : Int32))] [(.ref a2), (.int (1 : Int32)), (.ref a1), (.int (((1 : Int32) + p3) + (fm 0))), (.ref b39)]))
  refine own_fwd (own_len X43 hx hZ e43 pM_x43 (2 : Int32) (by decide) (g := (mkF m 50 #[.val (.ref a1), .val (.ref a2), .val (.int p3), .val (.ref b39), .val (.int (0 : Int32))] [(.ref a2), (.int (1 : Int32)), (.ref a1), (.int (((1 : Int32) + p3) + (fm 0))), (.ref b39)])) rfl rfl (hb hby own_d2_50)) ?_
  show own_R p.tables e below P (T43.setTop (mkF m 51 #[.val (.ref a1), .val (.ref a2), .val (.int p3), .val (.ref b39), .val (.int (0 : Int32))] [(.int (2 : Int32)), (.int (1 : Int32)), (.ref a1), (.int (((1 : Int32) + p3) + (fm 0))), (.ref b39)]))
  refine own_fwd (fun tt kt => XS.iadd X43.here hx rfl (hb hby own_d2_51) rfl kt) ?_
  show own_R p.tables e below P (T43.setTop (mkF m 52 #[.val (.ref a1), .val (.ref a2), .val (.int p3), .val (.ref b39), .val (.int (0 : Int32))] [(.int ((1 : Int32) + (2 : Int32))), (.ref a1), (.int (((1 : Int32) + p3) + (fm 0))), (.ref b39)]))
  have hv44 : ((1 : Int32) + (2 : Int32)) = (3 : Int32) := by decide
  rw [hv44]
  show own_R p.tables e below P (T43.setTop (mkF m 52 #[.val (.ref a1), .val (.ref a2), .val (.int p3), .val (.ref b39), .val (.int (0 : Int32))] [(.int (3 : Int32)), (.ref a1), (.int (((1 : Int32) + p3) + (fm 0))), (.ref b39)]))
  refine own_fwd (fun tt kt => XS.iload X43.here hx rfl (hb hby own_d2_52) rfl kt) ?_
  show own_R p.tables e below P (T43.setTop (mkF m 54 #[.val (.ref a1), .val (.ref a2), .val (.int p3), .val (.ref b39), .val (.int (0 : Int32))] [(.int (0 : Int32)), (.int (3 : Int32)), (.ref a1), (.int (((1 : Int32) + p3) + (fm 0))), (.ref b39)]))
  refine own_fwd (fun tt kt => XS.iadd X43.here hx rfl (hb hby own_d2_54) rfl kt) ?_
  show own_R p.tables e below P (T43.setTop (mkF m 55 #[.val (.ref a1), .val (.ref a2), .val (.int p3), .val (.ref b39), .val (.int (0 : Int32))] [(.int ((3 : Int32) + (0 : Int32))), (.ref a1), (.int (((1 : Int32) + p3) + (fm 0))), (.ref b39)]))
  have hv45 : ((3 : Int32) + (0 : Int32)) = (3 : Int32) := by decide
  rw [hv45]
  show own_R p.tables e below P (T43.setTop (mkF m 55 #[.val (.ref a1), .val (.ref a2), .val (.int p3), .val (.ref b39), .val (.int (0 : Int32))] [(.int (3 : Int32)), (.ref a1), (.int (((1 : Int32) + p3) + (fm 0))), (.ref b39)]))
  refine own_fwd (own_ldI X43 hx hZ e43 pV_x43 (j := (3 : Int32)) 3 (by decide) (by decide) (g := (mkF m 55 #[.val (.ref a1), .val (.ref a2), .val (.int p3), .val (.ref b39), .val (.int (0 : Int32))] [(.int (3 : Int32)), (.ref a1), (.int (((1 : Int32) + p3) + (fm 0))), (.ref b39)])) rfl rfl (hb hby own_d2_55)) ?_
  show own_R p.tables e below P (T43.setTop (mkF m 56 #[.val (.ref a1), .val (.ref a2), .val (.int p3), .val (.ref b39), .val (.int (0 : Int32))] [(.int (fv 3)), (.int (((1 : Int32) + p3) + (fm 0))), (.ref b39)]))
  obtain ⟨T46, h46, X46, e46, W46, A46_, st46⟩ := own_stI X43 hx hZ e43 A43_ (j := (((1 : Int32) + p3) + (fm 0))) (1 + n + u) (own_add (own_add own_i1 hn (by omega)) hu (by omega)) (by omega) (g := (mkF m 56 #[.val (.ref a1), .val (.ref a2), .val (.int p3), .val (.ref b39), .val (.int (0 : Int32))] [(.int (fv 3)), (.int (((1 : Int32) + p3) + (fm 0))), (.ref b39)])) rfl rfl (hb hby own_d2_56)
  have pV_x46 := pV_x43.other W46 ne39_a1
  have pM_x46 := pM_x43.other W46 ne39_a2
  have B39_x46 := B39_x43.wr W46
  have N46 := Fr.snoc X46 N43 ge_b39
  have Z46 : n0 ≤ h46.size := by rw [W46.size]; exact Z43
  have K46 := K43.wr W46 (Or.inr sz_b39)
  have Y46 : h0.size ≤ h46.size := by rw [W46.size]; exact Y43
  refine own_fwd st46 ?_
  show own_R p.tables e below P (T46.setTop (mkF m 57 #[.val (.ref a1), .val (.ref a2), .val (.int p3), .val (.ref b39), .val (.int (0 : Int32))] []))
  refine own_fwd (fun tt kt => XS.iinc X46.here hx rfl (hb hby own_d2_57) rfl (l' := #[.val (.ref a1), .val (.ref a2), .val (.int p3), .val (.ref b39), .val (.int ((0 : Int32) + (1 : Int32)))]) rfl kt) ?_
  show own_R p.tables e below P (T46.setTop (mkF m 60 #[.val (.ref a1), .val (.ref a2), .val (.int p3), .val (.ref b39), .val (.int ((0 : Int32) + (1 : Int32)))] []))
  have hv47 : ((0 : Int32) + (1 : Int32)) = (1 : Int32) := by decide
  rw [hv47]
  show own_R p.tables e below P (T46.setTop (mkF m 60 #[.val (.ref a1), .val (.ref a2), .val (.int p3), .val (.ref b39), .val (.int (1 : Int32))] []))
  refine own_fwd (fun tt kt => XS.goto X46.here hx rfl (pc0 := 60) (pc' := 17) rfl (hb hby own_d2_60) (by decide) (by decide) kt) ?_
  show own_R p.tables e below P (T46.setTop (mkF m 17 #[.val (.ref a1), .val (.ref a2), .val (.int p3), .val (.ref b39), .val (.int (1 : Int32))] []))
  refine own_fwd (fun tt kt => XS.iload X46.here hx rfl (hb hby own_d2_17) rfl kt) ?_
  show own_R p.tables e below P (T46.setTop (mkF m 19 #[.val (.ref a1), .val (.ref a2), .val (.int p3), .val (.ref b39), .val (.int (1 : Int32))] [(.int (1 : Int32))]))
  refine own_fwd (fun tt kt => XS.aloadN X46.here hx rfl (hb hby own_d2_19) rfl rfl kt) ?_
  show own_R p.tables e below P (T46.setTop (mkF m 20 #[.val (.ref a1), .val (.ref a2), .val (.int p3), .val (.ref b39), .val (.int (1 : Int32))] [(.ref a2), (.int (1 : Int32))]))
  refine own_fwd (own_len X46 hx hZ e46 pM_x46 (2 : Int32) (by decide) (g := (mkF m 20 #[.val (.ref a1), .val (.ref a2), .val (.int p3), .val (.ref b39), .val (.int (1 : Int32))] [(.ref a2), (.int (1 : Int32))])) rfl rfl (hb hby own_d2_20)) ?_
  show own_R p.tables e below P (T46.setTop (mkF m 21 #[.val (.ref a1), .val (.ref a2), .val (.int p3), .val (.ref b39), .val (.int (1 : Int32))] [(.int (2 : Int32)), (.int (1 : Int32))]))
  have hc48 : (1 : Int32) < (2 : Int32) := (by decide)
  refine own_fwd (fun tt kt => XS.icmpNo X46.here hx rfl (hb hby own_d2_21) rfl (tlt hc48).2.1 kt) ?_
  show own_R p.tables e below P (T46.setTop (mkF m 24 #[.val (.ref a1), .val (.ref a2), .val (.int p3), .val (.ref b39), .val (.int (1 : Int32))] []))
  refine own_fwd (fun tt kt => XS.aloadN X46.here hx rfl (hb hby own_d2_24) rfl rfl kt) ?_
  show own_R p.tables e below P (T46.setTop (mkF m 25 #[.val (.ref a1), .val (.ref a2), .val (.int p3), .val (.ref b39), .val (.int (1 : Int32))] [(.ref b39)]))
  refine own_fwd (fun tt kt => XS.iconst X46.here hx rfl (hb hby own_d2_25) kt) ?_
  show own_R p.tables e below P (T46.setTop (mkF m 26 #[.val (.ref a1), .val (.ref a2), .val (.int p3), .val (.ref b39), .val (.int (1 : Int32))] [(.int (1 : Int32)), (.ref b39)]))
  refine own_fwd (fun tt kt => XS.aloadN X46.here hx rfl (hb hby own_d2_26) rfl rfl kt) ?_
  show own_R p.tables e below P (T46.setTop (mkF m 27 #[.val (.ref a1), .val (.ref a2), .val (.int p3), .val (.ref b39), .val (.int (1 : Int32))] [(.ref a2), (.int (1 : Int32)), (.ref b39)]))
  refine own_fwd (fun tt kt => XS.iload X46.here hx rfl (hb hby own_d2_27) rfl kt) ?_
  show own_R p.tables e below P (T46.setTop (mkF m 29 #[.val (.ref a1), .val (.ref a2), .val (.int p3), .val (.ref b39), .val (.int (1 : Int32))] [(.int (1 : Int32)), (.ref a2), (.int (1 : Int32)), (.ref b39)]))
  refine own_fwd (own_ldI X46 hx hZ e46 pM_x46 (j := (1 : Int32)) 1 (by decide) (by decide) (g := (mkF m 29 #[.val (.ref a1), .val (.ref a2), .val (.int p3), .val (.ref b39), .val (.int (1 : Int32))] [(.int (1 : Int32)), (.ref a2), (.int (1 : Int32)), (.ref b39)])) rfl rfl (hb hby own_d2_29)) ?_
  show own_R p.tables e below P (T46.setTop (mkF m 30 #[.val (.ref a1), .val (.ref a2), .val (.int p3), .val (.ref b39), .val (.int (1 : Int32))] [(.int (fm 1)), (.int (1 : Int32)), (.ref b39)]))
  refine own_fwd (fun tt kt => XS.iadd X46.here hx rfl (hb hby own_d2_30) rfl kt) ?_
  show own_R p.tables e below P (T46.setTop (mkF m 31 #[.val (.ref a1), .val (.ref a2), .val (.int p3), .val (.ref b39), .val (.int (1 : Int32))] [(.int ((1 : Int32) + (fm 1))), (.ref b39)]))
  refine own_fwd (fun tt kt => XS.aloadN X46.here hx rfl (hb hby own_d2_31) rfl rfl kt) ?_
  show own_R p.tables e below P (T46.setTop (mkF m 32 #[.val (.ref a1), .val (.ref a2), .val (.int p3), .val (.ref b39), .val (.int (1 : Int32))] [(.ref a1), (.int ((1 : Int32) + (fm 1))), (.ref b39)]))
  refine own_fwd (fun tt kt => XS.iconst X46.here hx rfl (hb hby own_d2_32) kt) ?_
  show own_R p.tables e below P (T46.setTop (mkF m 33 #[.val (.ref a1), .val (.ref a2), .val (.int p3), .val (.ref b39), .val (.int (1 : Int32))] [(.int (1 : Int32)), (.ref a1), (.int ((1 : Int32) + (fm 1))), (.ref b39)]))
  refine own_fwd (fun tt kt => XS.iload X46.here hx rfl (hb hby own_d2_33) rfl kt) ?_
  show own_R p.tables e below P (T46.setTop (mkF m 35 #[.val (.ref a1), .val (.ref a2), .val (.int p3), .val (.ref b39), .val (.int (1 : Int32))] [(.int (1 : Int32)), (.int (1 : Int32)), (.ref a1), (.int ((1 : Int32) + (fm 1))), (.ref b39)]))
  refine own_fwd (fun tt kt => XS.iadd X46.here hx rfl (hb hby own_d2_35) rfl kt) ?_
  show own_R p.tables e below P (T46.setTop (mkF m 36 #[.val (.ref a1), .val (.ref a2), .val (.int p3), .val (.ref b39), .val (.int (1 : Int32))] [(.int ((1 : Int32) + (1 : Int32))), (.ref a1), (.int ((1 : Int32) + (fm 1))), (.ref b39)]))
  have hv49 : ((1 : Int32) + (1 : Int32)) = (2 : Int32) := by decide
  rw [hv49]
  show own_R p.tables e below P (T46.setTop (mkF m 36 #[.val (.ref a1), .val (.ref a2), .val (.int p3), .val (.ref b39), .val (.int (1 : Int32))] [(.int (2 : Int32)), (.ref a1), (.int ((1 : Int32) + (fm 1))), (.ref b39)]))
  refine own_fwd (own_ldI X46 hx hZ e46 pV_x46 (j := (2 : Int32)) 2 (by decide) (by decide) (g := (mkF m 36 #[.val (.ref a1), .val (.ref a2), .val (.int p3), .val (.ref b39), .val (.int (1 : Int32))] [(.int (2 : Int32)), (.ref a1), (.int ((1 : Int32) + (fm 1))), (.ref b39)])) rfl rfl (hb hby own_d2_36)) ?_
  show own_R p.tables e below P (T46.setTop (mkF m 37 #[.val (.ref a1), .val (.ref a2), .val (.int p3), .val (.ref b39), .val (.int (1 : Int32))] [(.int (fv 2)), (.int ((1 : Int32) + (fm 1))), (.ref b39)]))
  obtain ⟨T50, h50, X50, e50, W50, A50_, st50⟩ := own_stI X46 hx hZ e46 A46_ (j := ((1 : Int32) + (fm 1))) (1 + vv) (own_add own_i1 hvv (by omega)) (by omega) (g := (mkF m 37 #[.val (.ref a1), .val (.ref a2), .val (.int p3), .val (.ref b39), .val (.int (1 : Int32))] [(.int (fv 2)), (.int ((1 : Int32) + (fm 1))), (.ref b39)])) rfl rfl (hb hby own_d2_37)
  have pV_x50 := pV_x46.other W50 ne39_a1
  have pM_x50 := pM_x46.other W50 ne39_a2
  have B39_x50 := B39_x46.wr W50
  have N50 := Fr.snoc X50 N46 ge_b39
  have Z50 : n0 ≤ h50.size := by rw [W50.size]; exact Z46
  have K50 := K46.wr W50 (Or.inr sz_b39)
  have Y50 : h0.size ≤ h50.size := by rw [W50.size]; exact Y46
  refine own_fwd st50 ?_
  show own_R p.tables e below P (T50.setTop (mkF m 38 #[.val (.ref a1), .val (.ref a2), .val (.int p3), .val (.ref b39), .val (.int (1 : Int32))] []))
  refine own_fwd (fun tt kt => XS.aloadN X50.here hx rfl (hb hby own_d2_38) rfl rfl kt) ?_
  show own_R p.tables e below P (T50.setTop (mkF m 39 #[.val (.ref a1), .val (.ref a2), .val (.int p3), .val (.ref b39), .val (.int (1 : Int32))] [(.ref b39)]))
  refine own_fwd (fun tt kt => XS.iconst X50.here hx rfl (hb hby own_d2_39) kt) ?_
  show own_R p.tables e below P (T50.setTop (mkF m 40 #[.val (.ref a1), .val (.ref a2), .val (.int p3), .val (.ref b39), .val (.int (1 : Int32))] [(.int (1 : Int32)), (.ref b39)]))
  refine own_fwd (fun tt kt => XS.iloadN X50.here hx rfl (hb hby own_d2_40) rfl kt) ?_
  show own_R p.tables e below P (T50.setTop (mkF m 41 #[.val (.ref a1), .val (.ref a2), .val (.int p3), .val (.ref b39), .val (.int (1 : Int32))] [(.int p3), (.int (1 : Int32)), (.ref b39)]))
  refine own_fwd (fun tt kt => XS.iadd X50.here hx rfl (hb hby own_d2_41) rfl kt) ?_
  show own_R p.tables e below P (T50.setTop (mkF m 42 #[.val (.ref a1), .val (.ref a2), .val (.int p3), .val (.ref b39), .val (.int (1 : Int32))] [(.int ((1 : Int32) + p3)), (.ref b39)]))
  refine own_fwd (fun tt kt => XS.aloadN X50.here hx rfl (hb hby own_d2_42) rfl rfl kt) ?_
  show own_R p.tables e below P (T50.setTop (mkF m 43 #[.val (.ref a1), .val (.ref a2), .val (.int p3), .val (.ref b39), .val (.int (1 : Int32))] [(.ref a2), (.int ((1 : Int32) + p3)), (.ref b39)]))
  refine own_fwd (fun tt kt => XS.iload X50.here hx rfl (hb hby own_d2_43) rfl kt) ?_
  show own_R p.tables e below P (T50.setTop (mkF m 45 #[.val (.ref a1), .val (.ref a2), .val (.int p3), .val (.ref b39), .val (.int (1 : Int32))] [(.int (1 : Int32)), (.ref a2), (.int ((1 : Int32) + p3)), (.ref b39)]))
  refine own_fwd (own_ldI X50 hx hZ e50 pM_x50 (j := (1 : Int32)) 1 (by decide) (by decide) (g := (mkF m 45 #[.val (.ref a1), .val (.ref a2), .val (.int p3), .val (.ref b39), .val (.int (1 : Int32))] [(.int (1 : Int32)), (.ref a2), (.int ((1 : Int32) + p3)), (.ref b39)])) rfl rfl (hb hby own_d2_45)) ?_
  show own_R p.tables e below P (T50.setTop (mkF m 46 #[.val (.ref a1), .val (.ref a2), .val (.int p3), .val (.ref b39), .val (.int (1 : Int32))] [(.int (fm 1)), (.int ((1 : Int32) + p3)), (.ref b39)]))
  refine own_fwd (fun tt kt => XS.iadd X50.here hx rfl (hb hby own_d2_46) rfl kt) ?_
  show own_R p.tables e below P (T50.setTop (mkF m 47 #[.val (.ref a1), .val (.ref a2), .val (.int p3), .val (.ref b39), .val (.int (1 : Int32))] [(.int (((1 : Int32) + p3) + (fm 1))), (.ref b39)]))
  refine own_fwd (fun tt kt => XS.aloadN X50.here hx rfl (hb hby own_d2_47) rfl rfl kt) ?_
  show own_R p.tables e below P (T50.setTop (mkF m 48 #[.val (.ref a1), .val (.ref a2), .val (.int p3), .val (.ref b39), .val (.int (1 : Int32))] [(.ref a1), (.int (((1 : Int32) + p3) + (fm 1))), (.ref b39)]))
  refine own_fwd (fun tt kt => XS.iconst X50.here hx rfl (hb hby own_d2_48) kt) ?_
  show own_R p.tables e below P (T50.setTop (mkF m 49 #[.val (.ref a1), .val (.ref a2), .val (.int p3), .val (.ref b39), .val (.int (1 : Int32))] [(.int (1 : Int32)), (.ref a1), (.int (((1 : Int32) + p3) + (fm 1))), (.ref b39)]))
  refine own_fwd (fun tt kt => XS.aloadN X50.here hx rfl (hb hby own_d2_49) rfl rfl kt) ?_
  show own_R p.tables e below P (T50.setTop (mkF m 50 #[.val (.ref a1), .val (.ref a2), .val (.int p3), .val (.ref b39), .val (.int (1 : Int32))] [(.ref a2), (.int (1 : Int32)), (.ref a1), (.int (((1 : Int32) + p3) + (fm 1))), (.ref b39)]))
  refine own_fwd (own_len X50 hx hZ e50 pM_x50 (2 : Int32) (by decide) (g := (mkF m 50 #[.val (.ref a1), .val (.ref a2), .val (.int p3), .val (.ref b39), .val (.int (1 : Int32))] [(.ref a2), (.int (1 : Int32)), (.ref a1), (.int (((1 : Int32) + p3) + (fm 1))), (.ref b39)])) rfl rfl (hb hby own_d2_50)) ?_
  show own_R p.tables e below P (T50.setTop (mkF m 51 #[.val (.ref a1), .val (.ref a2), .val (.int p3), .val (.ref b39), .val (.int (1 : Int32))] [(.int (2 : Int32)), (.int (1 : Int32)), (.ref a1), (.int (((1 : Int32) + p3) + (fm 1))), (.ref b39)]))
  refine own_fwd (fun tt kt => XS.iadd X50.here hx rfl (hb hby own_d2_51) rfl kt) ?_
  show own_R p.tables e below P (T50.setTop (mkF m 52 #[.val (.ref a1), .val (.ref a2), .val (.int p3), .val (.ref b39), .val (.int (1 : Int32))] [(.int ((1 : Int32) + (2 : Int32))), (.ref a1), (.int (((1 : Int32) + p3) + (fm 1))), (.ref b39)]))
  have hv51 : ((1 : Int32) + (2 : Int32)) = (3 : Int32) := by decide
  rw [hv51]
  show own_R p.tables e below P (T50.setTop (mkF m 52 #[.val (.ref a1), .val (.ref a2), .val (.int p3), .val (.ref b39), .val (.int (1 : Int32))] [(.int (3 : Int32)), (.ref a1), (.int (((1 : Int32) + p3) + (fm 1))), (.ref b39)]))
  refine own_fwd (fun tt kt => XS.iload X50.here hx rfl (hb hby own_d2_52) rfl kt) ?_
  show own_R p.tables e below P (T50.setTop (mkF m 54 #[.val (.ref a1), .val (.ref a2), .val (.int p3), .val (.ref b39), .val (.int (1 : Int32))] [(.int (1 : Int32)), (.int (3 : Int32)), (.ref a1), (.int (((1 : Int32) + p3) + (fm 1))), (.ref b39)]))
  refine own_fwd (fun tt kt => XS.iadd X50.here hx rfl (hb hby own_d2_54) rfl kt) ?_
  show own_R p.tables e below P (T50.setTop (mkF m 55 #[.val (.ref a1), .val (.ref a2), .val (.int p3), .val (.ref b39), .val (.int (1 : Int32))] [(.int ((3 : Int32) + (1 : Int32))), (.ref a1), (.int (((1 : Int32) + p3) + (fm 1))), (.ref b39)]))
  have hv52 : ((3 : Int32) + (1 : Int32)) = (4 : Int32) := by decide
  rw [hv52]
  show own_R p.tables e below P (T50.setTop (mkF m 55 #[.val (.ref a1), .val (.ref a2), .val (.int p3), .val (.ref b39), .val (.int (1 : Int32))] [(.int (4 : Int32)), (.ref a1), (.int (((1 : Int32) + p3) + (fm 1))), (.ref b39)]))
  refine own_fwd (own_ldI X50 hx hZ e50 pV_x50 (j := (4 : Int32)) 4 (by decide) (by decide) (g := (mkF m 55 #[.val (.ref a1), .val (.ref a2), .val (.int p3), .val (.ref b39), .val (.int (1 : Int32))] [(.int (4 : Int32)), (.ref a1), (.int (((1 : Int32) + p3) + (fm 1))), (.ref b39)])) rfl rfl (hb hby own_d2_55)) ?_
  show own_R p.tables e below P (T50.setTop (mkF m 56 #[.val (.ref a1), .val (.ref a2), .val (.int p3), .val (.ref b39), .val (.int (1 : Int32))] [(.int (fv 4)), (.int (((1 : Int32) + p3) + (fm 1))), (.ref b39)]))
  obtain ⟨T53, h53, X53, e53, W53, A53_, st53⟩ := own_stI X50 hx hZ e50 A50_ (j := (((1 : Int32) + p3) + (fm 1))) (1 + n + vv) (own_add (own_add own_i1 hn (by omega)) hvv (by omega)) (by omega) (g := (mkF m 56 #[.val (.ref a1), .val (.ref a2), .val (.int p3), .val (.ref b39), .val (.int (1 : Int32))] [(.int (fv 4)), (.int (((1 : Int32) + p3) + (fm 1))), (.ref b39)])) rfl rfl (hb hby own_d2_56)
  have pV_x53 := pV_x50.other W53 ne39_a1
  have pM_x53 := pM_x50.other W53 ne39_a2
  have B39_x53 := B39_x50.wr W53
  have N53 := Fr.snoc X53 N50 ge_b39
  have Z53 : n0 ≤ h53.size := by rw [W53.size]; exact Z50
  have K53 := K50.wr W53 (Or.inr sz_b39)
  have Y53 : h0.size ≤ h53.size := by rw [W53.size]; exact Y50
  refine own_fwd st53 ?_
  show own_R p.tables e below P (T53.setTop (mkF m 57 #[.val (.ref a1), .val (.ref a2), .val (.int p3), .val (.ref b39), .val (.int (1 : Int32))] []))
  refine own_fwd (fun tt kt => XS.iinc X53.here hx rfl (hb hby own_d2_57) rfl (l' := #[.val (.ref a1), .val (.ref a2), .val (.int p3), .val (.ref b39), .val (.int ((1 : Int32) + (1 : Int32)))]) rfl kt) ?_
  show own_R p.tables e below P (T53.setTop (mkF m 60 #[.val (.ref a1), .val (.ref a2), .val (.int p3), .val (.ref b39), .val (.int ((1 : Int32) + (1 : Int32)))] []))
  have hv54 : ((1 : Int32) + (1 : Int32)) = (2 : Int32) := by decide
  rw [hv54]
  show own_R p.tables e below P (T53.setTop (mkF m 60 #[.val (.ref a1), .val (.ref a2), .val (.int p3), .val (.ref b39), .val (.int (2 : Int32))] []))
  refine own_fwd (fun tt kt => XS.goto X53.here hx rfl (pc0 := 60) (pc' := 17) rfl (hb hby own_d2_60) (by decide) (by decide) kt) ?_
  show own_R p.tables e below P (T53.setTop (mkF m 17 #[.val (.ref a1), .val (.ref a2), .val (.int p3), .val (.ref b39), .val (.int (2 : Int32))] []))
  refine own_fwd (fun tt kt => XS.iload X53.here hx rfl (hb hby own_d2_17) rfl kt) ?_
  show own_R p.tables e below P (T53.setTop (mkF m 19 #[.val (.ref a1), .val (.ref a2), .val (.int p3), .val (.ref b39), .val (.int (2 : Int32))] [(.int (2 : Int32))]))
  refine own_fwd (fun tt kt => XS.aloadN X53.here hx rfl (hb hby own_d2_19) rfl rfl kt) ?_
  show own_R p.tables e below P (T53.setTop (mkF m 20 #[.val (.ref a1), .val (.ref a2), .val (.int p3), .val (.ref b39), .val (.int (2 : Int32))] [(.ref a2), (.int (2 : Int32))]))
  refine own_fwd (own_len X53 hx hZ e53 pM_x53 (2 : Int32) (by decide) (g := (mkF m 20 #[.val (.ref a1), .val (.ref a2), .val (.int p3), .val (.ref b39), .val (.int (2 : Int32))] [(.ref a2), (.int (2 : Int32))])) rfl rfl (hb hby own_d2_20)) ?_
  show own_R p.tables e below P (T53.setTop (mkF m 21 #[.val (.ref a1), .val (.ref a2), .val (.int p3), .val (.ref b39), .val (.int (2 : Int32))] [(.int (2 : Int32)), (.int (2 : Int32))]))
  have hc55 : ¬ ((2 : Int32) < (2 : Int32)) := (by decide)
  refine own_fwd (fun tt kt => XS.icmpYes X53.here hx rfl (pc0 := 21) (pc' := 63) rfl (hb hby own_d2_21) rfl (flt hc55).2.1 (by decide) (by decide) kt) ?_
  show own_R p.tables e below P (T53.setTop (mkF m 63 #[.val (.ref a1), .val (.ref a2), .val (.int p3), .val (.ref b39), .val (.int (2 : Int32))] []))
  refine own_fwd (fun tt kt => XS.aloadN X53.here hx rfl (hb hby own_d2_63) rfl rfl kt) ?_
  show own_R p.tables e below P (T53.setTop (mkF m 64 #[.val (.ref a1), .val (.ref a2), .val (.int p3), .val (.ref b39), .val (.int (2 : Int32))] [(.ref b39)]))
  obtain ⟨fs56, hr56, hrun56, hended56, hW56, hsame56⟩ := X53.leave (v := some (.ref b39)) (fun h => by rw [Bd.returns] at h; cases h)
  refine ⟨_, _, X53.areturnOut hx rfl Bd.returns rfl (hb hby own_d2_64) hr56, fin _ _ ⟨hrun56, hended56, _, _, rfl, ?_, ⟨_, rfl⟩, hW56, hsame56.mono (by decide) (by decide)⟩⟩
  show own_Qmv2 Z a1 a2 p3 n fv fm u vv h0 n0 _ T53.heap _
  rw [e53]
  exact ⟨b39, rfl, N53, ge_b39, K53, A53_⟩
theorem own_pd1 : parseMethodDescriptor "(II)I" = some ⟨[.int, .int], some .int⟩ := by decide +kernel
theorem own_pd2 : parseMethodDescriptor "([I[II)[I" = some ⟨[(.array .int), (.array .int), .int], some (.array .int)⟩ := by decide +kernel
theorem own_pd3 : parseMethodDescriptor "([IIIIIIIIII)Z" = some ⟨[(.array .int), .int, .int, .int, .int, .int, .int, .int, .int, .int], some .boolean⟩ := by decide +kernel
theorem own_eflaw (m : MethodId) (p0 : Int32) (p1 : Int32) (p2 : Int32) (p3 : Int32) (p4 : Int32) (p5 : Int32) : entryFrame m #[(.int p0), (.int p1), (.int p2), (.int p3), (.int p4), (.int p5)] maxLocals = mkF m 0 #[.val (.int p0), .val (.int p1), .val (.int p2), .val (.int p3), .val (.int p4), .val (.int p5), .unset, .unset, .unset, .unset, .unset, .unset, .unset, .unset, .unset] [] := by first | (simp [entryFrame, mkF, argsToLocals, Value.category, maxLocals]; done) | rfl
def own_Qlaw (Z : State) (p0 p1 p2 p3 p4 p5 : Int32) (h0 : Heap) (n0 : Nat) (v : Option Value) (h : Heap) (L : List Loc) : Prop := v = some (.int 1) ∧ Fr n0 L
set_option maxRecDepth 65536 in
set_option maxHeartbeats 40000000 in
theorem own_rmlaw (l : Launch) (Z : State) (a0 : Array Value) (hw : ∀ d ∈ tables_1, d.before a0 Z = true) (ws : List Jvm.Cond) (p0 p1 p2 p3 p4 p5 : Int32) (h0 : Heap) (n0 : Nat) (Z0 : n0 ≤ h0.size) :
    MetFree l x (head1 (Jvm.Cond.code x code maxLocals ret :: ws) room_1) (fun a U => a = #[(.int p0), (.int p1), (.int p2), (.int p3), (.int p4), (.int p5)] ∧ Z.Warmed39 U.vm ∧ U.heap = h0) (fun _ _ _ _ _ => True) (fun _ U o U' => ∃ v L, o = .returned v ∧ own_Qlaw Z p0 p1 p2 p3 p4 p5 h0 n0 v U'.heap L ∧ FrameEnd U o U' L 16 128) := by
  refine MetFree.of_bodySF (plainFor_of_name own_pn0) hisR ?_
  intro p e s m args below meth c s₁ Bd hml0 hP hK
  obtain ⟨rfl, hZ, hh⟩ := hP
  have hx := Bd.exec
  have hby := Bd.bytes
  have hml : c.maxLocals = 15 := hml0
  have hown : s.vm.findClass "com/example/tracefold/tracefold/PlaceProgramMovedPinLaw" = some m.cls := findClass_of_methodNamed Bd.named
  have hnm := (name_of_methodNamed Bd.named Bd.method).1
  have X0 : Stand p l e room_1 s m #[(.int p0), (.int p1), (.int p2), (.int p3), (.int p4), (.int p5)] below meth c s₁ [] 0 0 := Stand.of_body Bd
  have e0 : s₁.heap = h0 := by rw [← hh, Bd.state]; rfl
  have N0 := Fr.nil n0
  refine own_nm (st := s₁.setTop (entryFrame m #[(.int p0), (.int p1), (.int p2), (.int p3), (.int p4), (.int p5)] maxLocals)) fun P fin => ?_
  refine own_fwd (fun tt kt => castTop (own_eflaw m p0 p1 p2 p3 p4 p5) kt) ?_
  show own_R p.tables e below P (s₁.setTop (mkF m 0 #[.val (.int p0), .val (.int p1), .val (.int p2), .val (.int p3), .val (.int p4), .val (.int p5), .unset, .unset, .unset, .unset, .unset, .unset, .unset, .unset, .unset] []))
  refine own_fwd (fun tt kt => XS.iload X0.here hx rfl (hb hby at_0) rfl kt) ?_
  show own_R p.tables e below P (s₁.setTop (mkF m 2 #[.val (.int p0), .val (.int p1), .val (.int p2), .val (.int p3), .val (.int p4), .val (.int p5), .unset, .unset, .unset, .unset, .unset, .unset, .unset, .unset, .unset] [(.int p5)]))
  refine own_fwd (fun tt kt => XS.iconst X0.here hx rfl (hb hby at_2) kt) ?_
  show own_R p.tables e below P (s₁.setTop (mkF m 3 #[.val (.int p0), .val (.int p1), .val (.int p2), .val (.int p3), .val (.int p4), .val (.int p5), .unset, .unset, .unset, .unset, .unset, .unset, .unset, .unset, .unset] [(.int (3 : Int32)), (.int p5)]))
  refine own_fwd (fun tt kt => XS.iand X0.here hx rfl (hb hby at_3) rfl kt) ?_
  show own_R p.tables e below P (s₁.setTop (mkF m 4 #[.val (.int p0), .val (.int p1), .val (.int p2), .val (.int p3), .val (.int p4), .val (.int p5), .unset, .unset, .unset, .unset, .unset, .unset, .unset, .unset, .unset] [(.int (p5 &&& (3 : Int32)))]))
  refine own_fwd (fun tt kt => XS.iconst X0.here hx rfl (hb hby at_4) kt) ?_
  show own_R p.tables e below P (s₁.setTop (mkF m 5 #[.val (.int p0), .val (.int p1), .val (.int p2), .val (.int p3), .val (.int p4), .val (.int p5), .unset, .unset, .unset, .unset, .unset, .unset, .unset, .unset, .unset] [(.int (3 : Int32)), (.int (p5 &&& (3 : Int32)))]))
  refine own_fwd (fun tt kt => iremM X0 hx rfl (hb hby at_5) rfl (by decide) kt) ?_
  show own_R p.tables e below P (s₁.setTop (mkF m 6 #[.val (.int p0), .val (.int p1), .val (.int p2), .val (.int p3), .val (.int p4), .val (.int p5), .unset, .unset, .unset, .unset, .unset, .unset, .unset, .unset, .unset] [(.int ((p5 &&& (3 : Int32)) % (3 : Int32)))]))
  rcases own_m3 p5 with hs | hs | hs
  · rw [hs]
    show own_R p.tables e below P (s₁.setTop (mkF m 6 #[.val (.int p0), .val (.int p1), .val (.int p2), .val (.int p3), .val (.int p4), .val (.int p5), .unset, .unset, .unset, .unset, .unset, .unset, .unset, .unset, .unset] [(.int (0 : Int32))]))
    refine own_fwd (fun tt kt => XS.istore X0.here hx rfl (hb hby at_6) rfl (l' := #[.val (.int p0), .val (.int p1), .val (.int p2), .val (.int p3), .val (.int p4), .val (.int p5), .val (.int (0 : Int32)), .unset, .unset, .unset, .unset, .unset, .unset, .unset, .unset]) rfl kt) ?_
    show own_R p.tables e below P (s₁.setTop (mkF m 8 #[.val (.int p0), .val (.int p1), .val (.int p2), .val (.int p3), .val (.int p4), .val (.int p5), .val (.int (0 : Int32)), .unset, .unset, .unset, .unset, .unset, .unset, .unset, .unset] []))
    refine own_fwd (fun tt kt => XS.iconst X0.here hx rfl (hb hby at_8) kt) ?_
    show own_R p.tables e below P (s₁.setTop (mkF m 9 #[.val (.int p0), .val (.int p1), .val (.int p2), .val (.int p3), .val (.int p4), .val (.int p5), .val (.int (0 : Int32)), .unset, .unset, .unset, .unset, .unset, .unset, .unset, .unset] [(.int (3 : Int32))]))
    refine own_fwd (fun tt kt => XS.iload X0.here hx rfl (hb hby at_9) rfl kt) ?_
    show own_R p.tables e below P (s₁.setTop (mkF m 11 #[.val (.int p0), .val (.int p1), .val (.int p2), .val (.int p3), .val (.int p4), .val (.int p5), .val (.int (0 : Int32)), .unset, .unset, .unset, .unset, .unset, .unset, .unset, .unset] [(.int (0 : Int32)), (.int (3 : Int32))]))
    refine own_fwd (fun tt kt => XS.iload X0.here hx rfl (hb hby at_11) rfl kt) ?_
    show own_R p.tables e below P (s₁.setTop (mkF m 13 #[.val (.int p0), .val (.int p1), .val (.int p2), .val (.int p3), .val (.int p4), .val (.int p5), .val (.int (0 : Int32)), .unset, .unset, .unset, .unset, .unset, .unset, .unset, .unset] [(.int p5), (.int (0 : Int32)), (.int (3 : Int32))]))
    refine own_fwd (fun tt kt => XS.iconst X0.here hx rfl (hb hby at_13) kt) ?_
    show own_R p.tables e below P (s₁.setTop (mkF m 14 #[.val (.int p0), .val (.int p1), .val (.int p2), .val (.int p3), .val (.int p4), .val (.int p5), .val (.int (0 : Int32)), .unset, .unset, .unset, .unset, .unset, .unset, .unset, .unset] [(.int (2 : Int32)), (.int p5), (.int (0 : Int32)), (.int (3 : Int32))]))
    refine own_fwd (fun tt kt => XS.iushr X0.here hx rfl (hb hby at_14) rfl kt) ?_
    show own_R p.tables e below P (s₁.setTop (mkF m 15 #[.val (.int p0), .val (.int p1), .val (.int p2), .val (.int p3), .val (.int p4), .val (.int p5), .val (.int (0 : Int32)), .unset, .unset, .unset, .unset, .unset, .unset, .unset, .unset] [(.int ((p5.toUInt32 >>> ((2 : Int32) &&& 31).toUInt32).toInt32)), (.int (0 : Int32)), (.int (3 : Int32))]))
    refine own_fwd (fun tt kt => XS.iconst X0.here hx rfl (hb hby at_15) kt) ?_
    show own_R p.tables e below P (s₁.setTop (mkF m 16 #[.val (.int p0), .val (.int p1), .val (.int p2), .val (.int p3), .val (.int p4), .val (.int p5), .val (.int (0 : Int32)), .unset, .unset, .unset, .unset, .unset, .unset, .unset, .unset] [(.int (3 : Int32)), (.int ((p5.toUInt32 >>> ((2 : Int32) &&& 31).toUInt32).toInt32)), (.int (0 : Int32)), (.int (3 : Int32))]))
    refine own_fwd (fun tt kt => XS.iand X0.here hx rfl (hb hby at_16) rfl kt) ?_
    show own_R p.tables e below P (s₁.setTop (mkF m 17 #[.val (.int p0), .val (.int p1), .val (.int p2), .val (.int p3), .val (.int p4), .val (.int p5), .val (.int (0 : Int32)), .unset, .unset, .unset, .unset, .unset, .unset, .unset, .unset] [(.int (((p5.toUInt32 >>> ((2 : Int32) &&& 31).toUInt32).toInt32) &&& (3 : Int32))), (.int (0 : Int32)), (.int (3 : Int32))]))
    refine own_fwd (fun tt kt => XS.iadd X0.here hx rfl (hb hby at_17) rfl kt) ?_
    show own_R p.tables e below P (s₁.setTop (mkF m 18 #[.val (.int p0), .val (.int p1), .val (.int p2), .val (.int p3), .val (.int p4), .val (.int p5), .val (.int (0 : Int32)), .unset, .unset, .unset, .unset, .unset, .unset, .unset, .unset] [(.int ((0 : Int32) + (((p5.toUInt32 >>> ((2 : Int32) &&& 31).toUInt32).toInt32) &&& (3 : Int32)))), (.int (3 : Int32))]))
    obtain ⟨_, _, ⟨T57, L57, k57, n57⟩, -, X57, ⟨Lc57, hQ57, l57, y57, z57⟩, st57⟩ := Jvm.LawKit.callS X0 hx (y := (⟨"java/lang/Math", "min", "(II)I"⟩ : MethodName)) hown (mvT hZ (hw _ (List.mem_of_getElem? (i := 0) rfl))) (mvT hZ (hw _ (List.mem_of_getElem? (i := 1) rfl))) (mvT hZ (hw _ (List.mem_of_getElem? (i := 2) rfl))) (mvT hZ (hw _ (List.mem_of_getElem? (i := 3) rfl))) (by decide) (backOf (W := 0) (own_rm1 l Z a0 hw [] (3 : Int32) ((0 : Int32) + (((p5.toUInt32 >>> ((2 : Int32) &&& 31).toUInt32).toInt32) &&& (3 : Int32))) h0 n0 Z0 ) hZ (hw _ (List.mem_of_getElem? (i := 3) rfl)) (hw _ (List.mem_of_getElem? (i := 2) rfl)) (by decide) (by decide)) (g := (mkF m 18 #[.val (.int p0), .val (.int p1), .val (.int p2), .val (.int p3), .val (.int p4), .val (.int p5), .val (.int (0 : Int32)), .unset, .unset, .unset, .unset, .unset, .unset, .unset, .unset] [(.int ((0 : Int32) + (((p5.toUInt32 >>> ((2 : Int32) &&& 31).toUInt32).toInt32) &&& (3 : Int32)))), (.int (3 : Int32))])) rfl (by rw [hml]; rfl) (argsL := [(.int (3 : Int32)), (.int ((0 : Int32) + (((p5.toUInt32 >>> ((2 : Int32) &&& 31).toUInt32).toInt32) &&& (3 : Int32))))]) (rest := []) (lenOf own_pd1 rfl) rfl (by show 2 * 0 + _ ≤ _; exact Nat.le_of_eq rfl) (hb hby at_18) (fun _ _ => ⟨rfl, e0, (by decide : 0 + 0 ≤ _), (by decide : 0 + 0 ≤ _)⟩)
    dsimp only [Pt.U, Pt.locs, Pt.cells, Pt.slots] at X57 l57 y57 z57 st57 hQ57
    subst l57 y57 z57
    obtain ⟨h57, e57⟩ : ∃ z, T57.heap = z := ⟨_, rfl⟩
    rw [e57] at hQ57
    obtain ⟨hq57, N57q, q57⟩ := hQ57
    rw [q57] at e57
    subst hq57
    have N57 := Fr.app N0 N57q
    refine own_fwd st57 ?_
    show own_R p.tables e below P (T57.setTop (mkF m 21 #[.val (.int p0), .val (.int p1), .val (.int p2), .val (.int p3), .val (.int p4), .val (.int p5), .val (.int (0 : Int32)), .unset, .unset, .unset, .unset, .unset, .unset, .unset, .unset] [(.int (if ((0 : Int32) + (((p5.toUInt32 >>> ((2 : Int32) &&& 31).toUInt32).toInt32) &&& (3 : Int32))) < (3 : Int32) then ((0 : Int32) + (((p5.toUInt32 >>> ((2 : Int32) &&& 31).toUInt32).toInt32) &&& (3 : Int32))) else (3 : Int32)))]))
    obtain ⟨n, hn, mn, bn⟩ := own_n (0 : Int32) 0 rfl (by omega) ((p5.toUInt32 >>> ((2 : Int32) &&& 31).toUInt32).toInt32)
    rw [hn]
    show own_R p.tables e below P (T57.setTop (mkF m 21 #[.val (.int p0), .val (.int p1), .val (.int p2), .val (.int p3), .val (.int p4), .val (.int p5), .val (.int (0 : Int32)), .unset, .unset, .unset, .unset, .unset, .unset, .unset, .unset] [(.int n.toInt32)]))
    have ln : n.toInt32.toInt = (n : Int) := len_toInt (by omega)
    refine own_fwd (fun tt kt => XS.istore X57.here hx rfl (hb hby at_21) rfl (l' := #[.val (.int p0), .val (.int p1), .val (.int p2), .val (.int p3), .val (.int p4), .val (.int p5), .val (.int (0 : Int32)), .val (.int n.toInt32), .unset, .unset, .unset, .unset, .unset, .unset, .unset]) rfl kt) ?_
    show own_R p.tables e below P (T57.setTop (mkF m 23 #[.val (.int p0), .val (.int p1), .val (.int p2), .val (.int p3), .val (.int p4), .val (.int p5), .val (.int (0 : Int32)), .val (.int n.toInt32), .unset, .unset, .unset, .unset, .unset, .unset, .unset] []))
    refine own_fwd (fun tt kt => XS.iload X57.here hx rfl (hb hby at_23) rfl kt) ?_
    show own_R p.tables e below P (T57.setTop (mkF m 25 #[.val (.int p0), .val (.int p1), .val (.int p2), .val (.int p3), .val (.int p4), .val (.int p5), .val (.int (0 : Int32)), .val (.int n.toInt32), .unset, .unset, .unset, .unset, .unset, .unset, .unset] [(.int p5)]))
    refine own_fwd (fun tt kt => XS.iconst X57.here hx rfl (hb hby at_25) kt) ?_
    show own_R p.tables e below P (T57.setTop (mkF m 26 #[.val (.int p0), .val (.int p1), .val (.int p2), .val (.int p3), .val (.int p4), .val (.int p5), .val (.int (0 : Int32)), .val (.int n.toInt32), .unset, .unset, .unset, .unset, .unset, .unset, .unset] [(.int (4 : Int32)), (.int p5)]))
    refine own_fwd (fun tt kt => XS.iushr X57.here hx rfl (hb hby at_26) rfl kt) ?_
    show own_R p.tables e below P (T57.setTop (mkF m 27 #[.val (.int p0), .val (.int p1), .val (.int p2), .val (.int p3), .val (.int p4), .val (.int p5), .val (.int (0 : Int32)), .val (.int n.toInt32), .unset, .unset, .unset, .unset, .unset, .unset, .unset] [(.int ((p5.toUInt32 >>> ((4 : Int32) &&& 31).toUInt32).toInt32))]))
    refine own_fwd (fun tt kt => XS.bipush X57.here hx rfl (hb hby at_27) kt) ?_
    show own_R p.tables e below P (T57.setTop (mkF m 29 #[.val (.int p0), .val (.int p1), .val (.int p2), .val (.int p3), .val (.int p4), .val (.int p5), .val (.int (0 : Int32)), .val (.int n.toInt32), .unset, .unset, .unset, .unset, .unset, .unset, .unset] [(.int (7 : Int32)), (.int ((p5.toUInt32 >>> ((4 : Int32) &&& 31).toUInt32).toInt32))]))
    refine own_fwd (fun tt kt => XS.iand X57.here hx rfl (hb hby at_29) rfl kt) ?_
    show own_R p.tables e below P (T57.setTop (mkF m 30 #[.val (.int p0), .val (.int p1), .val (.int p2), .val (.int p3), .val (.int p4), .val (.int p5), .val (.int (0 : Int32)), .val (.int n.toInt32), .unset, .unset, .unset, .unset, .unset, .unset, .unset] [(.int (((p5.toUInt32 >>> ((4 : Int32) &&& 31).toUInt32).toInt32) &&& (7 : Int32)))]))
    refine own_fwd (fun tt kt => XS.istore X57.here hx rfl (hb hby at_30) rfl (l' := #[.val (.int p0), .val (.int p1), .val (.int p2), .val (.int p3), .val (.int p4), .val (.int p5), .val (.int (0 : Int32)), .val (.int n.toInt32), .val (.int (((p5.toUInt32 >>> ((4 : Int32) &&& 31).toUInt32).toInt32) &&& (7 : Int32))), .unset, .unset, .unset, .unset, .unset, .unset]) rfl kt) ?_
    show own_R p.tables e below P (T57.setTop (mkF m 32 #[.val (.int p0), .val (.int p1), .val (.int p2), .val (.int p3), .val (.int p4), .val (.int p5), .val (.int (0 : Int32)), .val (.int n.toInt32), .val (.int (((p5.toUInt32 >>> ((4 : Int32) &&& 31).toUInt32).toInt32) &&& (7 : Int32))), .unset, .unset, .unset, .unset, .unset, .unset] []))
    refine own_fwd (fun tt kt => XS.iload X57.here hx rfl (hb hby at_32) rfl kt) ?_
    show own_R p.tables e below P (T57.setTop (mkF m 34 #[.val (.int p0), .val (.int p1), .val (.int p2), .val (.int p3), .val (.int p4), .val (.int p5), .val (.int (0 : Int32)), .val (.int n.toInt32), .val (.int (((p5.toUInt32 >>> ((4 : Int32) &&& 31).toUInt32).toInt32) &&& (7 : Int32))), .unset, .unset, .unset, .unset, .unset, .unset] [(.int p5)]))
    refine own_fwd (fun tt kt => XS.bipush X57.here hx rfl (hb hby at_34) kt) ?_
    show own_R p.tables e below P (T57.setTop (mkF m 36 #[.val (.int p0), .val (.int p1), .val (.int p2), .val (.int p3), .val (.int p4), .val (.int p5), .val (.int (0 : Int32)), .val (.int n.toInt32), .val (.int (((p5.toUInt32 >>> ((4 : Int32) &&& 31).toUInt32).toInt32) &&& (7 : Int32))), .unset, .unset, .unset, .unset, .unset, .unset] [(.int (7 : Int32)), (.int p5)]))
    refine own_fwd (fun tt kt => XS.iushr X57.here hx rfl (hb hby at_36) rfl kt) ?_
    show own_R p.tables e below P (T57.setTop (mkF m 37 #[.val (.int p0), .val (.int p1), .val (.int p2), .val (.int p3), .val (.int p4), .val (.int p5), .val (.int (0 : Int32)), .val (.int n.toInt32), .val (.int (((p5.toUInt32 >>> ((4 : Int32) &&& 31).toUInt32).toInt32) &&& (7 : Int32))), .unset, .unset, .unset, .unset, .unset, .unset] [(.int ((p5.toUInt32 >>> ((7 : Int32) &&& 31).toUInt32).toInt32))]))
    refine own_fwd (fun tt kt => XS.bipush X57.here hx rfl (hb hby at_37) kt) ?_
    show own_R p.tables e below P (T57.setTop (mkF m 39 #[.val (.int p0), .val (.int p1), .val (.int p2), .val (.int p3), .val (.int p4), .val (.int p5), .val (.int (0 : Int32)), .val (.int n.toInt32), .val (.int (((p5.toUInt32 >>> ((4 : Int32) &&& 31).toUInt32).toInt32) &&& (7 : Int32))), .unset, .unset, .unset, .unset, .unset, .unset] [(.int (7 : Int32)), (.int ((p5.toUInt32 >>> ((7 : Int32) &&& 31).toUInt32).toInt32))]))
    refine own_fwd (fun tt kt => XS.iand X57.here hx rfl (hb hby at_39) rfl kt) ?_
    show own_R p.tables e below P (T57.setTop (mkF m 40 #[.val (.int p0), .val (.int p1), .val (.int p2), .val (.int p3), .val (.int p4), .val (.int p5), .val (.int (0 : Int32)), .val (.int n.toInt32), .val (.int (((p5.toUInt32 >>> ((4 : Int32) &&& 31).toUInt32).toInt32) &&& (7 : Int32))), .unset, .unset, .unset, .unset, .unset, .unset] [(.int (((p5.toUInt32 >>> ((7 : Int32) &&& 31).toUInt32).toInt32) &&& (7 : Int32)))]))
    refine own_fwd (fun tt kt => XS.istore X57.here hx rfl (hb hby at_40) rfl (l' := #[.val (.int p0), .val (.int p1), .val (.int p2), .val (.int p3), .val (.int p4), .val (.int p5), .val (.int (0 : Int32)), .val (.int n.toInt32), .val (.int (((p5.toUInt32 >>> ((4 : Int32) &&& 31).toUInt32).toInt32) &&& (7 : Int32))), .val (.int (((p5.toUInt32 >>> ((7 : Int32) &&& 31).toUInt32).toInt32) &&& (7 : Int32))), .unset, .unset, .unset, .unset, .unset]) rfl kt) ?_
    show own_R p.tables e below P (T57.setTop (mkF m 42 #[.val (.int p0), .val (.int p1), .val (.int p2), .val (.int p3), .val (.int p4), .val (.int p5), .val (.int (0 : Int32)), .val (.int n.toInt32), .val (.int (((p5.toUInt32 >>> ((4 : Int32) &&& 31).toUInt32).toInt32) &&& (7 : Int32))), .val (.int (((p5.toUInt32 >>> ((7 : Int32) &&& 31).toUInt32).toInt32) &&& (7 : Int32))), .unset, .unset, .unset, .unset, .unset] []))
    refine own_fwd (fun tt kt => XS.iload X57.here hx rfl (hb hby at_42) rfl kt) ?_
    show own_R p.tables e below P (T57.setTop (mkF m 44 #[.val (.int p0), .val (.int p1), .val (.int p2), .val (.int p3), .val (.int p4), .val (.int p5), .val (.int (0 : Int32)), .val (.int n.toInt32), .val (.int (((p5.toUInt32 >>> ((4 : Int32) &&& 31).toUInt32).toInt32) &&& (7 : Int32))), .val (.int (((p5.toUInt32 >>> ((7 : Int32) &&& 31).toUInt32).toInt32) &&& (7 : Int32))), .unset, .unset, .unset, .unset, .unset] [(.int n.toInt32)]))
    have j58 : ∀ P, own_R p.tables e below P (T57.setTop (mkF m 56 #[.val (.int p0), .val (.int p1), .val (.int p2), .val (.int p3), .val (.int p4), .val (.int p5), .val (.int (0 : Int32)), .val (.int n.toInt32), .val (.int (((p5.toUInt32 >>> ((4 : Int32) &&& 31).toUInt32).toInt32) &&& (7 : Int32))), .val (.int (((p5.toUInt32 >>> ((7 : Int32) &&& 31).toUInt32).toInt32) &&& (7 : Int32))), .unset, .unset, .unset, .unset, .unset] [(.int (if (0 : Int32) < n.toInt32 then ((((p5.toUInt32 >>> ((4 : Int32) &&& 31).toUInt32).toInt32) &&& (7 : Int32)) % n.toInt32) else (0 : Int32)))])) → own_R p.tables e below P (T57.setTop (mkF m 44 #[.val (.int p0), .val (.int p1), .val (.int p2), .val (.int p3), .val (.int p4), .val (.int p5), .val (.int (0 : Int32)), .val (.int n.toInt32), .val (.int (((p5.toUInt32 >>> ((4 : Int32) &&& 31).toUInt32).toInt32) &&& (7 : Int32))), .val (.int (((p5.toUInt32 >>> ((7 : Int32) &&& 31).toUInt32).toInt32) &&& (7 : Int32))), .unset, .unset, .unset, .unset, .unset] [(.int n.toInt32)])) := by
      intro P k
      by_cases hc58 : (0 : Int32) < n.toInt32
      · simp only [if_pos hc58] at k
        refine own_fwd (fun tt kt => XS.ifNo X57.here hx rfl (hb hby at_44) rfl ((if0 _ _).trans (tlt hc58).2.2.2) kt) ?_
        show own_R p.tables e below P (T57.setTop (mkF m 47 #[.val (.int p0), .val (.int p1), .val (.int p2), .val (.int p3), .val (.int p4), .val (.int p5), .val (.int (0 : Int32)), .val (.int n.toInt32), .val (.int (((p5.toUInt32 >>> ((4 : Int32) &&& 31).toUInt32).toInt32) &&& (7 : Int32))), .val (.int (((p5.toUInt32 >>> ((7 : Int32) &&& 31).toUInt32).toInt32) &&& (7 : Int32))), .unset, .unset, .unset, .unset, .unset] []))
        refine own_fwd (fun tt kt => XS.iload X57.here hx rfl (hb hby at_47) rfl kt) ?_
        show own_R p.tables e below P (T57.setTop (mkF m 49 #[.val (.int p0), .val (.int p1), .val (.int p2), .val (.int p3), .val (.int p4), .val (.int p5), .val (.int (0 : Int32)), .val (.int n.toInt32), .val (.int (((p5.toUInt32 >>> ((4 : Int32) &&& 31).toUInt32).toInt32) &&& (7 : Int32))), .val (.int (((p5.toUInt32 >>> ((7 : Int32) &&& 31).toUInt32).toInt32) &&& (7 : Int32))), .unset, .unset, .unset, .unset, .unset] [(.int (((p5.toUInt32 >>> ((4 : Int32) &&& 31).toUInt32).toInt32) &&& (7 : Int32)))]))
        refine own_fwd (fun tt kt => XS.iload X57.here hx rfl (hb hby at_49) rfl kt) ?_
        show own_R p.tables e below P (T57.setTop (mkF m 51 #[.val (.int p0), .val (.int p1), .val (.int p2), .val (.int p3), .val (.int p4), .val (.int p5), .val (.int (0 : Int32)), .val (.int n.toInt32), .val (.int (((p5.toUInt32 >>> ((4 : Int32) &&& 31).toUInt32).toInt32) &&& (7 : Int32))), .val (.int (((p5.toUInt32 >>> ((7 : Int32) &&& 31).toUInt32).toInt32) &&& (7 : Int32))), .unset, .unset, .unset, .unset, .unset] [(.int n.toInt32), (.int (((p5.toUInt32 >>> ((4 : Int32) &&& 31).toUInt32).toInt32) &&& (7 : Int32)))]))
        refine own_fwd (fun tt kt => iremM X57 hx rfl (hb hby at_51) rfl (fun q => by have q' := hc58; rw [q] at q'; exact absurd q' (by decide)) kt) ?_
        show own_R p.tables e below P (T57.setTop (mkF m 52 #[.val (.int p0), .val (.int p1), .val (.int p2), .val (.int p3), .val (.int p4), .val (.int p5), .val (.int (0 : Int32)), .val (.int n.toInt32), .val (.int (((p5.toUInt32 >>> ((4 : Int32) &&& 31).toUInt32).toInt32) &&& (7 : Int32))), .val (.int (((p5.toUInt32 >>> ((7 : Int32) &&& 31).toUInt32).toInt32) &&& (7 : Int32))), .unset, .unset, .unset, .unset, .unset] [(.int ((((p5.toUInt32 >>> ((4 : Int32) &&& 31).toUInt32).toInt32) &&& (7 : Int32)) % n.toInt32))]))
        refine own_fwd (fun tt kt => XS.goto X57.here hx rfl (pc0 := 52) (pc' := 56) rfl (hb hby at_52) (by decide) (by decide) kt) ?_
        show own_R p.tables e below P (T57.setTop (mkF m 56 #[.val (.int p0), .val (.int p1), .val (.int p2), .val (.int p3), .val (.int p4), .val (.int p5), .val (.int (0 : Int32)), .val (.int n.toInt32), .val (.int (((p5.toUInt32 >>> ((4 : Int32) &&& 31).toUInt32).toInt32) &&& (7 : Int32))), .val (.int (((p5.toUInt32 >>> ((7 : Int32) &&& 31).toUInt32).toInt32) &&& (7 : Int32))), .unset, .unset, .unset, .unset, .unset] [(.int ((((p5.toUInt32 >>> ((4 : Int32) &&& 31).toUInt32).toInt32) &&& (7 : Int32)) % n.toInt32))]))
        exact k
      · simp only [if_neg hc58] at k
        refine own_fwd (fun tt kt => XS.ifYes X57.here hx rfl (pc0 := 44) (pc' := 55) rfl (hb hby at_44) rfl ((if0 _ _).trans (flt hc58).2.2.2) (by decide) (by decide) kt) ?_
        show own_R p.tables e below P (T57.setTop (mkF m 55 #[.val (.int p0), .val (.int p1), .val (.int p2), .val (.int p3), .val (.int p4), .val (.int p5), .val (.int (0 : Int32)), .val (.int n.toInt32), .val (.int (((p5.toUInt32 >>> ((4 : Int32) &&& 31).toUInt32).toInt32) &&& (7 : Int32))), .val (.int (((p5.toUInt32 >>> ((7 : Int32) &&& 31).toUInt32).toInt32) &&& (7 : Int32))), .unset, .unset, .unset, .unset, .unset] []))
        refine own_fwd (fun tt kt => XS.iconst X57.here hx rfl (hb hby at_55) kt) ?_
        show own_R p.tables e below P (T57.setTop (mkF m 56 #[.val (.int p0), .val (.int p1), .val (.int p2), .val (.int p3), .val (.int p4), .val (.int p5), .val (.int (0 : Int32)), .val (.int n.toInt32), .val (.int (((p5.toUInt32 >>> ((4 : Int32) &&& 31).toUInt32).toInt32) &&& (7 : Int32))), .val (.int (((p5.toUInt32 >>> ((7 : Int32) &&& 31).toUInt32).toInt32) &&& (7 : Int32))), .unset, .unset, .unset, .unset, .unset] [(.int (0 : Int32))]))
        exact k
    refine j58 P ?_
    show own_R p.tables e below P (T57.setTop (mkF m 56 #[.val (.int p0), .val (.int p1), .val (.int p2), .val (.int p3), .val (.int p4), .val (.int p5), .val (.int (0 : Int32)), .val (.int n.toInt32), .val (.int (((p5.toUInt32 >>> ((4 : Int32) &&& 31).toUInt32).toInt32) &&& (7 : Int32))), .val (.int (((p5.toUInt32 >>> ((7 : Int32) &&& 31).toUInt32).toInt32) &&& (7 : Int32))), .unset, .unset, .unset, .unset, .unset] [(.int (if (0 : Int32) < n.toInt32 then ((((p5.toUInt32 >>> ((4 : Int32) &&& 31).toUInt32).toInt32) &&& (7 : Int32)) % n.toInt32) else (0 : Int32)))]))
    obtain ⟨u, hu, bu, cu⟩ := own_u n bn ((p5.toUInt32 >>> ((4 : Int32) &&& 31).toUInt32).toInt32)
    rw [hu]
    show own_R p.tables e below P (T57.setTop (mkF m 56 #[.val (.int p0), .val (.int p1), .val (.int p2), .val (.int p3), .val (.int p4), .val (.int p5), .val (.int (0 : Int32)), .val (.int n.toInt32), .val (.int (((p5.toUInt32 >>> ((4 : Int32) &&& 31).toUInt32).toInt32) &&& (7 : Int32))), .val (.int (((p5.toUInt32 >>> ((7 : Int32) &&& 31).toUInt32).toInt32) &&& (7 : Int32))), .unset, .unset, .unset, .unset, .unset] [(.int u.toInt32)]))
    have lu : u.toInt32.toInt = (u : Int) := len_toInt (by omega)
    refine own_fwd (fun tt kt => XS.istore X57.here hx rfl (hb hby at_56) rfl (l' := #[.val (.int p0), .val (.int p1), .val (.int p2), .val (.int p3), .val (.int p4), .val (.int p5), .val (.int (0 : Int32)), .val (.int n.toInt32), .val (.int (((p5.toUInt32 >>> ((4 : Int32) &&& 31).toUInt32).toInt32) &&& (7 : Int32))), .val (.int (((p5.toUInt32 >>> ((7 : Int32) &&& 31).toUInt32).toInt32) &&& (7 : Int32))), .val (.int u.toInt32), .unset, .unset, .unset, .unset]) rfl kt) ?_
    show own_R p.tables e below P (T57.setTop (mkF m 58 #[.val (.int p0), .val (.int p1), .val (.int p2), .val (.int p3), .val (.int p4), .val (.int p5), .val (.int (0 : Int32)), .val (.int n.toInt32), .val (.int (((p5.toUInt32 >>> ((4 : Int32) &&& 31).toUInt32).toInt32) &&& (7 : Int32))), .val (.int (((p5.toUInt32 >>> ((7 : Int32) &&& 31).toUInt32).toInt32) &&& (7 : Int32))), .val (.int u.toInt32), .unset, .unset, .unset, .unset] []))
    refine own_fwd (fun tt kt => XS.iload X57.here hx rfl (hb hby at_58) rfl kt) ?_
    show own_R p.tables e below P (T57.setTop (mkF m 60 #[.val (.int p0), .val (.int p1), .val (.int p2), .val (.int p3), .val (.int p4), .val (.int p5), .val (.int (0 : Int32)), .val (.int n.toInt32), .val (.int (((p5.toUInt32 >>> ((4 : Int32) &&& 31).toUInt32).toInt32) &&& (7 : Int32))), .val (.int (((p5.toUInt32 >>> ((7 : Int32) &&& 31).toUInt32).toInt32) &&& (7 : Int32))), .val (.int u.toInt32), .unset, .unset, .unset, .unset] [(.int n.toInt32)]))
    refine own_fwd (fun tt kt => XS.iconst X57.here hx rfl (hb hby at_60) kt) ?_
    show own_R p.tables e below P (T57.setTop (mkF m 61 #[.val (.int p0), .val (.int p1), .val (.int p2), .val (.int p3), .val (.int p4), .val (.int p5), .val (.int (0 : Int32)), .val (.int n.toInt32), .val (.int (((p5.toUInt32 >>> ((4 : Int32) &&& 31).toUInt32).toInt32) &&& (7 : Int32))), .val (.int (((p5.toUInt32 >>> ((7 : Int32) &&& 31).toUInt32).toInt32) &&& (7 : Int32))), .val (.int u.toInt32), .unset, .unset, .unset, .unset] [(.int (1 : Int32)), (.int n.toInt32)]))
    have j59 : ∀ P, own_R p.tables e below P (T57.setTop (mkF m 83 #[.val (.int p0), .val (.int p1), .val (.int p2), .val (.int p3), .val (.int p4), .val (.int p5), .val (.int (0 : Int32)), .val (.int n.toInt32), .val (.int (((p5.toUInt32 >>> ((4 : Int32) &&& 31).toUInt32).toInt32) &&& (7 : Int32))), .val (.int (((p5.toUInt32 >>> ((7 : Int32) &&& 31).toUInt32).toInt32) &&& (7 : Int32))), .val (.int u.toInt32), .unset, .unset, .unset, .unset] [(.int (if (1 : Int32) < n.toInt32 then (((u.toInt32 + (1 : Int32)) + ((((p5.toUInt32 >>> ((7 : Int32) &&& 31).toUInt32).toInt32) &&& (7 : Int32)) % (n.toInt32 - (1 : Int32)))) % n.toInt32) else (0 : Int32)))])) → own_R p.tables e below P (T57.setTop (mkF m 61 #[.val (.int p0), .val (.int p1), .val (.int p2), .val (.int p3), .val (.int p4), .val (.int p5), .val (.int (0 : Int32)), .val (.int n.toInt32), .val (.int (((p5.toUInt32 >>> ((4 : Int32) &&& 31).toUInt32).toInt32) &&& (7 : Int32))), .val (.int (((p5.toUInt32 >>> ((7 : Int32) &&& 31).toUInt32).toInt32) &&& (7 : Int32))), .val (.int u.toInt32), .unset, .unset, .unset, .unset] [(.int (1 : Int32)), (.int n.toInt32)])) := by
      intro P k
      by_cases hc59 : (1 : Int32) < n.toInt32
      · simp only [if_pos hc59] at k
        refine own_fwd (fun tt kt => XS.icmpNo X57.here hx rfl (hb hby at_61) rfl (tlt hc59).2.2.2 kt) ?_
        show own_R p.tables e below P (T57.setTop (mkF m 64 #[.val (.int p0), .val (.int p1), .val (.int p2), .val (.int p3), .val (.int p4), .val (.int p5), .val (.int (0 : Int32)), .val (.int n.toInt32), .val (.int (((p5.toUInt32 >>> ((4 : Int32) &&& 31).toUInt32).toInt32) &&& (7 : Int32))), .val (.int (((p5.toUInt32 >>> ((7 : Int32) &&& 31).toUInt32).toInt32) &&& (7 : Int32))), .val (.int u.toInt32), .unset, .unset, .unset, .unset] []))
        refine own_fwd (fun tt kt => XS.iload X57.here hx rfl (hb hby at_64) rfl kt) ?_
        show own_R p.tables e below P (T57.setTop (mkF m 66 #[.val (.int p0), .val (.int p1), .val (.int p2), .val (.int p3), .val (.int p4), .val (.int p5), .val (.int (0 : Int32)), .val (.int n.toInt32), .val (.int (((p5.toUInt32 >>> ((4 : Int32) &&& 31).toUInt32).toInt32) &&& (7 : Int32))), .val (.int (((p5.toUInt32 >>> ((7 : Int32) &&& 31).toUInt32).toInt32) &&& (7 : Int32))), .val (.int u.toInt32), .unset, .unset, .unset, .unset] [(.int u.toInt32)]))
        refine own_fwd (fun tt kt => XS.iconst X57.here hx rfl (hb hby at_66) kt) ?_
        show own_R p.tables e below P (T57.setTop (mkF m 67 #[.val (.int p0), .val (.int p1), .val (.int p2), .val (.int p3), .val (.int p4), .val (.int p5), .val (.int (0 : Int32)), .val (.int n.toInt32), .val (.int (((p5.toUInt32 >>> ((4 : Int32) &&& 31).toUInt32).toInt32) &&& (7 : Int32))), .val (.int (((p5.toUInt32 >>> ((7 : Int32) &&& 31).toUInt32).toInt32) &&& (7 : Int32))), .val (.int u.toInt32), .unset, .unset, .unset, .unset] [(.int (1 : Int32)), (.int u.toInt32)]))
        refine own_fwd (fun tt kt => XS.iadd X57.here hx rfl (hb hby at_67) rfl kt) ?_
        show own_R p.tables e below P (T57.setTop (mkF m 68 #[.val (.int p0), .val (.int p1), .val (.int p2), .val (.int p3), .val (.int p4), .val (.int p5), .val (.int (0 : Int32)), .val (.int n.toInt32), .val (.int (((p5.toUInt32 >>> ((4 : Int32) &&& 31).toUInt32).toInt32) &&& (7 : Int32))), .val (.int (((p5.toUInt32 >>> ((7 : Int32) &&& 31).toUInt32).toInt32) &&& (7 : Int32))), .val (.int u.toInt32), .unset, .unset, .unset, .unset] [(.int (u.toInt32 + (1 : Int32)))]))
        refine own_fwd (fun tt kt => XS.iload X57.here hx rfl (hb hby at_68) rfl kt) ?_
        show own_R p.tables e below P (T57.setTop (mkF m 70 #[.val (.int p0), .val (.int p1), .val (.int p2), .val (.int p3), .val (.int p4), .val (.int p5), .val (.int (0 : Int32)), .val (.int n.toInt32), .val (.int (((p5.toUInt32 >>> ((4 : Int32) &&& 31).toUInt32).toInt32) &&& (7 : Int32))), .val (.int (((p5.toUInt32 >>> ((7 : Int32) &&& 31).toUInt32).toInt32) &&& (7 : Int32))), .val (.int u.toInt32), .unset, .unset, .unset, .unset] [(.int (((p5.toUInt32 >>> ((7 : Int32) &&& 31).toUInt32).toInt32) &&& (7 : Int32))), (.int (u.toInt32 + (1 : Int32)))]))
        refine own_fwd (fun tt kt => XS.iload X57.here hx rfl (hb hby at_70) rfl kt) ?_
        show own_R p.tables e below P (T57.setTop (mkF m 72 #[.val (.int p0), .val (.int p1), .val (.int p2), .val (.int p3), .val (.int p4), .val (.int p5), .val (.int (0 : Int32)), .val (.int n.toInt32), .val (.int (((p5.toUInt32 >>> ((4 : Int32) &&& 31).toUInt32).toInt32) &&& (7 : Int32))), .val (.int (((p5.toUInt32 >>> ((7 : Int32) &&& 31).toUInt32).toInt32) &&& (7 : Int32))), .val (.int u.toInt32), .unset, .unset, .unset, .unset] [(.int n.toInt32), (.int (((p5.toUInt32 >>> ((7 : Int32) &&& 31).toUInt32).toInt32) &&& (7 : Int32))), (.int (u.toInt32 + (1 : Int32)))]))
        refine own_fwd (fun tt kt => XS.iconst X57.here hx rfl (hb hby at_72) kt) ?_
        show own_R p.tables e below P (T57.setTop (mkF m 73 #[.val (.int p0), .val (.int p1), .val (.int p2), .val (.int p3), .val (.int p4), .val (.int p5), .val (.int (0 : Int32)), .val (.int n.toInt32), .val (.int (((p5.toUInt32 >>> ((4 : Int32) &&& 31).toUInt32).toInt32) &&& (7 : Int32))), .val (.int (((p5.toUInt32 >>> ((7 : Int32) &&& 31).toUInt32).toInt32) &&& (7 : Int32))), .val (.int u.toInt32), .unset, .unset, .unset, .unset] [(.int (1 : Int32)), (.int n.toInt32), (.int (((p5.toUInt32 >>> ((7 : Int32) &&& 31).toUInt32).toInt32) &&& (7 : Int32))), (.int (u.toInt32 + (1 : Int32)))]))
        refine own_fwd (fun tt kt => XS.isub X57.here hx rfl (hb hby at_73) rfl kt) ?_
        show own_R p.tables e below P (T57.setTop (mkF m 74 #[.val (.int p0), .val (.int p1), .val (.int p2), .val (.int p3), .val (.int p4), .val (.int p5), .val (.int (0 : Int32)), .val (.int n.toInt32), .val (.int (((p5.toUInt32 >>> ((4 : Int32) &&& 31).toUInt32).toInt32) &&& (7 : Int32))), .val (.int (((p5.toUInt32 >>> ((7 : Int32) &&& 31).toUInt32).toInt32) &&& (7 : Int32))), .val (.int u.toInt32), .unset, .unset, .unset, .unset] [(.int (n.toInt32 - (1 : Int32))), (.int (((p5.toUInt32 >>> ((7 : Int32) &&& 31).toUInt32).toInt32) &&& (7 : Int32))), (.int (u.toInt32 + (1 : Int32)))]))
        refine own_fwd (fun tt kt => iremM X57 hx rfl (hb hby at_74) rfl (fun q => by have q1 := hc59; have q2 := c_isub n.toInt32 1; have q3 := own_i1; have q4 := own_i0; rw [Int32.lt_iff_toInt_lt] at q1; rw [q] at q2; omega) kt) ?_
        show own_R p.tables e below P (T57.setTop (mkF m 75 #[.val (.int p0), .val (.int p1), .val (.int p2), .val (.int p3), .val (.int p4), .val (.int p5), .val (.int (0 : Int32)), .val (.int n.toInt32), .val (.int (((p5.toUInt32 >>> ((4 : Int32) &&& 31).toUInt32).toInt32) &&& (7 : Int32))), .val (.int (((p5.toUInt32 >>> ((7 : Int32) &&& 31).toUInt32).toInt32) &&& (7 : Int32))), .val (.int u.toInt32), .unset, .unset, .unset, .unset] [(.int ((((p5.toUInt32 >>> ((7 : Int32) &&& 31).toUInt32).toInt32) &&& (7 : Int32)) % (n.toInt32 - (1 : Int32)))), (.int (u.toInt32 + (1 : Int32)))]))
        refine own_fwd (fun tt kt => XS.iadd X57.here hx rfl (hb hby at_75) rfl kt) ?_
        show own_R p.tables e below P (T57.setTop (mkF m 76 #[.val (.int p0), .val (.int p1), .val (.int p2), .val (.int p3), .val (.int p4), .val (.int p5), .val (.int (0 : Int32)), .val (.int n.toInt32), .val (.int (((p5.toUInt32 >>> ((4 : Int32) &&& 31).toUInt32).toInt32) &&& (7 : Int32))), .val (.int (((p5.toUInt32 >>> ((7 : Int32) &&& 31).toUInt32).toInt32) &&& (7 : Int32))), .val (.int u.toInt32), .unset, .unset, .unset, .unset] [(.int ((u.toInt32 + (1 : Int32)) + ((((p5.toUInt32 >>> ((7 : Int32) &&& 31).toUInt32).toInt32) &&& (7 : Int32)) % (n.toInt32 - (1 : Int32)))))]))
        refine own_fwd (fun tt kt => XS.iload X57.here hx rfl (hb hby at_76) rfl kt) ?_
        show own_R p.tables e below P (T57.setTop (mkF m 78 #[.val (.int p0), .val (.int p1), .val (.int p2), .val (.int p3), .val (.int p4), .val (.int p5), .val (.int (0 : Int32)), .val (.int n.toInt32), .val (.int (((p5.toUInt32 >>> ((4 : Int32) &&& 31).toUInt32).toInt32) &&& (7 : Int32))), .val (.int (((p5.toUInt32 >>> ((7 : Int32) &&& 31).toUInt32).toInt32) &&& (7 : Int32))), .val (.int u.toInt32), .unset, .unset, .unset, .unset] [(.int n.toInt32), (.int ((u.toInt32 + (1 : Int32)) + ((((p5.toUInt32 >>> ((7 : Int32) &&& 31).toUInt32).toInt32) &&& (7 : Int32)) % (n.toInt32 - (1 : Int32)))))]))
        refine own_fwd (fun tt kt => iremM X57 hx rfl (hb hby at_78) rfl (fun q => by have q1 := hc59; have q3 := own_i1; have q4 := own_i0; rw [Int32.lt_iff_toInt_lt, q] at q1; omega) kt) ?_
        show own_R p.tables e below P (T57.setTop (mkF m 79 #[.val (.int p0), .val (.int p1), .val (.int p2), .val (.int p3), .val (.int p4), .val (.int p5), .val (.int (0 : Int32)), .val (.int n.toInt32), .val (.int (((p5.toUInt32 >>> ((4 : Int32) &&& 31).toUInt32).toInt32) &&& (7 : Int32))), .val (.int (((p5.toUInt32 >>> ((7 : Int32) &&& 31).toUInt32).toInt32) &&& (7 : Int32))), .val (.int u.toInt32), .unset, .unset, .unset, .unset] [(.int (((u.toInt32 + (1 : Int32)) + ((((p5.toUInt32 >>> ((7 : Int32) &&& 31).toUInt32).toInt32) &&& (7 : Int32)) % (n.toInt32 - (1 : Int32)))) % n.toInt32))]))
        refine own_fwd (fun tt kt => XS.goto X57.here hx rfl (pc0 := 79) (pc' := 83) rfl (hb hby at_79) (by decide) (by decide) kt) ?_
        show own_R p.tables e below P (T57.setTop (mkF m 83 #[.val (.int p0), .val (.int p1), .val (.int p2), .val (.int p3), .val (.int p4), .val (.int p5), .val (.int (0 : Int32)), .val (.int n.toInt32), .val (.int (((p5.toUInt32 >>> ((4 : Int32) &&& 31).toUInt32).toInt32) &&& (7 : Int32))), .val (.int (((p5.toUInt32 >>> ((7 : Int32) &&& 31).toUInt32).toInt32) &&& (7 : Int32))), .val (.int u.toInt32), .unset, .unset, .unset, .unset] [(.int (((u.toInt32 + (1 : Int32)) + ((((p5.toUInt32 >>> ((7 : Int32) &&& 31).toUInt32).toInt32) &&& (7 : Int32)) % (n.toInt32 - (1 : Int32)))) % n.toInt32))]))
        exact k
      · simp only [if_neg hc59] at k
        refine own_fwd (fun tt kt => XS.icmpYes X57.here hx rfl (pc0 := 61) (pc' := 82) rfl (hb hby at_61) rfl (flt hc59).2.2.2 (by decide) (by decide) kt) ?_
        show own_R p.tables e below P (T57.setTop (mkF m 82 #[.val (.int p0), .val (.int p1), .val (.int p2), .val (.int p3), .val (.int p4), .val (.int p5), .val (.int (0 : Int32)), .val (.int n.toInt32), .val (.int (((p5.toUInt32 >>> ((4 : Int32) &&& 31).toUInt32).toInt32) &&& (7 : Int32))), .val (.int (((p5.toUInt32 >>> ((7 : Int32) &&& 31).toUInt32).toInt32) &&& (7 : Int32))), .val (.int u.toInt32), .unset, .unset, .unset, .unset] []))
        refine own_fwd (fun tt kt => XS.iconst X57.here hx rfl (hb hby at_82) kt) ?_
        show own_R p.tables e below P (T57.setTop (mkF m 83 #[.val (.int p0), .val (.int p1), .val (.int p2), .val (.int p3), .val (.int p4), .val (.int p5), .val (.int (0 : Int32)), .val (.int n.toInt32), .val (.int (((p5.toUInt32 >>> ((4 : Int32) &&& 31).toUInt32).toInt32) &&& (7 : Int32))), .val (.int (((p5.toUInt32 >>> ((7 : Int32) &&& 31).toUInt32).toInt32) &&& (7 : Int32))), .val (.int u.toInt32), .unset, .unset, .unset, .unset] [(.int (0 : Int32))]))
        exact k
    refine j59 P ?_
    show own_R p.tables e below P (T57.setTop (mkF m 83 #[.val (.int p0), .val (.int p1), .val (.int p2), .val (.int p3), .val (.int p4), .val (.int p5), .val (.int (0 : Int32)), .val (.int n.toInt32), .val (.int (((p5.toUInt32 >>> ((4 : Int32) &&& 31).toUInt32).toInt32) &&& (7 : Int32))), .val (.int (((p5.toUInt32 >>> ((7 : Int32) &&& 31).toUInt32).toInt32) &&& (7 : Int32))), .val (.int u.toInt32), .unset, .unset, .unset, .unset] [(.int (if (1 : Int32) < n.toInt32 then (((u.toInt32 + (1 : Int32)) + ((((p5.toUInt32 >>> ((7 : Int32) &&& 31).toUInt32).toInt32) &&& (7 : Int32)) % (n.toInt32 - (1 : Int32)))) % n.toInt32) else (0 : Int32)))]))
    obtain ⟨vv, hv, bv, cv⟩ := own_v n u bn bu ((p5.toUInt32 >>> ((7 : Int32) &&& 31).toUInt32).toInt32)
    rw [hv]
    show own_R p.tables e below P (T57.setTop (mkF m 83 #[.val (.int p0), .val (.int p1), .val (.int p2), .val (.int p3), .val (.int p4), .val (.int p5), .val (.int (0 : Int32)), .val (.int n.toInt32), .val (.int (((p5.toUInt32 >>> ((4 : Int32) &&& 31).toUInt32).toInt32) &&& (7 : Int32))), .val (.int (((p5.toUInt32 >>> ((7 : Int32) &&& 31).toUInt32).toInt32) &&& (7 : Int32))), .val (.int u.toInt32), .unset, .unset, .unset, .unset] [(.int vv.toInt32)]))
    have lv : vv.toInt32.toInt = (vv : Int) := len_toInt (by omega)
    refine own_fwd (fun tt kt => XS.istore X57.here hx rfl (hb hby at_83) rfl (l' := #[.val (.int p0), .val (.int p1), .val (.int p2), .val (.int p3), .val (.int p4), .val (.int p5), .val (.int (0 : Int32)), .val (.int n.toInt32), .val (.int (((p5.toUInt32 >>> ((4 : Int32) &&& 31).toUInt32).toInt32) &&& (7 : Int32))), .val (.int (((p5.toUInt32 >>> ((7 : Int32) &&& 31).toUInt32).toInt32) &&& (7 : Int32))), .val (.int u.toInt32), .val (.int vv.toInt32), .unset, .unset, .unset]) rfl kt) ?_
    show own_R p.tables e below P (T57.setTop (mkF m 85 #[.val (.int p0), .val (.int p1), .val (.int p2), .val (.int p3), .val (.int p4), .val (.int p5), .val (.int (0 : Int32)), .val (.int n.toInt32), .val (.int (((p5.toUInt32 >>> ((4 : Int32) &&& 31).toUInt32).toInt32) &&& (7 : Int32))), .val (.int (((p5.toUInt32 >>> ((7 : Int32) &&& 31).toUInt32).toInt32) &&& (7 : Int32))), .val (.int u.toInt32), .val (.int vv.toInt32), .unset, .unset, .unset] []))
    refine own_fwd (fun tt kt => XS.iload X57.here hx rfl (hb hby at_85) rfl kt) ?_
    show own_R p.tables e below P (T57.setTop (mkF m 87 #[.val (.int p0), .val (.int p1), .val (.int p2), .val (.int p3), .val (.int p4), .val (.int p5), .val (.int (0 : Int32)), .val (.int n.toInt32), .val (.int (((p5.toUInt32 >>> ((4 : Int32) &&& 31).toUInt32).toInt32) &&& (7 : Int32))), .val (.int (((p5.toUInt32 >>> ((7 : Int32) &&& 31).toUInt32).toInt32) &&& (7 : Int32))), .val (.int u.toInt32), .val (.int vv.toInt32), .unset, .unset, .unset] [(.int (0 : Int32))]))
    have hc60 : (0 : Int32) = (0 : Int32) := (by decide)
    refine own_fwd (fun tt kt => XS.ifNo X57.here hx rfl (hb hby at_87) rfl ((if0 _ _).trans (teq hc60).2) kt) ?_
    show own_R p.tables e below P (T57.setTop (mkF m 90 #[.val (.int p0), .val (.int p1), .val (.int p2), .val (.int p3), .val (.int p4), .val (.int p5), .val (.int (0 : Int32)), .val (.int n.toInt32), .val (.int (((p5.toUInt32 >>> ((4 : Int32) &&& 31).toUInt32).toInt32) &&& (7 : Int32))), .val (.int (((p5.toUInt32 >>> ((7 : Int32) &&& 31).toUInt32).toInt32) &&& (7 : Int32))), .val (.int u.toInt32), .val (.int vv.toInt32), .unset, .unset, .unset] []))
    refine own_fwd (fun tt kt => XS.iconst X57.here hx rfl (hb hby at_90) kt) ?_
    show own_R p.tables e below P (T57.setTop (mkF m 91 #[.val (.int p0), .val (.int p1), .val (.int p2), .val (.int p3), .val (.int p4), .val (.int p5), .val (.int (0 : Int32)), .val (.int n.toInt32), .val (.int (((p5.toUInt32 >>> ((4 : Int32) &&& 31).toUInt32).toInt32) &&& (7 : Int32))), .val (.int (((p5.toUInt32 >>> ((7 : Int32) &&& 31).toUInt32).toInt32) &&& (7 : Int32))), .val (.int u.toInt32), .val (.int vv.toInt32), .unset, .unset, .unset] [(.int (1 : Int32))]))
    obtain ⟨T61, h61, b61, g61, X61, e61, E61, A61, B61, st61⟩ := own_newA (n := 1) X57 hx hZ (hw _ (List.mem_of_getElem? (i := 4) rfl)) e57 (z := (1 : Int32)) (by decide) (cap := 1) (by decide) (g := (mkF m 91 #[.val (.int p0), .val (.int p1), .val (.int p2), .val (.int p3), .val (.int p4), .val (.int p5), .val (.int (0 : Int32)), .val (.int n.toInt32), .val (.int (((p5.toUInt32 >>> ((4 : Int32) &&& 31).toUInt32).toInt32) &&& (7 : Int32))), .val (.int (((p5.toUInt32 >>> ((7 : Int32) &&& 31).toUInt32).toInt32) &&& (7 : Int32))), .val (.int u.toInt32), .val (.int vv.toInt32), .unset, .unset, .unset] [(.int (1 : Int32))])) rfl (hb hby at_91) rfl (by decide) (by decide) (by decide) (ad := "[I") (by decide)
    have ge_b61 : n0 ≤ b61 := by rw [g61]; exact Z0
    have sz_b61 : h0.size ≤ b61 := by rw [g61]; exact (Nat.le_refl h0.size)
    have A61_ : own_AI Z h61 b61 .int 1 (fun _ => (0 : Int32)) := A61
    have Z61 : n0 ≤ h61.size := Nat.le_trans Z0 E61.1
    have Y61 : h0.size ≤ h61.size := Nat.le_trans (Nat.le_refl h0.size) E61.1
    refine own_fwd st61 ?_
    show own_R p.tables e below P (T61.setTop (mkF m 93 #[.val (.int p0), .val (.int p1), .val (.int p2), .val (.int p3), .val (.int p4), .val (.int p5), .val (.int (0 : Int32)), .val (.int n.toInt32), .val (.int (((p5.toUInt32 >>> ((4 : Int32) &&& 31).toUInt32).toInt32) &&& (7 : Int32))), .val (.int (((p5.toUInt32 >>> ((7 : Int32) &&& 31).toUInt32).toInt32) &&& (7 : Int32))), .val (.int u.toInt32), .val (.int vv.toInt32), .unset, .unset, .unset] [(.ref b61)]))
    refine own_fwd (fun tt kt => XS.dup X61.here hx rfl (hb hby at_93) rfl rfl kt) ?_
    show own_R p.tables e below P (T61.setTop (mkF m 94 #[.val (.int p0), .val (.int p1), .val (.int p2), .val (.int p3), .val (.int p4), .val (.int p5), .val (.int (0 : Int32)), .val (.int n.toInt32), .val (.int (((p5.toUInt32 >>> ((4 : Int32) &&& 31).toUInt32).toInt32) &&& (7 : Int32))), .val (.int (((p5.toUInt32 >>> ((7 : Int32) &&& 31).toUInt32).toInt32) &&& (7 : Int32))), .val (.int u.toInt32), .val (.int vv.toInt32), .unset, .unset, .unset] [(.ref b61), (.ref b61)]))
    refine own_fwd (fun tt kt => XS.iconst X61.here hx rfl (hb hby at_94) kt) ?_
    show own_R p.tables e below P (T61.setTop (mkF m 95 #[.val (.int p0), .val (.int p1), .val (.int p2), .val (.int p3), .val (.int p4), .val (.int p5), .val (.int (0 : Int32)), .val (.int n.toInt32), .val (.int (((p5.toUInt32 >>> ((4 : Int32) &&& 31).toUInt32).toInt32) &&& (7 : Int32))), .val (.int (((p5.toUInt32 >>> ((7 : Int32) &&& 31).toUInt32).toInt32) &&& (7 : Int32))), .val (.int u.toInt32), .val (.int vv.toInt32), .unset, .unset, .unset] [(.int (0 : Int32)), (.ref b61), (.ref b61)]))
    refine own_fwd (fun tt kt => XS.iloadN X61.here hx rfl (hb hby at_95) rfl kt) ?_
    show own_R p.tables e below P (T61.setTop (mkF m 96 #[.val (.int p0), .val (.int p1), .val (.int p2), .val (.int p3), .val (.int p4), .val (.int p5), .val (.int (0 : Int32)), .val (.int n.toInt32), .val (.int (((p5.toUInt32 >>> ((4 : Int32) &&& 31).toUInt32).toInt32) &&& (7 : Int32))), .val (.int (((p5.toUInt32 >>> ((7 : Int32) &&& 31).toUInt32).toInt32) &&& (7 : Int32))), .val (.int u.toInt32), .val (.int vv.toInt32), .unset, .unset, .unset] [(.int p0), (.int (0 : Int32)), (.ref b61), (.ref b61)]))
    obtain ⟨T62, h62, X62, e62, W62, A62_, st62⟩ := own_stI X61 hx hZ e61 A61_ (j := (0 : Int32)) 0 (by decide) (by decide) (g := (mkF m 96 #[.val (.int p0), .val (.int p1), .val (.int p2), .val (.int p3), .val (.int p4), .val (.int p5), .val (.int (0 : Int32)), .val (.int n.toInt32), .val (.int (((p5.toUInt32 >>> ((4 : Int32) &&& 31).toUInt32).toInt32) &&& (7 : Int32))), .val (.int (((p5.toUInt32 >>> ((7 : Int32) &&& 31).toUInt32).toInt32) &&& (7 : Int32))), .val (.int u.toInt32), .val (.int vv.toInt32), .unset, .unset, .unset] [(.int p0), (.int (0 : Int32)), (.ref b61), (.ref b61)])) rfl rfl (hb hby at_96)
    have B61_x62 := B61.wr W62
    have N62 := Fr.snoc X62 N57 ge_b61
    have Z62 : n0 ≤ h62.size := by rw [W62.size]; exact Z61
    have Y62 : h0.size ≤ h62.size := by rw [W62.size]; exact Y61
    refine own_fwd st62 ?_
    show own_R p.tables e below P (T62.setTop (mkF m 97 #[.val (.int p0), .val (.int p1), .val (.int p2), .val (.int p3), .val (.int p4), .val (.int p5), .val (.int (0 : Int32)), .val (.int n.toInt32), .val (.int (((p5.toUInt32 >>> ((4 : Int32) &&& 31).toUInt32).toInt32) &&& (7 : Int32))), .val (.int (((p5.toUInt32 >>> ((7 : Int32) &&& 31).toUInt32).toInt32) &&& (7 : Int32))), .val (.int u.toInt32), .val (.int vv.toInt32), .unset, .unset, .unset] [(.ref b61)]))
    refine own_fwd (fun tt kt => XS.astore X62.here hx rfl (hb hby at_97) rfl rfl (l' := #[.val (.int p0), .val (.int p1), .val (.int p2), .val (.int p3), .val (.int p4), .val (.int p5), .val (.int (0 : Int32)), .val (.int n.toInt32), .val (.int (((p5.toUInt32 >>> ((4 : Int32) &&& 31).toUInt32).toInt32) &&& (7 : Int32))), .val (.int (((p5.toUInt32 >>> ((7 : Int32) &&& 31).toUInt32).toInt32) &&& (7 : Int32))), .val (.int u.toInt32), .val (.int vv.toInt32), .val (.ref b61), .unset, .unset]) rfl kt) ?_
    show own_R p.tables e below P (T62.setTop (mkF m 99 #[.val (.int p0), .val (.int p1), .val (.int p2), .val (.int p3), .val (.int p4), .val (.int p5), .val (.int (0 : Int32)), .val (.int n.toInt32), .val (.int (((p5.toUInt32 >>> ((4 : Int32) &&& 31).toUInt32).toInt32) &&& (7 : Int32))), .val (.int (((p5.toUInt32 >>> ((7 : Int32) &&& 31).toUInt32).toInt32) &&& (7 : Int32))), .val (.int u.toInt32), .val (.int vv.toInt32), .val (.ref b61), .unset, .unset] []))
    refine own_fwd (fun tt kt => XS.iconst X62.here hx rfl (hb hby at_99) kt) ?_
    show own_R p.tables e below P (T62.setTop (mkF m 100 #[.val (.int p0), .val (.int p1), .val (.int p2), .val (.int p3), .val (.int p4), .val (.int p5), .val (.int (0 : Int32)), .val (.int n.toInt32), .val (.int (((p5.toUInt32 >>> ((4 : Int32) &&& 31).toUInt32).toInt32) &&& (7 : Int32))), .val (.int (((p5.toUInt32 >>> ((7 : Int32) &&& 31).toUInt32).toInt32) &&& (7 : Int32))), .val (.int u.toInt32), .val (.int vv.toInt32), .val (.ref b61), .unset, .unset] [(.int (0 : Int32))]))
    obtain ⟨T63, h63, b63, g63, X63, e63, E63, A63, B63, st63⟩ := own_newA (n := 0) X62 hx hZ (hw _ (List.mem_of_getElem? (i := 4) rfl)) e62 (z := (0 : Int32)) (by decide) (cap := 0) (by decide) (g := (mkF m 100 #[.val (.int p0), .val (.int p1), .val (.int p2), .val (.int p3), .val (.int p4), .val (.int p5), .val (.int (0 : Int32)), .val (.int n.toInt32), .val (.int (((p5.toUInt32 >>> ((4 : Int32) &&& 31).toUInt32).toInt32) &&& (7 : Int32))), .val (.int (((p5.toUInt32 >>> ((7 : Int32) &&& 31).toUInt32).toInt32) &&& (7 : Int32))), .val (.int u.toInt32), .val (.int vv.toInt32), .val (.ref b61), .unset, .unset] [(.int (0 : Int32))])) rfl (hb hby at_100) rfl (by decide) (by decide) (by decide) (ad := "[I") (by decide)
    have ne63_b61 : b61 ≠ b63 := Nat.ne_of_lt (by rw [g63]; exact A62_.lt)
    have ge_b63 : n0 ≤ b63 := by rw [g63]; exact Z62
    have sz_b63 : h0.size ≤ b63 := by rw [g63]; exact Y62
    have A62__x63 := A62_.ext E63
    have B61_x63 := B61_x62.ext E63
    have A63_ : own_AI Z h63 b63 .int 0 (fun _ => (0 : Int32)) := A63
    have Z63 : n0 ≤ h63.size := Nat.le_trans Z62 E63.1
    have Y63 : h0.size ≤ h63.size := Nat.le_trans Y62 E63.1
    refine own_fwd st63 ?_
    show own_R p.tables e below P (T63.setTop (mkF m 102 #[.val (.int p0), .val (.int p1), .val (.int p2), .val (.int p3), .val (.int p4), .val (.int p5), .val (.int (0 : Int32)), .val (.int n.toInt32), .val (.int (((p5.toUInt32 >>> ((4 : Int32) &&& 31).toUInt32).toInt32) &&& (7 : Int32))), .val (.int (((p5.toUInt32 >>> ((7 : Int32) &&& 31).toUInt32).toInt32) &&& (7 : Int32))), .val (.int u.toInt32), .val (.int vv.toInt32), .val (.ref b61), .unset, .unset] [(.ref b63)]))
    refine own_fwd (fun tt kt => XS.astore X63.here hx rfl (hb hby at_102) rfl rfl (l' := #[.val (.int p0), .val (.int p1), .val (.int p2), .val (.int p3), .val (.int p4), .val (.int p5), .val (.int (0 : Int32)), .val (.int n.toInt32), .val (.int (((p5.toUInt32 >>> ((4 : Int32) &&& 31).toUInt32).toInt32) &&& (7 : Int32))), .val (.int (((p5.toUInt32 >>> ((7 : Int32) &&& 31).toUInt32).toInt32) &&& (7 : Int32))), .val (.int u.toInt32), .val (.int vv.toInt32), .val (.ref b61), .val (.ref b63), .unset]) rfl kt) ?_
    show own_R p.tables e below P (T63.setTop (mkF m 104 #[.val (.int p0), .val (.int p1), .val (.int p2), .val (.int p3), .val (.int p4), .val (.int p5), .val (.int (0 : Int32)), .val (.int n.toInt32), .val (.int (((p5.toUInt32 >>> ((4 : Int32) &&& 31).toUInt32).toInt32) &&& (7 : Int32))), .val (.int (((p5.toUInt32 >>> ((7 : Int32) &&& 31).toUInt32).toInt32) &&& (7 : Int32))), .val (.int u.toInt32), .val (.int vv.toInt32), .val (.ref b61), .val (.ref b63), .unset] []))
    refine own_fwd (fun tt kt => XS.goto X63.here hx rfl (pc0 := 104) (pc' := 184) rfl (hb hby at_104) (by decide) (by decide) kt) ?_
    show own_R p.tables e below P (T63.setTop (mkF m 184 #[.val (.int p0), .val (.int p1), .val (.int p2), .val (.int p3), .val (.int p4), .val (.int p5), .val (.int (0 : Int32)), .val (.int n.toInt32), .val (.int (((p5.toUInt32 >>> ((4 : Int32) &&& 31).toUInt32).toInt32) &&& (7 : Int32))), .val (.int (((p5.toUInt32 >>> ((7 : Int32) &&& 31).toUInt32).toInt32) &&& (7 : Int32))), .val (.int u.toInt32), .val (.int vv.toInt32), .val (.ref b61), .val (.ref b63), .unset] []))
    refine own_fwd (fun tt kt => XS.aload X63.here hx rfl (hb hby at_184) rfl rfl kt) ?_
    show own_R p.tables e below P (T63.setTop (mkF m 186 #[.val (.int p0), .val (.int p1), .val (.int p2), .val (.int p3), .val (.int p4), .val (.int p5), .val (.int (0 : Int32)), .val (.int n.toInt32), .val (.int (((p5.toUInt32 >>> ((4 : Int32) &&& 31).toUInt32).toInt32) &&& (7 : Int32))), .val (.int (((p5.toUInt32 >>> ((7 : Int32) &&& 31).toUInt32).toInt32) &&& (7 : Int32))), .val (.int u.toInt32), .val (.int vv.toInt32), .val (.ref b61), .val (.ref b63), .unset] [(.ref b61)]))
    refine own_fwd (fun tt kt => XS.aload X63.here hx rfl (hb hby at_186) rfl rfl kt) ?_
    show own_R p.tables e below P (T63.setTop (mkF m 188 #[.val (.int p0), .val (.int p1), .val (.int p2), .val (.int p3), .val (.int p4), .val (.int p5), .val (.int (0 : Int32)), .val (.int n.toInt32), .val (.int (((p5.toUInt32 >>> ((4 : Int32) &&& 31).toUInt32).toInt32) &&& (7 : Int32))), .val (.int (((p5.toUInt32 >>> ((7 : Int32) &&& 31).toUInt32).toInt32) &&& (7 : Int32))), .val (.int u.toInt32), .val (.int vv.toInt32), .val (.ref b61), .val (.ref b63), .unset] [(.ref b63), (.ref b61)]))
    refine own_fwd (fun tt kt => XS.iload X63.here hx rfl (hb hby at_188) rfl kt) ?_
    show own_R p.tables e below P (T63.setTop (mkF m 190 #[.val (.int p0), .val (.int p1), .val (.int p2), .val (.int p3), .val (.int p4), .val (.int p5), .val (.int (0 : Int32)), .val (.int n.toInt32), .val (.int (((p5.toUInt32 >>> ((4 : Int32) &&& 31).toUInt32).toInt32) &&& (7 : Int32))), .val (.int (((p5.toUInt32 >>> ((7 : Int32) &&& 31).toUInt32).toInt32) &&& (7 : Int32))), .val (.int u.toInt32), .val (.int vv.toInt32), .val (.ref b61), .val (.ref b63), .unset] [(.int n.toInt32), (.ref b63), (.ref b61)]))
    obtain ⟨_, _, ⟨T64, L64, k64, n64⟩, -, X64, ⟨Lc64, hQ64, l64, y64, z64⟩, st64⟩ := Jvm.LawKit.callS X63 hx (y := (⟨"com/example/tracefold/tracefold/PlaceProgram", "moved", "([I[II)[I"⟩ : MethodName)) hown (mvT hZ (hw _ (List.mem_of_getElem? (i := 5) rfl))) (mvT hZ (hw _ (List.mem_of_getElem? (i := 6) rfl))) (mvT hZ (hw _ (List.mem_of_getElem? (i := 7) rfl))) (mvT hZ (hw _ (List.mem_of_getElem? (i := 8) rfl))) (by decide) (backOf (W := 0) (own_rmmv0 l Z a0 hw [] b61 b63 n.toInt32 n (own_upd (fun _ => (0 : Int32)) 0 p0) (fun _ => (0 : Int32))  h63 n0 Z63 A62__x63 A63_ ln bn ) hZ (hw _ (List.mem_of_getElem? (i := 8) rfl)) (hw _ (List.mem_of_getElem? (i := 7) rfl)) (by decide) (by decide)) (g := (mkF m 190 #[.val (.int p0), .val (.int p1), .val (.int p2), .val (.int p3), .val (.int p4), .val (.int p5), .val (.int (0 : Int32)), .val (.int n.toInt32), .val (.int (((p5.toUInt32 >>> ((4 : Int32) &&& 31).toUInt32).toInt32) &&& (7 : Int32))), .val (.int (((p5.toUInt32 >>> ((7 : Int32) &&& 31).toUInt32).toInt32) &&& (7 : Int32))), .val (.int u.toInt32), .val (.int vv.toInt32), .val (.ref b61), .val (.ref b63), .unset] [(.int n.toInt32), (.ref b63), (.ref b61)])) rfl (by rw [hml]; rfl) (argsL := [(.ref b61), (.ref b63), (.int n.toInt32)]) (rest := []) (lenOf own_pd2 rfl) rfl (by show 2 * 0 + _ ≤ _; exact Nat.le_of_eq rfl) (hb hby at_190) (fun _ _ => ⟨rfl, e63, (by decide : 2 + 1 ≤ _), (by decide : 1 + 7 ≤ _)⟩)
    dsimp only [Pt.U, Pt.locs, Pt.cells, Pt.slots] at X64 l64 y64 z64 st64 hQ64
    subst l64 y64 z64
    obtain ⟨h64, e64⟩ : ∃ z, T64.heap = z := ⟨_, rfl⟩
    rw [e64] at hQ64
    obtain ⟨o64, hq64, N64q, ge_o64, K64, A64_⟩ := hQ64
    subst hq64
    have N64 := Fr.app N62 N64q
    have A62__x64 := A62__x63.keep K64 nin0
    have B61_x64 := B61_x63.keep K64
    have A63__x64 := A63_.keep K64 nin0
    have B63_x64 := B63.keep K64
    have Z64 : n0 ≤ h64.size := Nat.le_trans Z63 K64.1
    have Y64 : h0.size ≤ h64.size := Nat.le_trans Y63 K64.1
    have A64_ : own_AI Z h64 o64 .int (1 + 2 * n) (own_upd (fun _ => (0 : Int32)) 0 p0) := A64_
    refine own_fwd st64 ?_
    show own_R p.tables e below P (T64.setTop (mkF m 193 #[.val (.int p0), .val (.int p1), .val (.int p2), .val (.int p3), .val (.int p4), .val (.int p5), .val (.int (0 : Int32)), .val (.int n.toInt32), .val (.int (((p5.toUInt32 >>> ((4 : Int32) &&& 31).toUInt32).toInt32) &&& (7 : Int32))), .val (.int (((p5.toUInt32 >>> ((7 : Int32) &&& 31).toUInt32).toInt32) &&& (7 : Int32))), .val (.int u.toInt32), .val (.int vv.toInt32), .val (.ref b61), .val (.ref b63), .unset] [(.ref o64)]))
    refine own_fwd (fun tt kt => XS.astore X64.here hx rfl (hb hby at_193) rfl rfl (l' := #[.val (.int p0), .val (.int p1), .val (.int p2), .val (.int p3), .val (.int p4), .val (.int p5), .val (.int (0 : Int32)), .val (.int n.toInt32), .val (.int (((p5.toUInt32 >>> ((4 : Int32) &&& 31).toUInt32).toInt32) &&& (7 : Int32))), .val (.int (((p5.toUInt32 >>> ((7 : Int32) &&& 31).toUInt32).toInt32) &&& (7 : Int32))), .val (.int u.toInt32), .val (.int vv.toInt32), .val (.ref b61), .val (.ref b63), .val (.ref o64)]) rfl kt) ?_
    show own_R p.tables e below P (T64.setTop (mkF m 195 #[.val (.int p0), .val (.int p1), .val (.int p2), .val (.int p3), .val (.int p4), .val (.int p5), .val (.int (0 : Int32)), .val (.int n.toInt32), .val (.int (((p5.toUInt32 >>> ((4 : Int32) &&& 31).toUInt32).toInt32) &&& (7 : Int32))), .val (.int (((p5.toUInt32 >>> ((7 : Int32) &&& 31).toUInt32).toInt32) &&& (7 : Int32))), .val (.int u.toInt32), .val (.int vv.toInt32), .val (.ref b61), .val (.ref b63), .val (.ref o64)] []))
    refine own_fwd (fun tt kt => XS.aload X64.here hx rfl (hb hby at_195) rfl rfl kt) ?_
    show own_R p.tables e below P (T64.setTop (mkF m 197 #[.val (.int p0), .val (.int p1), .val (.int p2), .val (.int p3), .val (.int p4), .val (.int p5), .val (.int (0 : Int32)), .val (.int n.toInt32), .val (.int (((p5.toUInt32 >>> ((4 : Int32) &&& 31).toUInt32).toInt32) &&& (7 : Int32))), .val (.int (((p5.toUInt32 >>> ((7 : Int32) &&& 31).toUInt32).toInt32) &&& (7 : Int32))), .val (.int u.toInt32), .val (.int vv.toInt32), .val (.ref b61), .val (.ref b63), .val (.ref o64)] [(.ref o64)]))
    refine own_fwd (fun tt kt => XS.ifnullNo X64.here hx rfl (hb hby at_197) rfl kt) ?_
    show own_R p.tables e below P (T64.setTop (mkF m 200 #[.val (.int p0), .val (.int p1), .val (.int p2), .val (.int p3), .val (.int p4), .val (.int p5), .val (.int (0 : Int32)), .val (.int n.toInt32), .val (.int (((p5.toUInt32 >>> ((4 : Int32) &&& 31).toUInt32).toInt32) &&& (7 : Int32))), .val (.int (((p5.toUInt32 >>> ((7 : Int32) &&& 31).toUInt32).toInt32) &&& (7 : Int32))), .val (.int u.toInt32), .val (.int vv.toInt32), .val (.ref b61), .val (.ref b63), .val (.ref o64)] []))
    refine own_fwd (fun tt kt => XS.aload X64.here hx rfl (hb hby at_200) rfl rfl kt) ?_
    show own_R p.tables e below P (T64.setTop (mkF m 202 #[.val (.int p0), .val (.int p1), .val (.int p2), .val (.int p3), .val (.int p4), .val (.int p5), .val (.int (0 : Int32)), .val (.int n.toInt32), .val (.int (((p5.toUInt32 >>> ((4 : Int32) &&& 31).toUInt32).toInt32) &&& (7 : Int32))), .val (.int (((p5.toUInt32 >>> ((7 : Int32) &&& 31).toUInt32).toInt32) &&& (7 : Int32))), .val (.int u.toInt32), .val (.int vv.toInt32), .val (.ref b61), .val (.ref b63), .val (.ref o64)] [(.ref o64)]))
    refine own_fwd (own_len X64 hx hZ e64 A64_ ((1 : Int32) + ((2 : Int32) * n.toInt32)) (own_12n n bn _ ln) (g := (mkF m 202 #[.val (.int p0), .val (.int p1), .val (.int p2), .val (.int p3), .val (.int p4), .val (.int p5), .val (.int (0 : Int32)), .val (.int n.toInt32), .val (.int (((p5.toUInt32 >>> ((4 : Int32) &&& 31).toUInt32).toInt32) &&& (7 : Int32))), .val (.int (((p5.toUInt32 >>> ((7 : Int32) &&& 31).toUInt32).toInt32) &&& (7 : Int32))), .val (.int u.toInt32), .val (.int vv.toInt32), .val (.ref b61), .val (.ref b63), .val (.ref o64)] [(.ref o64)])) rfl rfl (hb hby at_202)) ?_
    show own_R p.tables e below P (T64.setTop (mkF m 203 #[.val (.int p0), .val (.int p1), .val (.int p2), .val (.int p3), .val (.int p4), .val (.int p5), .val (.int (0 : Int32)), .val (.int n.toInt32), .val (.int (((p5.toUInt32 >>> ((4 : Int32) &&& 31).toUInt32).toInt32) &&& (7 : Int32))), .val (.int (((p5.toUInt32 >>> ((7 : Int32) &&& 31).toUInt32).toInt32) &&& (7 : Int32))), .val (.int u.toInt32), .val (.int vv.toInt32), .val (.ref b61), .val (.ref b63), .val (.ref o64)] [(.int ((1 : Int32) + ((2 : Int32) * n.toInt32)))]))
    refine own_fwd (fun tt kt => XS.iconst X64.here hx rfl (hb hby at_203) kt) ?_
    show own_R p.tables e below P (T64.setTop (mkF m 204 #[.val (.int p0), .val (.int p1), .val (.int p2), .val (.int p3), .val (.int p4), .val (.int p5), .val (.int (0 : Int32)), .val (.int n.toInt32), .val (.int (((p5.toUInt32 >>> ((4 : Int32) &&& 31).toUInt32).toInt32) &&& (7 : Int32))), .val (.int (((p5.toUInt32 >>> ((7 : Int32) &&& 31).toUInt32).toInt32) &&& (7 : Int32))), .val (.int u.toInt32), .val (.int vv.toInt32), .val (.ref b61), .val (.ref b63), .val (.ref o64)] [(.int (1 : Int32)), (.int ((1 : Int32) + ((2 : Int32) * n.toInt32)))]))
    refine own_fwd (fun tt kt => XS.iconst X64.here hx rfl (hb hby at_204) kt) ?_
    show own_R p.tables e below P (T64.setTop (mkF m 205 #[.val (.int p0), .val (.int p1), .val (.int p2), .val (.int p3), .val (.int p4), .val (.int p5), .val (.int (0 : Int32)), .val (.int n.toInt32), .val (.int (((p5.toUInt32 >>> ((4 : Int32) &&& 31).toUInt32).toInt32) &&& (7 : Int32))), .val (.int (((p5.toUInt32 >>> ((7 : Int32) &&& 31).toUInt32).toInt32) &&& (7 : Int32))), .val (.int u.toInt32), .val (.int vv.toInt32), .val (.ref b61), .val (.ref b63), .val (.ref o64)] [(.int (2 : Int32)), (.int (1 : Int32)), (.int ((1 : Int32) + ((2 : Int32) * n.toInt32)))]))
    refine own_fwd (fun tt kt => XS.iload X64.here hx rfl (hb hby at_205) rfl kt) ?_
    show own_R p.tables e below P (T64.setTop (mkF m 207 #[.val (.int p0), .val (.int p1), .val (.int p2), .val (.int p3), .val (.int p4), .val (.int p5), .val (.int (0 : Int32)), .val (.int n.toInt32), .val (.int (((p5.toUInt32 >>> ((4 : Int32) &&& 31).toUInt32).toInt32) &&& (7 : Int32))), .val (.int (((p5.toUInt32 >>> ((7 : Int32) &&& 31).toUInt32).toInt32) &&& (7 : Int32))), .val (.int u.toInt32), .val (.int vv.toInt32), .val (.ref b61), .val (.ref b63), .val (.ref o64)] [(.int n.toInt32), (.int (2 : Int32)), (.int (1 : Int32)), (.int ((1 : Int32) + ((2 : Int32) * n.toInt32)))]))
    refine own_fwd (fun tt kt => XS.imul X64.here hx rfl (hb hby at_207) rfl kt) ?_
    show own_R p.tables e below P (T64.setTop (mkF m 208 #[.val (.int p0), .val (.int p1), .val (.int p2), .val (.int p3), .val (.int p4), .val (.int p5), .val (.int (0 : Int32)), .val (.int n.toInt32), .val (.int (((p5.toUInt32 >>> ((4 : Int32) &&& 31).toUInt32).toInt32) &&& (7 : Int32))), .val (.int (((p5.toUInt32 >>> ((7 : Int32) &&& 31).toUInt32).toInt32) &&& (7 : Int32))), .val (.int u.toInt32), .val (.int vv.toInt32), .val (.ref b61), .val (.ref b63), .val (.ref o64)] [(.int ((2 : Int32) * n.toInt32)), (.int (1 : Int32)), (.int ((1 : Int32) + ((2 : Int32) * n.toInt32)))]))
    refine own_fwd (fun tt kt => XS.iadd X64.here hx rfl (hb hby at_208) rfl kt) ?_
    show own_R p.tables e below P (T64.setTop (mkF m 209 #[.val (.int p0), .val (.int p1), .val (.int p2), .val (.int p3), .val (.int p4), .val (.int p5), .val (.int (0 : Int32)), .val (.int n.toInt32), .val (.int (((p5.toUInt32 >>> ((4 : Int32) &&& 31).toUInt32).toInt32) &&& (7 : Int32))), .val (.int (((p5.toUInt32 >>> ((7 : Int32) &&& 31).toUInt32).toInt32) &&& (7 : Int32))), .val (.int u.toInt32), .val (.int vv.toInt32), .val (.ref b61), .val (.ref b63), .val (.ref o64)] [(.int ((1 : Int32) + ((2 : Int32) * n.toInt32))), (.int ((1 : Int32) + ((2 : Int32) * n.toInt32)))]))
    have hc65 : ((1 : Int32) + ((2 : Int32) * n.toInt32)) = ((1 : Int32) + ((2 : Int32) * n.toInt32)) := rfl
    refine own_fwd (fun tt kt => XS.icmpYes X64.here hx rfl (pc0 := 209) (pc' := 214) rfl (hb hby at_209) rfl (teq hc65).1 (by decide) (by decide) kt) ?_
    show own_R p.tables e below P (T64.setTop (mkF m 214 #[.val (.int p0), .val (.int p1), .val (.int p2), .val (.int p3), .val (.int p4), .val (.int p5), .val (.int (0 : Int32)), .val (.int n.toInt32), .val (.int (((p5.toUInt32 >>> ((4 : Int32) &&& 31).toUInt32).toInt32) &&& (7 : Int32))), .val (.int (((p5.toUInt32 >>> ((7 : Int32) &&& 31).toUInt32).toInt32) &&& (7 : Int32))), .val (.int u.toInt32), .val (.int vv.toInt32), .val (.ref b61), .val (.ref b63), .val (.ref o64)] []))
    refine own_fwd (fun tt kt => XS.aload X64.here hx rfl (hb hby at_214) rfl rfl kt) ?_
    show own_R p.tables e below P (T64.setTop (mkF m 216 #[.val (.int p0), .val (.int p1), .val (.int p2), .val (.int p3), .val (.int p4), .val (.int p5), .val (.int (0 : Int32)), .val (.int n.toInt32), .val (.int (((p5.toUInt32 >>> ((4 : Int32) &&& 31).toUInt32).toInt32) &&& (7 : Int32))), .val (.int (((p5.toUInt32 >>> ((7 : Int32) &&& 31).toUInt32).toInt32) &&& (7 : Int32))), .val (.int u.toInt32), .val (.int vv.toInt32), .val (.ref b61), .val (.ref b63), .val (.ref o64)] [(.ref o64)]))
    refine own_fwd (fun tt kt => XS.iconst X64.here hx rfl (hb hby at_216) kt) ?_
    show own_R p.tables e below P (T64.setTop (mkF m 217 #[.val (.int p0), .val (.int p1), .val (.int p2), .val (.int p3), .val (.int p4), .val (.int p5), .val (.int (0 : Int32)), .val (.int n.toInt32), .val (.int (((p5.toUInt32 >>> ((4 : Int32) &&& 31).toUInt32).toInt32) &&& (7 : Int32))), .val (.int (((p5.toUInt32 >>> ((7 : Int32) &&& 31).toUInt32).toInt32) &&& (7 : Int32))), .val (.int u.toInt32), .val (.int vv.toInt32), .val (.ref b61), .val (.ref b63), .val (.ref o64)] [(.int (0 : Int32)), (.ref o64)]))
    refine own_fwd (own_ldI X64 hx hZ e64 A64_ (j := (0 : Int32)) 0 (by decide) (by omega) (g := (mkF m 217 #[.val (.int p0), .val (.int p1), .val (.int p2), .val (.int p3), .val (.int p4), .val (.int p5), .val (.int (0 : Int32)), .val (.int n.toInt32), .val (.int (((p5.toUInt32 >>> ((4 : Int32) &&& 31).toUInt32).toInt32) &&& (7 : Int32))), .val (.int (((p5.toUInt32 >>> ((7 : Int32) &&& 31).toUInt32).toInt32) &&& (7 : Int32))), .val (.int u.toInt32), .val (.int vv.toInt32), .val (.ref b61), .val (.ref b63), .val (.ref o64)] [(.int (0 : Int32)), (.ref o64)])) rfl rfl (hb hby at_217)) ?_
    show own_R p.tables e below P (T64.setTop (mkF m 218 #[.val (.int p0), .val (.int p1), .val (.int p2), .val (.int p3), .val (.int p4), .val (.int p5), .val (.int (0 : Int32)), .val (.int n.toInt32), .val (.int (((p5.toUInt32 >>> ((4 : Int32) &&& 31).toUInt32).toInt32) &&& (7 : Int32))), .val (.int (((p5.toUInt32 >>> ((7 : Int32) &&& 31).toUInt32).toInt32) &&& (7 : Int32))), .val (.int u.toInt32), .val (.int vv.toInt32), .val (.ref b61), .val (.ref b63), .val (.ref o64)] [(.int ((own_upd (fun _ => (0 : Int32)) 0 p0) 0))]))
    have hv66 : ((own_upd (fun _ => (0 : Int32)) 0 p0) 0) = p0 := (own_upd_hit _ _ _)
    rw [hv66]
    show own_R p.tables e below P (T64.setTop (mkF m 218 #[.val (.int p0), .val (.int p1), .val (.int p2), .val (.int p3), .val (.int p4), .val (.int p5), .val (.int (0 : Int32)), .val (.int n.toInt32), .val (.int (((p5.toUInt32 >>> ((4 : Int32) &&& 31).toUInt32).toInt32) &&& (7 : Int32))), .val (.int (((p5.toUInt32 >>> ((7 : Int32) &&& 31).toUInt32).toInt32) &&& (7 : Int32))), .val (.int u.toInt32), .val (.int vv.toInt32), .val (.ref b61), .val (.ref b63), .val (.ref o64)] [(.int p0)]))
    have hv67 : p0 = p0 := rfl
    rw [hv67]
    show own_R p.tables e below P (T64.setTop (mkF m 218 #[.val (.int p0), .val (.int p1), .val (.int p2), .val (.int p3), .val (.int p4), .val (.int p5), .val (.int (0 : Int32)), .val (.int n.toInt32), .val (.int (((p5.toUInt32 >>> ((4 : Int32) &&& 31).toUInt32).toInt32) &&& (7 : Int32))), .val (.int (((p5.toUInt32 >>> ((7 : Int32) &&& 31).toUInt32).toInt32) &&& (7 : Int32))), .val (.int u.toInt32), .val (.int vv.toInt32), .val (.ref b61), .val (.ref b63), .val (.ref o64)] [(.int p0)]))
    refine own_fwd (fun tt kt => XS.iloadN X64.here hx rfl (hb hby at_218) rfl kt) ?_
    show own_R p.tables e below P (T64.setTop (mkF m 219 #[.val (.int p0), .val (.int p1), .val (.int p2), .val (.int p3), .val (.int p4), .val (.int p5), .val (.int (0 : Int32)), .val (.int n.toInt32), .val (.int (((p5.toUInt32 >>> ((4 : Int32) &&& 31).toUInt32).toInt32) &&& (7 : Int32))), .val (.int (((p5.toUInt32 >>> ((7 : Int32) &&& 31).toUInt32).toInt32) &&& (7 : Int32))), .val (.int u.toInt32), .val (.int vv.toInt32), .val (.ref b61), .val (.ref b63), .val (.ref o64)] [(.int p0), (.int p0)]))
    have hc68 : p0 = p0 := rfl
    refine own_fwd (fun tt kt => XS.icmpYes X64.here hx rfl (pc0 := 219) (pc' := 224) rfl (hb hby at_219) rfl (teq hc68).1 (by decide) (by decide) kt) ?_
    show own_R p.tables e below P (T64.setTop (mkF m 224 #[.val (.int p0), .val (.int p1), .val (.int p2), .val (.int p3), .val (.int p4), .val (.int p5), .val (.int (0 : Int32)), .val (.int n.toInt32), .val (.int (((p5.toUInt32 >>> ((4 : Int32) &&& 31).toUInt32).toInt32) &&& (7 : Int32))), .val (.int (((p5.toUInt32 >>> ((7 : Int32) &&& 31).toUInt32).toInt32) &&& (7 : Int32))), .val (.int u.toInt32), .val (.int vv.toInt32), .val (.ref b61), .val (.ref b63), .val (.ref o64)] []))
    refine own_fwd (fun tt kt => XS.aload X64.here hx rfl (hb hby at_224) rfl rfl kt) ?_
    show own_R p.tables e below P (T64.setTop (mkF m 226 #[.val (.int p0), .val (.int p1), .val (.int p2), .val (.int p3), .val (.int p4), .val (.int p5), .val (.int (0 : Int32)), .val (.int n.toInt32), .val (.int (((p5.toUInt32 >>> ((4 : Int32) &&& 31).toUInt32).toInt32) &&& (7 : Int32))), .val (.int (((p5.toUInt32 >>> ((7 : Int32) &&& 31).toUInt32).toInt32) &&& (7 : Int32))), .val (.int u.toInt32), .val (.int vv.toInt32), .val (.ref b61), .val (.ref b63), .val (.ref o64)] [(.ref o64)]))
    refine own_fwd (fun tt kt => XS.iload X64.here hx rfl (hb hby at_226) rfl kt) ?_
    show own_R p.tables e below P (T64.setTop (mkF m 228 #[.val (.int p0), .val (.int p1), .val (.int p2), .val (.int p3), .val (.int p4), .val (.int p5), .val (.int (0 : Int32)), .val (.int n.toInt32), .val (.int (((p5.toUInt32 >>> ((4 : Int32) &&& 31).toUInt32).toInt32) &&& (7 : Int32))), .val (.int (((p5.toUInt32 >>> ((7 : Int32) &&& 31).toUInt32).toInt32) &&& (7 : Int32))), .val (.int u.toInt32), .val (.int vv.toInt32), .val (.ref b61), .val (.ref b63), .val (.ref o64)] [(.int n.toInt32), (.ref o64)]))
    refine own_fwd (fun tt kt => XS.iconst X64.here hx rfl (hb hby at_228) kt) ?_
    show own_R p.tables e below P (T64.setTop (mkF m 229 #[.val (.int p0), .val (.int p1), .val (.int p2), .val (.int p3), .val (.int p4), .val (.int p5), .val (.int (0 : Int32)), .val (.int n.toInt32), .val (.int (((p5.toUInt32 >>> ((4 : Int32) &&& 31).toUInt32).toInt32) &&& (7 : Int32))), .val (.int (((p5.toUInt32 >>> ((7 : Int32) &&& 31).toUInt32).toInt32) &&& (7 : Int32))), .val (.int u.toInt32), .val (.int vv.toInt32), .val (.ref b61), .val (.ref b63), .val (.ref o64)] [(.int (0 : Int32)), (.int n.toInt32), (.ref o64)]))
    refine own_fwd (fun tt kt => XS.iload X64.here hx rfl (hb hby at_229) rfl kt) ?_
    show own_R p.tables e below P (T64.setTop (mkF m 231 #[.val (.int p0), .val (.int p1), .val (.int p2), .val (.int p3), .val (.int p4), .val (.int p5), .val (.int (0 : Int32)), .val (.int n.toInt32), .val (.int (((p5.toUInt32 >>> ((4 : Int32) &&& 31).toUInt32).toInt32) &&& (7 : Int32))), .val (.int (((p5.toUInt32 >>> ((7 : Int32) &&& 31).toUInt32).toInt32) &&& (7 : Int32))), .val (.int u.toInt32), .val (.int vv.toInt32), .val (.ref b61), .val (.ref b63), .val (.ref o64)] [(.int (0 : Int32)), (.int (0 : Int32)), (.int n.toInt32), (.ref o64)]))
    refine own_fwd (fun tt kt => XS.iload X64.here hx rfl (hb hby at_231) rfl kt) ?_
    show own_R p.tables e below P (T64.setTop (mkF m 233 #[.val (.int p0), .val (.int p1), .val (.int p2), .val (.int p3), .val (.int p4), .val (.int p5), .val (.int (0 : Int32)), .val (.int n.toInt32), .val (.int (((p5.toUInt32 >>> ((4 : Int32) &&& 31).toUInt32).toInt32) &&& (7 : Int32))), .val (.int (((p5.toUInt32 >>> ((7 : Int32) &&& 31).toUInt32).toInt32) &&& (7 : Int32))), .val (.int u.toInt32), .val (.int vv.toInt32), .val (.ref b61), .val (.ref b63), .val (.ref o64)] [(.int u.toInt32), (.int (0 : Int32)), (.int (0 : Int32)), (.int n.toInt32), (.ref o64)]))
    refine own_fwd (fun tt kt => XS.iload X64.here hx rfl (hb hby at_233) rfl kt) ?_
    show own_R p.tables e below P (T64.setTop (mkF m 235 #[.val (.int p0), .val (.int p1), .val (.int p2), .val (.int p3), .val (.int p4), .val (.int p5), .val (.int (0 : Int32)), .val (.int n.toInt32), .val (.int (((p5.toUInt32 >>> ((4 : Int32) &&& 31).toUInt32).toInt32) &&& (7 : Int32))), .val (.int (((p5.toUInt32 >>> ((7 : Int32) &&& 31).toUInt32).toInt32) &&& (7 : Int32))), .val (.int u.toInt32), .val (.int vv.toInt32), .val (.ref b61), .val (.ref b63), .val (.ref o64)] [(.int vv.toInt32), (.int u.toInt32), (.int (0 : Int32)), (.int (0 : Int32)), (.int n.toInt32), (.ref o64)]))
    refine own_fwd (fun tt kt => XS.iloadN X64.here hx rfl (hb hby at_235) rfl kt) ?_
    show own_R p.tables e below P (T64.setTop (mkF m 236 #[.val (.int p0), .val (.int p1), .val (.int p2), .val (.int p3), .val (.int p4), .val (.int p5), .val (.int (0 : Int32)), .val (.int n.toInt32), .val (.int (((p5.toUInt32 >>> ((4 : Int32) &&& 31).toUInt32).toInt32) &&& (7 : Int32))), .val (.int (((p5.toUInt32 >>> ((7 : Int32) &&& 31).toUInt32).toInt32) &&& (7 : Int32))), .val (.int u.toInt32), .val (.int vv.toInt32), .val (.ref b61), .val (.ref b63), .val (.ref o64)] [(.int p1), (.int vv.toInt32), (.int u.toInt32), (.int (0 : Int32)), (.int (0 : Int32)), (.int n.toInt32), (.ref o64)]))
    refine own_fwd (fun tt kt => XS.iloadN X64.here hx rfl (hb hby at_236) rfl kt) ?_
    show own_R p.tables e below P (T64.setTop (mkF m 237 #[.val (.int p0), .val (.int p1), .val (.int p2), .val (.int p3), .val (.int p4), .val (.int p5), .val (.int (0 : Int32)), .val (.int n.toInt32), .val (.int (((p5.toUInt32 >>> ((4 : Int32) &&& 31).toUInt32).toInt32) &&& (7 : Int32))), .val (.int (((p5.toUInt32 >>> ((7 : Int32) &&& 31).toUInt32).toInt32) &&& (7 : Int32))), .val (.int u.toInt32), .val (.int vv.toInt32), .val (.ref b61), .val (.ref b63), .val (.ref o64)] [(.int p2), (.int p1), (.int vv.toInt32), (.int u.toInt32), (.int (0 : Int32)), (.int (0 : Int32)), (.int n.toInt32), (.ref o64)]))
    refine own_fwd (fun tt kt => XS.iloadN X64.here hx rfl (hb hby at_237) rfl kt) ?_
    show own_R p.tables e below P (T64.setTop (mkF m 238 #[.val (.int p0), .val (.int p1), .val (.int p2), .val (.int p3), .val (.int p4), .val (.int p5), .val (.int (0 : Int32)), .val (.int n.toInt32), .val (.int (((p5.toUInt32 >>> ((4 : Int32) &&& 31).toUInt32).toInt32) &&& (7 : Int32))), .val (.int (((p5.toUInt32 >>> ((7 : Int32) &&& 31).toUInt32).toInt32) &&& (7 : Int32))), .val (.int u.toInt32), .val (.int vv.toInt32), .val (.ref b61), .val (.ref b63), .val (.ref o64)] [(.int p3), (.int p2), (.int p1), (.int vv.toInt32), (.int u.toInt32), (.int (0 : Int32)), (.int (0 : Int32)), (.int n.toInt32), (.ref o64)]))
    refine own_fwd (fun tt kt => XS.iload X64.here hx rfl (hb hby at_238) rfl kt) ?_
    show own_R p.tables e below P (T64.setTop (mkF m 240 #[.val (.int p0), .val (.int p1), .val (.int p2), .val (.int p3), .val (.int p4), .val (.int p5), .val (.int (0 : Int32)), .val (.int n.toInt32), .val (.int (((p5.toUInt32 >>> ((4 : Int32) &&& 31).toUInt32).toInt32) &&& (7 : Int32))), .val (.int (((p5.toUInt32 >>> ((7 : Int32) &&& 31).toUInt32).toInt32) &&& (7 : Int32))), .val (.int u.toInt32), .val (.int vv.toInt32), .val (.ref b61), .val (.ref b63), .val (.ref o64)] [(.int p4), (.int p3), (.int p2), (.int p1), (.int vv.toInt32), (.int u.toInt32), (.int (0 : Int32)), (.int (0 : Int32)), (.int n.toInt32), (.ref o64)]))
    have sl69a : 0 < n → (own_upd (fun _ => (0 : Int32)) 0 p0) (1 + 0) = own_exp (0 : Int32) (0 : Int32) u.toInt32 vv.toInt32 p1 p2 := by
      intro q
      rw [own_e0]; simp only [own_upd]
      rw [if_neg (by omega)]
    have sl69b : 0 < n → (own_upd (fun _ => (0 : Int32)) 0 p0) (1 + n + 0) = own_exp (0 : Int32) (0 : Int32) u.toInt32 vv.toInt32 p3 p4 := by
      intro q
      rw [own_e0]; simp only [own_upd]
      rw [if_neg (by omega)]
    obtain ⟨_, _, ⟨T70, L70, k70, n70⟩, -, X70, ⟨Lc70, hQ70, l70, y70, z70⟩, st70⟩ := Jvm.LawKit.callS X64 hx (y := (⟨"com/example/tracefold/tracefold/PlaceProgramMovedPinLaw", "slot", "([IIIIIIIIII)Z"⟩ : MethodName)) hown (mvT hZ (hw _ (List.mem_of_getElem? (i := 9) rfl))) (mvT hZ (hw _ (List.mem_of_getElem? (i := 10) rfl))) (mvT hZ (hw _ (List.mem_of_getElem? (i := 11) rfl))) (mvT hZ (hw _ (List.mem_of_getElem? (i := 12) rfl))) (by decide) (backOf (W := 0) (own_rm3 l Z a0 hw [] o64 n.toInt32 (0 : Int32) (0 : Int32) u.toInt32 vv.toInt32 p1 p2 p3 p4 n 0 (own_upd (fun _ => (0 : Int32)) 0 p0) h64 n0 Z64 A64_ ln rfl bn (by omega) sl69a sl69b) hZ (hw _ (List.mem_of_getElem? (i := 12) rfl)) (hw _ (List.mem_of_getElem? (i := 11) rfl)) (by decide) (by decide)) (g := (mkF m 240 #[.val (.int p0), .val (.int p1), .val (.int p2), .val (.int p3), .val (.int p4), .val (.int p5), .val (.int (0 : Int32)), .val (.int n.toInt32), .val (.int (((p5.toUInt32 >>> ((4 : Int32) &&& 31).toUInt32).toInt32) &&& (7 : Int32))), .val (.int (((p5.toUInt32 >>> ((7 : Int32) &&& 31).toUInt32).toInt32) &&& (7 : Int32))), .val (.int u.toInt32), .val (.int vv.toInt32), .val (.ref b61), .val (.ref b63), .val (.ref o64)] [(.int p4), (.int p3), (.int p2), (.int p1), (.int vv.toInt32), (.int u.toInt32), (.int (0 : Int32)), (.int (0 : Int32)), (.int n.toInt32), (.ref o64)])) rfl (by rw [hml]; rfl) (argsL := [(.ref o64), (.int n.toInt32), (.int (0 : Int32)), (.int (0 : Int32)), (.int u.toInt32), (.int vv.toInt32), (.int p1), (.int p2), (.int p3), (.int p4)]) (rest := []) (lenOf own_pd3 rfl) rfl (by show 2 * 0 + _ ≤ _; exact Nat.le_of_eq rfl) (hb hby at_240) (fun _ _ => ⟨rfl, e64, (by decide : 3 + 0 ≤ _), (by decide : 8 + 0 ≤ _)⟩)
    dsimp only [Pt.U, Pt.locs, Pt.cells, Pt.slots] at X70 l70 y70 z70 st70 hQ70
    subst l70 y70 z70
    obtain ⟨h70, e70⟩ : ∃ z, T70.heap = z := ⟨_, rfl⟩
    rw [e70] at hQ70
    obtain ⟨hq70, N70q, q70⟩ := hQ70
    rw [q70] at e70
    subst hq70
    have N70 := Fr.app N64 N70q
    refine own_fwd st70 ?_
    show own_R p.tables e below P (T70.setTop (mkF m 243 #[.val (.int p0), .val (.int p1), .val (.int p2), .val (.int p3), .val (.int p4), .val (.int p5), .val (.int (0 : Int32)), .val (.int n.toInt32), .val (.int (((p5.toUInt32 >>> ((4 : Int32) &&& 31).toUInt32).toInt32) &&& (7 : Int32))), .val (.int (((p5.toUInt32 >>> ((7 : Int32) &&& 31).toUInt32).toInt32) &&& (7 : Int32))), .val (.int u.toInt32), .val (.int vv.toInt32), .val (.ref b61), .val (.ref b63), .val (.ref o64)] [(.int (1 : Int32))]))
    have hc71 : ¬ ((1 : Int32) = (0 : Int32)) := (by decide)
    refine own_fwd (fun tt kt => XS.ifNo X70.here hx rfl (hb hby at_243) rfl ((if0 _ _).trans (feq hc71).1) kt) ?_
    show own_R p.tables e below P (T70.setTop (mkF m 246 #[.val (.int p0), .val (.int p1), .val (.int p2), .val (.int p3), .val (.int p4), .val (.int p5), .val (.int (0 : Int32)), .val (.int n.toInt32), .val (.int (((p5.toUInt32 >>> ((4 : Int32) &&& 31).toUInt32).toInt32) &&& (7 : Int32))), .val (.int (((p5.toUInt32 >>> ((7 : Int32) &&& 31).toUInt32).toInt32) &&& (7 : Int32))), .val (.int u.toInt32), .val (.int vv.toInt32), .val (.ref b61), .val (.ref b63), .val (.ref o64)] []))
    refine own_fwd (fun tt kt => XS.aload X70.here hx rfl (hb hby at_246) rfl rfl kt) ?_
    show own_R p.tables e below P (T70.setTop (mkF m 248 #[.val (.int p0), .val (.int p1), .val (.int p2), .val (.int p3), .val (.int p4), .val (.int p5), .val (.int (0 : Int32)), .val (.int n.toInt32), .val (.int (((p5.toUInt32 >>> ((4 : Int32) &&& 31).toUInt32).toInt32) &&& (7 : Int32))), .val (.int (((p5.toUInt32 >>> ((7 : Int32) &&& 31).toUInt32).toInt32) &&& (7 : Int32))), .val (.int u.toInt32), .val (.int vv.toInt32), .val (.ref b61), .val (.ref b63), .val (.ref o64)] [(.ref o64)]))
    refine own_fwd (fun tt kt => XS.iload X70.here hx rfl (hb hby at_248) rfl kt) ?_
    show own_R p.tables e below P (T70.setTop (mkF m 250 #[.val (.int p0), .val (.int p1), .val (.int p2), .val (.int p3), .val (.int p4), .val (.int p5), .val (.int (0 : Int32)), .val (.int n.toInt32), .val (.int (((p5.toUInt32 >>> ((4 : Int32) &&& 31).toUInt32).toInt32) &&& (7 : Int32))), .val (.int (((p5.toUInt32 >>> ((7 : Int32) &&& 31).toUInt32).toInt32) &&& (7 : Int32))), .val (.int u.toInt32), .val (.int vv.toInt32), .val (.ref b61), .val (.ref b63), .val (.ref o64)] [(.int n.toInt32), (.ref o64)]))
    refine own_fwd (fun tt kt => XS.iconst X70.here hx rfl (hb hby at_250) kt) ?_
    show own_R p.tables e below P (T70.setTop (mkF m 251 #[.val (.int p0), .val (.int p1), .val (.int p2), .val (.int p3), .val (.int p4), .val (.int p5), .val (.int (0 : Int32)), .val (.int n.toInt32), .val (.int (((p5.toUInt32 >>> ((4 : Int32) &&& 31).toUInt32).toInt32) &&& (7 : Int32))), .val (.int (((p5.toUInt32 >>> ((7 : Int32) &&& 31).toUInt32).toInt32) &&& (7 : Int32))), .val (.int u.toInt32), .val (.int vv.toInt32), .val (.ref b61), .val (.ref b63), .val (.ref o64)] [(.int (1 : Int32)), (.int n.toInt32), (.ref o64)]))
    refine own_fwd (fun tt kt => XS.iload X70.here hx rfl (hb hby at_251) rfl kt) ?_
    show own_R p.tables e below P (T70.setTop (mkF m 253 #[.val (.int p0), .val (.int p1), .val (.int p2), .val (.int p3), .val (.int p4), .val (.int p5), .val (.int (0 : Int32)), .val (.int n.toInt32), .val (.int (((p5.toUInt32 >>> ((4 : Int32) &&& 31).toUInt32).toInt32) &&& (7 : Int32))), .val (.int (((p5.toUInt32 >>> ((7 : Int32) &&& 31).toUInt32).toInt32) &&& (7 : Int32))), .val (.int u.toInt32), .val (.int vv.toInt32), .val (.ref b61), .val (.ref b63), .val (.ref o64)] [(.int (0 : Int32)), (.int (1 : Int32)), (.int n.toInt32), (.ref o64)]))
    refine own_fwd (fun tt kt => XS.iload X70.here hx rfl (hb hby at_253) rfl kt) ?_
    show own_R p.tables e below P (T70.setTop (mkF m 255 #[.val (.int p0), .val (.int p1), .val (.int p2), .val (.int p3), .val (.int p4), .val (.int p5), .val (.int (0 : Int32)), .val (.int n.toInt32), .val (.int (((p5.toUInt32 >>> ((4 : Int32) &&& 31).toUInt32).toInt32) &&& (7 : Int32))), .val (.int (((p5.toUInt32 >>> ((7 : Int32) &&& 31).toUInt32).toInt32) &&& (7 : Int32))), .val (.int u.toInt32), .val (.int vv.toInt32), .val (.ref b61), .val (.ref b63), .val (.ref o64)] [(.int u.toInt32), (.int (0 : Int32)), (.int (1 : Int32)), (.int n.toInt32), (.ref o64)]))
    refine own_fwd (fun tt kt => XS.iload X70.here hx rfl (hb hby at_255) rfl kt) ?_
    show own_R p.tables e below P (T70.setTop (mkF m 257 #[.val (.int p0), .val (.int p1), .val (.int p2), .val (.int p3), .val (.int p4), .val (.int p5), .val (.int (0 : Int32)), .val (.int n.toInt32), .val (.int (((p5.toUInt32 >>> ((4 : Int32) &&& 31).toUInt32).toInt32) &&& (7 : Int32))), .val (.int (((p5.toUInt32 >>> ((7 : Int32) &&& 31).toUInt32).toInt32) &&& (7 : Int32))), .val (.int u.toInt32), .val (.int vv.toInt32), .val (.ref b61), .val (.ref b63), .val (.ref o64)] [(.int vv.toInt32), (.int u.toInt32), (.int (0 : Int32)), (.int (1 : Int32)), (.int n.toInt32), (.ref o64)]))
    refine own_fwd (fun tt kt => XS.iloadN X70.here hx rfl (hb hby at_257) rfl kt) ?_
    show own_R p.tables e below P (T70.setTop (mkF m 258 #[.val (.int p0), .val (.int p1), .val (.int p2), .val (.int p3), .val (.int p4), .val (.int p5), .val (.int (0 : Int32)), .val (.int n.toInt32), .val (.int (((p5.toUInt32 >>> ((4 : Int32) &&& 31).toUInt32).toInt32) &&& (7 : Int32))), .val (.int (((p5.toUInt32 >>> ((7 : Int32) &&& 31).toUInt32).toInt32) &&& (7 : Int32))), .val (.int u.toInt32), .val (.int vv.toInt32), .val (.ref b61), .val (.ref b63), .val (.ref o64)] [(.int p1), (.int vv.toInt32), (.int u.toInt32), (.int (0 : Int32)), (.int (1 : Int32)), (.int n.toInt32), (.ref o64)]))
    refine own_fwd (fun tt kt => XS.iloadN X70.here hx rfl (hb hby at_258) rfl kt) ?_
    show own_R p.tables e below P (T70.setTop (mkF m 259 #[.val (.int p0), .val (.int p1), .val (.int p2), .val (.int p3), .val (.int p4), .val (.int p5), .val (.int (0 : Int32)), .val (.int n.toInt32), .val (.int (((p5.toUInt32 >>> ((4 : Int32) &&& 31).toUInt32).toInt32) &&& (7 : Int32))), .val (.int (((p5.toUInt32 >>> ((7 : Int32) &&& 31).toUInt32).toInt32) &&& (7 : Int32))), .val (.int u.toInt32), .val (.int vv.toInt32), .val (.ref b61), .val (.ref b63), .val (.ref o64)] [(.int p2), (.int p1), (.int vv.toInt32), (.int u.toInt32), (.int (0 : Int32)), (.int (1 : Int32)), (.int n.toInt32), (.ref o64)]))
    refine own_fwd (fun tt kt => XS.iloadN X70.here hx rfl (hb hby at_259) rfl kt) ?_
    show own_R p.tables e below P (T70.setTop (mkF m 260 #[.val (.int p0), .val (.int p1), .val (.int p2), .val (.int p3), .val (.int p4), .val (.int p5), .val (.int (0 : Int32)), .val (.int n.toInt32), .val (.int (((p5.toUInt32 >>> ((4 : Int32) &&& 31).toUInt32).toInt32) &&& (7 : Int32))), .val (.int (((p5.toUInt32 >>> ((7 : Int32) &&& 31).toUInt32).toInt32) &&& (7 : Int32))), .val (.int u.toInt32), .val (.int vv.toInt32), .val (.ref b61), .val (.ref b63), .val (.ref o64)] [(.int p3), (.int p2), (.int p1), (.int vv.toInt32), (.int u.toInt32), (.int (0 : Int32)), (.int (1 : Int32)), (.int n.toInt32), (.ref o64)]))
    refine own_fwd (fun tt kt => XS.iload X70.here hx rfl (hb hby at_260) rfl kt) ?_
    show own_R p.tables e below P (T70.setTop (mkF m 262 #[.val (.int p0), .val (.int p1), .val (.int p2), .val (.int p3), .val (.int p4), .val (.int p5), .val (.int (0 : Int32)), .val (.int n.toInt32), .val (.int (((p5.toUInt32 >>> ((4 : Int32) &&& 31).toUInt32).toInt32) &&& (7 : Int32))), .val (.int (((p5.toUInt32 >>> ((7 : Int32) &&& 31).toUInt32).toInt32) &&& (7 : Int32))), .val (.int u.toInt32), .val (.int vv.toInt32), .val (.ref b61), .val (.ref b63), .val (.ref o64)] [(.int p4), (.int p3), (.int p2), (.int p1), (.int vv.toInt32), (.int u.toInt32), (.int (0 : Int32)), (.int (1 : Int32)), (.int n.toInt32), (.ref o64)]))
    have sl72a : 1 < n → (own_upd (fun _ => (0 : Int32)) 0 p0) (1 + 1) = own_exp (1 : Int32) (0 : Int32) u.toInt32 vv.toInt32 p1 p2 := by
      intro q
      rw [own_e0]; simp only [own_upd]
      rw [if_neg (by omega)]
    have sl72b : 1 < n → (own_upd (fun _ => (0 : Int32)) 0 p0) (1 + n + 1) = own_exp (1 : Int32) (0 : Int32) u.toInt32 vv.toInt32 p3 p4 := by
      intro q
      rw [own_e0]; simp only [own_upd]
      rw [if_neg (by omega)]
    obtain ⟨_, _, ⟨T73, L73, k73, n73⟩, -, X73, ⟨Lc73, hQ73, l73, y73, z73⟩, st73⟩ := Jvm.LawKit.callS X70 hx (y := (⟨"com/example/tracefold/tracefold/PlaceProgramMovedPinLaw", "slot", "([IIIIIIIIII)Z"⟩ : MethodName)) hown (mvT hZ (hw _ (List.mem_of_getElem? (i := 9) rfl))) (mvT hZ (hw _ (List.mem_of_getElem? (i := 10) rfl))) (mvT hZ (hw _ (List.mem_of_getElem? (i := 11) rfl))) (mvT hZ (hw _ (List.mem_of_getElem? (i := 12) rfl))) (by decide) (backOf (W := 0) (own_rm3 l Z a0 hw [] o64 n.toInt32 (1 : Int32) (0 : Int32) u.toInt32 vv.toInt32 p1 p2 p3 p4 n 1 (own_upd (fun _ => (0 : Int32)) 0 p0) h64 n0 Z64 A64_ ln rfl bn (by omega) sl72a sl72b) hZ (hw _ (List.mem_of_getElem? (i := 12) rfl)) (hw _ (List.mem_of_getElem? (i := 11) rfl)) (by decide) (by decide)) (g := (mkF m 262 #[.val (.int p0), .val (.int p1), .val (.int p2), .val (.int p3), .val (.int p4), .val (.int p5), .val (.int (0 : Int32)), .val (.int n.toInt32), .val (.int (((p5.toUInt32 >>> ((4 : Int32) &&& 31).toUInt32).toInt32) &&& (7 : Int32))), .val (.int (((p5.toUInt32 >>> ((7 : Int32) &&& 31).toUInt32).toInt32) &&& (7 : Int32))), .val (.int u.toInt32), .val (.int vv.toInt32), .val (.ref b61), .val (.ref b63), .val (.ref o64)] [(.int p4), (.int p3), (.int p2), (.int p1), (.int vv.toInt32), (.int u.toInt32), (.int (0 : Int32)), (.int (1 : Int32)), (.int n.toInt32), (.ref o64)])) rfl (by rw [hml]; rfl) (argsL := [(.ref o64), (.int n.toInt32), (.int (1 : Int32)), (.int (0 : Int32)), (.int u.toInt32), (.int vv.toInt32), (.int p1), (.int p2), (.int p3), (.int p4)]) (rest := []) (lenOf own_pd3 rfl) rfl (by show 2 * 0 + _ ≤ _; exact Nat.le_of_eq rfl) (hb hby at_262) (fun _ _ => ⟨rfl, e70, (by decide : 3 + 0 ≤ _), (by decide : 8 + 0 ≤ _)⟩)
    dsimp only [Pt.U, Pt.locs, Pt.cells, Pt.slots] at X73 l73 y73 z73 st73 hQ73
    subst l73 y73 z73
    obtain ⟨h73, e73⟩ : ∃ z, T73.heap = z := ⟨_, rfl⟩
    rw [e73] at hQ73
    obtain ⟨hq73, N73q, q73⟩ := hQ73
    rw [q73] at e73
    subst hq73
    have N73 := Fr.app N70 N73q
    refine own_fwd st73 ?_
    show own_R p.tables e below P (T73.setTop (mkF m 265 #[.val (.int p0), .val (.int p1), .val (.int p2), .val (.int p3), .val (.int p4), .val (.int p5), .val (.int (0 : Int32)), .val (.int n.toInt32), .val (.int (((p5.toUInt32 >>> ((4 : Int32) &&& 31).toUInt32).toInt32) &&& (7 : Int32))), .val (.int (((p5.toUInt32 >>> ((7 : Int32) &&& 31).toUInt32).toInt32) &&& (7 : Int32))), .val (.int u.toInt32), .val (.int vv.toInt32), .val (.ref b61), .val (.ref b63), .val (.ref o64)] [(.int (1 : Int32))]))
    have hc74 : ¬ ((1 : Int32) = (0 : Int32)) := (by decide)
    refine own_fwd (fun tt kt => XS.ifNo X73.here hx rfl (hb hby at_265) rfl ((if0 _ _).trans (feq hc74).1) kt) ?_
    show own_R p.tables e below P (T73.setTop (mkF m 268 #[.val (.int p0), .val (.int p1), .val (.int p2), .val (.int p3), .val (.int p4), .val (.int p5), .val (.int (0 : Int32)), .val (.int n.toInt32), .val (.int (((p5.toUInt32 >>> ((4 : Int32) &&& 31).toUInt32).toInt32) &&& (7 : Int32))), .val (.int (((p5.toUInt32 >>> ((7 : Int32) &&& 31).toUInt32).toInt32) &&& (7 : Int32))), .val (.int u.toInt32), .val (.int vv.toInt32), .val (.ref b61), .val (.ref b63), .val (.ref o64)] []))
    refine own_fwd (fun tt kt => XS.aload X73.here hx rfl (hb hby at_268) rfl rfl kt) ?_
    show own_R p.tables e below P (T73.setTop (mkF m 270 #[.val (.int p0), .val (.int p1), .val (.int p2), .val (.int p3), .val (.int p4), .val (.int p5), .val (.int (0 : Int32)), .val (.int n.toInt32), .val (.int (((p5.toUInt32 >>> ((4 : Int32) &&& 31).toUInt32).toInt32) &&& (7 : Int32))), .val (.int (((p5.toUInt32 >>> ((7 : Int32) &&& 31).toUInt32).toInt32) &&& (7 : Int32))), .val (.int u.toInt32), .val (.int vv.toInt32), .val (.ref b61), .val (.ref b63), .val (.ref o64)] [(.ref o64)]))
    refine own_fwd (fun tt kt => XS.iload X73.here hx rfl (hb hby at_270) rfl kt) ?_
    show own_R p.tables e below P (T73.setTop (mkF m 272 #[.val (.int p0), .val (.int p1), .val (.int p2), .val (.int p3), .val (.int p4), .val (.int p5), .val (.int (0 : Int32)), .val (.int n.toInt32), .val (.int (((p5.toUInt32 >>> ((4 : Int32) &&& 31).toUInt32).toInt32) &&& (7 : Int32))), .val (.int (((p5.toUInt32 >>> ((7 : Int32) &&& 31).toUInt32).toInt32) &&& (7 : Int32))), .val (.int u.toInt32), .val (.int vv.toInt32), .val (.ref b61), .val (.ref b63), .val (.ref o64)] [(.int n.toInt32), (.ref o64)]))
    refine own_fwd (fun tt kt => XS.iconst X73.here hx rfl (hb hby at_272) kt) ?_
    show own_R p.tables e below P (T73.setTop (mkF m 273 #[.val (.int p0), .val (.int p1), .val (.int p2), .val (.int p3), .val (.int p4), .val (.int p5), .val (.int (0 : Int32)), .val (.int n.toInt32), .val (.int (((p5.toUInt32 >>> ((4 : Int32) &&& 31).toUInt32).toInt32) &&& (7 : Int32))), .val (.int (((p5.toUInt32 >>> ((7 : Int32) &&& 31).toUInt32).toInt32) &&& (7 : Int32))), .val (.int u.toInt32), .val (.int vv.toInt32), .val (.ref b61), .val (.ref b63), .val (.ref o64)] [(.int (2 : Int32)), (.int n.toInt32), (.ref o64)]))
    refine own_fwd (fun tt kt => XS.iload X73.here hx rfl (hb hby at_273) rfl kt) ?_
    show own_R p.tables e below P (T73.setTop (mkF m 275 #[.val (.int p0), .val (.int p1), .val (.int p2), .val (.int p3), .val (.int p4), .val (.int p5), .val (.int (0 : Int32)), .val (.int n.toInt32), .val (.int (((p5.toUInt32 >>> ((4 : Int32) &&& 31).toUInt32).toInt32) &&& (7 : Int32))), .val (.int (((p5.toUInt32 >>> ((7 : Int32) &&& 31).toUInt32).toInt32) &&& (7 : Int32))), .val (.int u.toInt32), .val (.int vv.toInt32), .val (.ref b61), .val (.ref b63), .val (.ref o64)] [(.int (0 : Int32)), (.int (2 : Int32)), (.int n.toInt32), (.ref o64)]))
    refine own_fwd (fun tt kt => XS.iload X73.here hx rfl (hb hby at_275) rfl kt) ?_
    show own_R p.tables e below P (T73.setTop (mkF m 277 #[.val (.int p0), .val (.int p1), .val (.int p2), .val (.int p3), .val (.int p4), .val (.int p5), .val (.int (0 : Int32)), .val (.int n.toInt32), .val (.int (((p5.toUInt32 >>> ((4 : Int32) &&& 31).toUInt32).toInt32) &&& (7 : Int32))), .val (.int (((p5.toUInt32 >>> ((7 : Int32) &&& 31).toUInt32).toInt32) &&& (7 : Int32))), .val (.int u.toInt32), .val (.int vv.toInt32), .val (.ref b61), .val (.ref b63), .val (.ref o64)] [(.int u.toInt32), (.int (0 : Int32)), (.int (2 : Int32)), (.int n.toInt32), (.ref o64)]))
    refine own_fwd (fun tt kt => XS.iload X73.here hx rfl (hb hby at_277) rfl kt) ?_
    show own_R p.tables e below P (T73.setTop (mkF m 279 #[.val (.int p0), .val (.int p1), .val (.int p2), .val (.int p3), .val (.int p4), .val (.int p5), .val (.int (0 : Int32)), .val (.int n.toInt32), .val (.int (((p5.toUInt32 >>> ((4 : Int32) &&& 31).toUInt32).toInt32) &&& (7 : Int32))), .val (.int (((p5.toUInt32 >>> ((7 : Int32) &&& 31).toUInt32).toInt32) &&& (7 : Int32))), .val (.int u.toInt32), .val (.int vv.toInt32), .val (.ref b61), .val (.ref b63), .val (.ref o64)] [(.int vv.toInt32), (.int u.toInt32), (.int (0 : Int32)), (.int (2 : Int32)), (.int n.toInt32), (.ref o64)]))
    refine own_fwd (fun tt kt => XS.iloadN X73.here hx rfl (hb hby at_279) rfl kt) ?_
    show own_R p.tables e below P (T73.setTop (mkF m 280 #[.val (.int p0), .val (.int p1), .val (.int p2), .val (.int p3), .val (.int p4), .val (.int p5), .val (.int (0 : Int32)), .val (.int n.toInt32), .val (.int (((p5.toUInt32 >>> ((4 : Int32) &&& 31).toUInt32).toInt32) &&& (7 : Int32))), .val (.int (((p5.toUInt32 >>> ((7 : Int32) &&& 31).toUInt32).toInt32) &&& (7 : Int32))), .val (.int u.toInt32), .val (.int vv.toInt32), .val (.ref b61), .val (.ref b63), .val (.ref o64)] [(.int p1), (.int vv.toInt32), (.int u.toInt32), (.int (0 : Int32)), (.int (2 : Int32)), (.int n.toInt32), (.ref o64)]))
    refine own_fwd (fun tt kt => XS.iloadN X73.here hx rfl (hb hby at_280) rfl kt) ?_
    show own_R p.tables e below P (T73.setTop (mkF m 281 #[.val (.int p0), .val (.int p1), .val (.int p2), .val (.int p3), .val (.int p4), .val (.int p5), .val (.int (0 : Int32)), .val (.int n.toInt32), .val (.int (((p5.toUInt32 >>> ((4 : Int32) &&& 31).toUInt32).toInt32) &&& (7 : Int32))), .val (.int (((p5.toUInt32 >>> ((7 : Int32) &&& 31).toUInt32).toInt32) &&& (7 : Int32))), .val (.int u.toInt32), .val (.int vv.toInt32), .val (.ref b61), .val (.ref b63), .val (.ref o64)] [(.int p2), (.int p1), (.int vv.toInt32), (.int u.toInt32), (.int (0 : Int32)), (.int (2 : Int32)), (.int n.toInt32), (.ref o64)]))
    refine own_fwd (fun tt kt => XS.iloadN X73.here hx rfl (hb hby at_281) rfl kt) ?_
    show own_R p.tables e below P (T73.setTop (mkF m 282 #[.val (.int p0), .val (.int p1), .val (.int p2), .val (.int p3), .val (.int p4), .val (.int p5), .val (.int (0 : Int32)), .val (.int n.toInt32), .val (.int (((p5.toUInt32 >>> ((4 : Int32) &&& 31).toUInt32).toInt32) &&& (7 : Int32))), .val (.int (((p5.toUInt32 >>> ((7 : Int32) &&& 31).toUInt32).toInt32) &&& (7 : Int32))), .val (.int u.toInt32), .val (.int vv.toInt32), .val (.ref b61), .val (.ref b63), .val (.ref o64)] [(.int p3), (.int p2), (.int p1), (.int vv.toInt32), (.int u.toInt32), (.int (0 : Int32)), (.int (2 : Int32)), (.int n.toInt32), (.ref o64)]))
    refine own_fwd (fun tt kt => XS.iload X73.here hx rfl (hb hby at_282) rfl kt) ?_
    show own_R p.tables e below P (T73.setTop (mkF m 284 #[.val (.int p0), .val (.int p1), .val (.int p2), .val (.int p3), .val (.int p4), .val (.int p5), .val (.int (0 : Int32)), .val (.int n.toInt32), .val (.int (((p5.toUInt32 >>> ((4 : Int32) &&& 31).toUInt32).toInt32) &&& (7 : Int32))), .val (.int (((p5.toUInt32 >>> ((7 : Int32) &&& 31).toUInt32).toInt32) &&& (7 : Int32))), .val (.int u.toInt32), .val (.int vv.toInt32), .val (.ref b61), .val (.ref b63), .val (.ref o64)] [(.int p4), (.int p3), (.int p2), (.int p1), (.int vv.toInt32), (.int u.toInt32), (.int (0 : Int32)), (.int (2 : Int32)), (.int n.toInt32), (.ref o64)]))
    have sl75a : 2 < n → (own_upd (fun _ => (0 : Int32)) 0 p0) (1 + 2) = own_exp (2 : Int32) (0 : Int32) u.toInt32 vv.toInt32 p1 p2 := by
      intro q
      rw [own_e0]; simp only [own_upd]
      rw [if_neg (by omega)]
    have sl75b : 2 < n → (own_upd (fun _ => (0 : Int32)) 0 p0) (1 + n + 2) = own_exp (2 : Int32) (0 : Int32) u.toInt32 vv.toInt32 p3 p4 := by
      intro q
      rw [own_e0]; simp only [own_upd]
      rw [if_neg (by omega)]
    obtain ⟨_, _, ⟨T76, L76, k76, n76⟩, -, X76, ⟨Lc76, hQ76, l76, y76, z76⟩, st76⟩ := Jvm.LawKit.callS X73 hx (y := (⟨"com/example/tracefold/tracefold/PlaceProgramMovedPinLaw", "slot", "([IIIIIIIIII)Z"⟩ : MethodName)) hown (mvT hZ (hw _ (List.mem_of_getElem? (i := 9) rfl))) (mvT hZ (hw _ (List.mem_of_getElem? (i := 10) rfl))) (mvT hZ (hw _ (List.mem_of_getElem? (i := 11) rfl))) (mvT hZ (hw _ (List.mem_of_getElem? (i := 12) rfl))) (by decide) (backOf (W := 0) (own_rm3 l Z a0 hw [] o64 n.toInt32 (2 : Int32) (0 : Int32) u.toInt32 vv.toInt32 p1 p2 p3 p4 n 2 (own_upd (fun _ => (0 : Int32)) 0 p0) h64 n0 Z64 A64_ ln rfl bn (by omega) sl75a sl75b) hZ (hw _ (List.mem_of_getElem? (i := 12) rfl)) (hw _ (List.mem_of_getElem? (i := 11) rfl)) (by decide) (by decide)) (g := (mkF m 284 #[.val (.int p0), .val (.int p1), .val (.int p2), .val (.int p3), .val (.int p4), .val (.int p5), .val (.int (0 : Int32)), .val (.int n.toInt32), .val (.int (((p5.toUInt32 >>> ((4 : Int32) &&& 31).toUInt32).toInt32) &&& (7 : Int32))), .val (.int (((p5.toUInt32 >>> ((7 : Int32) &&& 31).toUInt32).toInt32) &&& (7 : Int32))), .val (.int u.toInt32), .val (.int vv.toInt32), .val (.ref b61), .val (.ref b63), .val (.ref o64)] [(.int p4), (.int p3), (.int p2), (.int p1), (.int vv.toInt32), (.int u.toInt32), (.int (0 : Int32)), (.int (2 : Int32)), (.int n.toInt32), (.ref o64)])) rfl (by rw [hml]; rfl) (argsL := [(.ref o64), (.int n.toInt32), (.int (2 : Int32)), (.int (0 : Int32)), (.int u.toInt32), (.int vv.toInt32), (.int p1), (.int p2), (.int p3), (.int p4)]) (rest := []) (lenOf own_pd3 rfl) rfl (by show 2 * 0 + _ ≤ _; exact Nat.le_of_eq rfl) (hb hby at_284) (fun _ _ => ⟨rfl, e73, (by decide : 3 + 0 ≤ _), (by decide : 8 + 0 ≤ _)⟩)
    dsimp only [Pt.U, Pt.locs, Pt.cells, Pt.slots] at X76 l76 y76 z76 st76 hQ76
    subst l76 y76 z76
    obtain ⟨h76, e76⟩ : ∃ z, T76.heap = z := ⟨_, rfl⟩
    rw [e76] at hQ76
    obtain ⟨hq76, N76q, q76⟩ := hQ76
    rw [q76] at e76
    subst hq76
    have N76 := Fr.app N73 N76q
    refine own_fwd st76 ?_
    show own_R p.tables e below P (T76.setTop (mkF m 287 #[.val (.int p0), .val (.int p1), .val (.int p2), .val (.int p3), .val (.int p4), .val (.int p5), .val (.int (0 : Int32)), .val (.int n.toInt32), .val (.int (((p5.toUInt32 >>> ((4 : Int32) &&& 31).toUInt32).toInt32) &&& (7 : Int32))), .val (.int (((p5.toUInt32 >>> ((7 : Int32) &&& 31).toUInt32).toInt32) &&& (7 : Int32))), .val (.int u.toInt32), .val (.int vv.toInt32), .val (.ref b61), .val (.ref b63), .val (.ref o64)] [(.int (1 : Int32))]))
    have hc77 : ¬ ((1 : Int32) = (0 : Int32)) := (by decide)
    refine own_fwd (fun tt kt => XS.ifNo X76.here hx rfl (hb hby at_287) rfl ((if0 _ _).trans (feq hc77).1) kt) ?_
    show own_R p.tables e below P (T76.setTop (mkF m 290 #[.val (.int p0), .val (.int p1), .val (.int p2), .val (.int p3), .val (.int p4), .val (.int p5), .val (.int (0 : Int32)), .val (.int n.toInt32), .val (.int (((p5.toUInt32 >>> ((4 : Int32) &&& 31).toUInt32).toInt32) &&& (7 : Int32))), .val (.int (((p5.toUInt32 >>> ((7 : Int32) &&& 31).toUInt32).toInt32) &&& (7 : Int32))), .val (.int u.toInt32), .val (.int vv.toInt32), .val (.ref b61), .val (.ref b63), .val (.ref o64)] []))
    refine own_fwd (fun tt kt => XS.iconst X76.here hx rfl (hb hby at_290) kt) ?_
    show own_R p.tables e below P (T76.setTop (mkF m 291 #[.val (.int p0), .val (.int p1), .val (.int p2), .val (.int p3), .val (.int p4), .val (.int p5), .val (.int (0 : Int32)), .val (.int n.toInt32), .val (.int (((p5.toUInt32 >>> ((4 : Int32) &&& 31).toUInt32).toInt32) &&& (7 : Int32))), .val (.int (((p5.toUInt32 >>> ((7 : Int32) &&& 31).toUInt32).toInt32) &&& (7 : Int32))), .val (.int u.toInt32), .val (.int vv.toInt32), .val (.ref b61), .val (.ref b63), .val (.ref o64)] [(.int (1 : Int32))]))
    refine own_fwd (fun tt kt => XS.goto X76.here hx rfl (pc0 := 291) (pc' := 295) rfl (hb hby at_291) (by decide) (by decide) kt) ?_
    show own_R p.tables e below P (T76.setTop (mkF m 295 #[.val (.int p0), .val (.int p1), .val (.int p2), .val (.int p3), .val (.int p4), .val (.int p5), .val (.int (0 : Int32)), .val (.int n.toInt32), .val (.int (((p5.toUInt32 >>> ((4 : Int32) &&& 31).toUInt32).toInt32) &&& (7 : Int32))), .val (.int (((p5.toUInt32 >>> ((7 : Int32) &&& 31).toUInt32).toInt32) &&& (7 : Int32))), .val (.int u.toInt32), .val (.int vv.toInt32), .val (.ref b61), .val (.ref b63), .val (.ref o64)] [(.int (1 : Int32))]))
    obtain ⟨fs78, hr78, hrun78, hended78, hW78, hsame78⟩ := X76.leave (v := some (.int (1 : Int32))) (fun h => by rw [Bd.returns] at h; cases h)
    refine ⟨_, _, X76.ireturnOut hx (w := (1 : Int32)) Bd.returns rfl (by simp) (hb hby at_295) hr78, fin _ _ ⟨hrun78, hended78, _, _, rfl, ?_, ⟨_, rfl⟩, hW78, hsame78.mono (by decide) (by decide)⟩⟩
    show own_Qlaw Z p0 p1 p2 p3 p4 p5 h0 n0 _ T76.heap _
    rw [e76]
    exact ⟨rfl, N76⟩
  · rw [hs]
    show own_R p.tables e below P (s₁.setTop (mkF m 6 #[.val (.int p0), .val (.int p1), .val (.int p2), .val (.int p3), .val (.int p4), .val (.int p5), .unset, .unset, .unset, .unset, .unset, .unset, .unset, .unset, .unset] [(.int (1 : Int32))]))
    refine own_fwd (fun tt kt => XS.istore X0.here hx rfl (hb hby at_6) rfl (l' := #[.val (.int p0), .val (.int p1), .val (.int p2), .val (.int p3), .val (.int p4), .val (.int p5), .val (.int (1 : Int32)), .unset, .unset, .unset, .unset, .unset, .unset, .unset, .unset]) rfl kt) ?_
    show own_R p.tables e below P (s₁.setTop (mkF m 8 #[.val (.int p0), .val (.int p1), .val (.int p2), .val (.int p3), .val (.int p4), .val (.int p5), .val (.int (1 : Int32)), .unset, .unset, .unset, .unset, .unset, .unset, .unset, .unset] []))
    refine own_fwd (fun tt kt => XS.iconst X0.here hx rfl (hb hby at_8) kt) ?_
    show own_R p.tables e below P (s₁.setTop (mkF m 9 #[.val (.int p0), .val (.int p1), .val (.int p2), .val (.int p3), .val (.int p4), .val (.int p5), .val (.int (1 : Int32)), .unset, .unset, .unset, .unset, .unset, .unset, .unset, .unset] [(.int (3 : Int32))]))
    refine own_fwd (fun tt kt => XS.iload X0.here hx rfl (hb hby at_9) rfl kt) ?_
    show own_R p.tables e below P (s₁.setTop (mkF m 11 #[.val (.int p0), .val (.int p1), .val (.int p2), .val (.int p3), .val (.int p4), .val (.int p5), .val (.int (1 : Int32)), .unset, .unset, .unset, .unset, .unset, .unset, .unset, .unset] [(.int (1 : Int32)), (.int (3 : Int32))]))
    refine own_fwd (fun tt kt => XS.iload X0.here hx rfl (hb hby at_11) rfl kt) ?_
    show own_R p.tables e below P (s₁.setTop (mkF m 13 #[.val (.int p0), .val (.int p1), .val (.int p2), .val (.int p3), .val (.int p4), .val (.int p5), .val (.int (1 : Int32)), .unset, .unset, .unset, .unset, .unset, .unset, .unset, .unset] [(.int p5), (.int (1 : Int32)), (.int (3 : Int32))]))
    refine own_fwd (fun tt kt => XS.iconst X0.here hx rfl (hb hby at_13) kt) ?_
    show own_R p.tables e below P (s₁.setTop (mkF m 14 #[.val (.int p0), .val (.int p1), .val (.int p2), .val (.int p3), .val (.int p4), .val (.int p5), .val (.int (1 : Int32)), .unset, .unset, .unset, .unset, .unset, .unset, .unset, .unset] [(.int (2 : Int32)), (.int p5), (.int (1 : Int32)), (.int (3 : Int32))]))
    refine own_fwd (fun tt kt => XS.iushr X0.here hx rfl (hb hby at_14) rfl kt) ?_
    show own_R p.tables e below P (s₁.setTop (mkF m 15 #[.val (.int p0), .val (.int p1), .val (.int p2), .val (.int p3), .val (.int p4), .val (.int p5), .val (.int (1 : Int32)), .unset, .unset, .unset, .unset, .unset, .unset, .unset, .unset] [(.int ((p5.toUInt32 >>> ((2 : Int32) &&& 31).toUInt32).toInt32)), (.int (1 : Int32)), (.int (3 : Int32))]))
    refine own_fwd (fun tt kt => XS.iconst X0.here hx rfl (hb hby at_15) kt) ?_
    show own_R p.tables e below P (s₁.setTop (mkF m 16 #[.val (.int p0), .val (.int p1), .val (.int p2), .val (.int p3), .val (.int p4), .val (.int p5), .val (.int (1 : Int32)), .unset, .unset, .unset, .unset, .unset, .unset, .unset, .unset] [(.int (3 : Int32)), (.int ((p5.toUInt32 >>> ((2 : Int32) &&& 31).toUInt32).toInt32)), (.int (1 : Int32)), (.int (3 : Int32))]))
    refine own_fwd (fun tt kt => XS.iand X0.here hx rfl (hb hby at_16) rfl kt) ?_
    show own_R p.tables e below P (s₁.setTop (mkF m 17 #[.val (.int p0), .val (.int p1), .val (.int p2), .val (.int p3), .val (.int p4), .val (.int p5), .val (.int (1 : Int32)), .unset, .unset, .unset, .unset, .unset, .unset, .unset, .unset] [(.int (((p5.toUInt32 >>> ((2 : Int32) &&& 31).toUInt32).toInt32) &&& (3 : Int32))), (.int (1 : Int32)), (.int (3 : Int32))]))
    refine own_fwd (fun tt kt => XS.iadd X0.here hx rfl (hb hby at_17) rfl kt) ?_
    show own_R p.tables e below P (s₁.setTop (mkF m 18 #[.val (.int p0), .val (.int p1), .val (.int p2), .val (.int p3), .val (.int p4), .val (.int p5), .val (.int (1 : Int32)), .unset, .unset, .unset, .unset, .unset, .unset, .unset, .unset] [(.int ((1 : Int32) + (((p5.toUInt32 >>> ((2 : Int32) &&& 31).toUInt32).toInt32) &&& (3 : Int32)))), (.int (3 : Int32))]))
    obtain ⟨_, _, ⟨T79, L79, k79, n79⟩, -, X79, ⟨Lc79, hQ79, l79, y79, z79⟩, st79⟩ := Jvm.LawKit.callS X0 hx (y := (⟨"java/lang/Math", "min", "(II)I"⟩ : MethodName)) hown (mvT hZ (hw _ (List.mem_of_getElem? (i := 0) rfl))) (mvT hZ (hw _ (List.mem_of_getElem? (i := 1) rfl))) (mvT hZ (hw _ (List.mem_of_getElem? (i := 2) rfl))) (mvT hZ (hw _ (List.mem_of_getElem? (i := 3) rfl))) (by decide) (backOf (W := 0) (own_rm1 l Z a0 hw [] (3 : Int32) ((1 : Int32) + (((p5.toUInt32 >>> ((2 : Int32) &&& 31).toUInt32).toInt32) &&& (3 : Int32))) h0 n0 Z0 ) hZ (hw _ (List.mem_of_getElem? (i := 3) rfl)) (hw _ (List.mem_of_getElem? (i := 2) rfl)) (by decide) (by decide)) (g := (mkF m 18 #[.val (.int p0), .val (.int p1), .val (.int p2), .val (.int p3), .val (.int p4), .val (.int p5), .val (.int (1 : Int32)), .unset, .unset, .unset, .unset, .unset, .unset, .unset, .unset] [(.int ((1 : Int32) + (((p5.toUInt32 >>> ((2 : Int32) &&& 31).toUInt32).toInt32) &&& (3 : Int32)))), (.int (3 : Int32))])) rfl (by rw [hml]; rfl) (argsL := [(.int (3 : Int32)), (.int ((1 : Int32) + (((p5.toUInt32 >>> ((2 : Int32) &&& 31).toUInt32).toInt32) &&& (3 : Int32))))]) (rest := []) (lenOf own_pd1 rfl) rfl (by show 2 * 0 + _ ≤ _; exact Nat.le_of_eq rfl) (hb hby at_18) (fun _ _ => ⟨rfl, e0, (by decide : 0 + 0 ≤ _), (by decide : 0 + 0 ≤ _)⟩)
    dsimp only [Pt.U, Pt.locs, Pt.cells, Pt.slots] at X79 l79 y79 z79 st79 hQ79
    subst l79 y79 z79
    obtain ⟨h79, e79⟩ : ∃ z, T79.heap = z := ⟨_, rfl⟩
    rw [e79] at hQ79
    obtain ⟨hq79, N79q, q79⟩ := hQ79
    rw [q79] at e79
    subst hq79
    have N79 := Fr.app N0 N79q
    refine own_fwd st79 ?_
    show own_R p.tables e below P (T79.setTop (mkF m 21 #[.val (.int p0), .val (.int p1), .val (.int p2), .val (.int p3), .val (.int p4), .val (.int p5), .val (.int (1 : Int32)), .unset, .unset, .unset, .unset, .unset, .unset, .unset, .unset] [(.int (if ((1 : Int32) + (((p5.toUInt32 >>> ((2 : Int32) &&& 31).toUInt32).toInt32) &&& (3 : Int32))) < (3 : Int32) then ((1 : Int32) + (((p5.toUInt32 >>> ((2 : Int32) &&& 31).toUInt32).toInt32) &&& (3 : Int32))) else (3 : Int32)))]))
    obtain ⟨n, hn, mn, bn⟩ := own_n (1 : Int32) 1 rfl (by omega) ((p5.toUInt32 >>> ((2 : Int32) &&& 31).toUInt32).toInt32)
    rw [hn]
    show own_R p.tables e below P (T79.setTop (mkF m 21 #[.val (.int p0), .val (.int p1), .val (.int p2), .val (.int p3), .val (.int p4), .val (.int p5), .val (.int (1 : Int32)), .unset, .unset, .unset, .unset, .unset, .unset, .unset, .unset] [(.int n.toInt32)]))
    have ln : n.toInt32.toInt = (n : Int) := len_toInt (by omega)
    refine own_fwd (fun tt kt => XS.istore X79.here hx rfl (hb hby at_21) rfl (l' := #[.val (.int p0), .val (.int p1), .val (.int p2), .val (.int p3), .val (.int p4), .val (.int p5), .val (.int (1 : Int32)), .val (.int n.toInt32), .unset, .unset, .unset, .unset, .unset, .unset, .unset]) rfl kt) ?_
    show own_R p.tables e below P (T79.setTop (mkF m 23 #[.val (.int p0), .val (.int p1), .val (.int p2), .val (.int p3), .val (.int p4), .val (.int p5), .val (.int (1 : Int32)), .val (.int n.toInt32), .unset, .unset, .unset, .unset, .unset, .unset, .unset] []))
    refine own_fwd (fun tt kt => XS.iload X79.here hx rfl (hb hby at_23) rfl kt) ?_
    show own_R p.tables e below P (T79.setTop (mkF m 25 #[.val (.int p0), .val (.int p1), .val (.int p2), .val (.int p3), .val (.int p4), .val (.int p5), .val (.int (1 : Int32)), .val (.int n.toInt32), .unset, .unset, .unset, .unset, .unset, .unset, .unset] [(.int p5)]))
    refine own_fwd (fun tt kt => XS.iconst X79.here hx rfl (hb hby at_25) kt) ?_
    show own_R p.tables e below P (T79.setTop (mkF m 26 #[.val (.int p0), .val (.int p1), .val (.int p2), .val (.int p3), .val (.int p4), .val (.int p5), .val (.int (1 : Int32)), .val (.int n.toInt32), .unset, .unset, .unset, .unset, .unset, .unset, .unset] [(.int (4 : Int32)), (.int p5)]))
    refine own_fwd (fun tt kt => XS.iushr X79.here hx rfl (hb hby at_26) rfl kt) ?_
    show own_R p.tables e below P (T79.setTop (mkF m 27 #[.val (.int p0), .val (.int p1), .val (.int p2), .val (.int p3), .val (.int p4), .val (.int p5), .val (.int (1 : Int32)), .val (.int n.toInt32), .unset, .unset, .unset, .unset, .unset, .unset, .unset] [(.int ((p5.toUInt32 >>> ((4 : Int32) &&& 31).toUInt32).toInt32))]))
    refine own_fwd (fun tt kt => XS.bipush X79.here hx rfl (hb hby at_27) kt) ?_
    show own_R p.tables e below P (T79.setTop (mkF m 29 #[.val (.int p0), .val (.int p1), .val (.int p2), .val (.int p3), .val (.int p4), .val (.int p5), .val (.int (1 : Int32)), .val (.int n.toInt32), .unset, .unset, .unset, .unset, .unset, .unset, .unset] [(.int (7 : Int32)), (.int ((p5.toUInt32 >>> ((4 : Int32) &&& 31).toUInt32).toInt32))]))
    refine own_fwd (fun tt kt => XS.iand X79.here hx rfl (hb hby at_29) rfl kt) ?_
    show own_R p.tables e below P (T79.setTop (mkF m 30 #[.val (.int p0), .val (.int p1), .val (.int p2), .val (.int p3), .val (.int p4), .val (.int p5), .val (.int (1 : Int32)), .val (.int n.toInt32), .unset, .unset, .unset, .unset, .unset, .unset, .unset] [(.int (((p5.toUInt32 >>> ((4 : Int32) &&& 31).toUInt32).toInt32) &&& (7 : Int32)))]))
    refine own_fwd (fun tt kt => XS.istore X79.here hx rfl (hb hby at_30) rfl (l' := #[.val (.int p0), .val (.int p1), .val (.int p2), .val (.int p3), .val (.int p4), .val (.int p5), .val (.int (1 : Int32)), .val (.int n.toInt32), .val (.int (((p5.toUInt32 >>> ((4 : Int32) &&& 31).toUInt32).toInt32) &&& (7 : Int32))), .unset, .unset, .unset, .unset, .unset, .unset]) rfl kt) ?_
    show own_R p.tables e below P (T79.setTop (mkF m 32 #[.val (.int p0), .val (.int p1), .val (.int p2), .val (.int p3), .val (.int p4), .val (.int p5), .val (.int (1 : Int32)), .val (.int n.toInt32), .val (.int (((p5.toUInt32 >>> ((4 : Int32) &&& 31).toUInt32).toInt32) &&& (7 : Int32))), .unset, .unset, .unset, .unset, .unset, .unset] []))
    refine own_fwd (fun tt kt => XS.iload X79.here hx rfl (hb hby at_32) rfl kt) ?_
    show own_R p.tables e below P (T79.setTop (mkF m 34 #[.val (.int p0), .val (.int p1), .val (.int p2), .val (.int p3), .val (.int p4), .val (.int p5), .val (.int (1 : Int32)), .val (.int n.toInt32), .val (.int (((p5.toUInt32 >>> ((4 : Int32) &&& 31).toUInt32).toInt32) &&& (7 : Int32))), .unset, .unset, .unset, .unset, .unset, .unset] [(.int p5)]))
    refine own_fwd (fun tt kt => XS.bipush X79.here hx rfl (hb hby at_34) kt) ?_
    show own_R p.tables e below P (T79.setTop (mkF m 36 #[.val (.int p0), .val (.int p1), .val (.int p2), .val (.int p3), .val (.int p4), .val (.int p5), .val (.int (1 : Int32)), .val (.int n.toInt32), .val (.int (((p5.toUInt32 >>> ((4 : Int32) &&& 31).toUInt32).toInt32) &&& (7 : Int32))), .unset, .unset, .unset, .unset, .unset, .unset] [(.int (7 : Int32)), (.int p5)]))
    refine own_fwd (fun tt kt => XS.iushr X79.here hx rfl (hb hby at_36) rfl kt) ?_
    show own_R p.tables e below P (T79.setTop (mkF m 37 #[.val (.int p0), .val (.int p1), .val (.int p2), .val (.int p3), .val (.int p4), .val (.int p5), .val (.int (1 : Int32)), .val (.int n.toInt32), .val (.int (((p5.toUInt32 >>> ((4 : Int32) &&& 31).toUInt32).toInt32) &&& (7 : Int32))), .unset, .unset, .unset, .unset, .unset, .unset] [(.int ((p5.toUInt32 >>> ((7 : Int32) &&& 31).toUInt32).toInt32))]))
    refine own_fwd (fun tt kt => XS.bipush X79.here hx rfl (hb hby at_37) kt) ?_
    show own_R p.tables e below P (T79.setTop (mkF m 39 #[.val (.int p0), .val (.int p1), .val (.int p2), .val (.int p3), .val (.int p4), .val (.int p5), .val (.int (1 : Int32)), .val (.int n.toInt32), .val (.int (((p5.toUInt32 >>> ((4 : Int32) &&& 31).toUInt32).toInt32) &&& (7 : Int32))), .unset, .unset, .unset, .unset, .unset, .unset] [(.int (7 : Int32)), (.int ((p5.toUInt32 >>> ((7 : Int32) &&& 31).toUInt32).toInt32))]))
    refine own_fwd (fun tt kt => XS.iand X79.here hx rfl (hb hby at_39) rfl kt) ?_
    show own_R p.tables e below P (T79.setTop (mkF m 40 #[.val (.int p0), .val (.int p1), .val (.int p2), .val (.int p3), .val (.int p4), .val (.int p5), .val (.int (1 : Int32)), .val (.int n.toInt32), .val (.int (((p5.toUInt32 >>> ((4 : Int32) &&& 31).toUInt32).toInt32) &&& (7 : Int32))), .unset, .unset, .unset, .unset, .unset, .unset] [(.int (((p5.toUInt32 >>> ((7 : Int32) &&& 31).toUInt32).toInt32) &&& (7 : Int32)))]))
    refine own_fwd (fun tt kt => XS.istore X79.here hx rfl (hb hby at_40) rfl (l' := #[.val (.int p0), .val (.int p1), .val (.int p2), .val (.int p3), .val (.int p4), .val (.int p5), .val (.int (1 : Int32)), .val (.int n.toInt32), .val (.int (((p5.toUInt32 >>> ((4 : Int32) &&& 31).toUInt32).toInt32) &&& (7 : Int32))), .val (.int (((p5.toUInt32 >>> ((7 : Int32) &&& 31).toUInt32).toInt32) &&& (7 : Int32))), .unset, .unset, .unset, .unset, .unset]) rfl kt) ?_
    show own_R p.tables e below P (T79.setTop (mkF m 42 #[.val (.int p0), .val (.int p1), .val (.int p2), .val (.int p3), .val (.int p4), .val (.int p5), .val (.int (1 : Int32)), .val (.int n.toInt32), .val (.int (((p5.toUInt32 >>> ((4 : Int32) &&& 31).toUInt32).toInt32) &&& (7 : Int32))), .val (.int (((p5.toUInt32 >>> ((7 : Int32) &&& 31).toUInt32).toInt32) &&& (7 : Int32))), .unset, .unset, .unset, .unset, .unset] []))
    refine own_fwd (fun tt kt => XS.iload X79.here hx rfl (hb hby at_42) rfl kt) ?_
    show own_R p.tables e below P (T79.setTop (mkF m 44 #[.val (.int p0), .val (.int p1), .val (.int p2), .val (.int p3), .val (.int p4), .val (.int p5), .val (.int (1 : Int32)), .val (.int n.toInt32), .val (.int (((p5.toUInt32 >>> ((4 : Int32) &&& 31).toUInt32).toInt32) &&& (7 : Int32))), .val (.int (((p5.toUInt32 >>> ((7 : Int32) &&& 31).toUInt32).toInt32) &&& (7 : Int32))), .unset, .unset, .unset, .unset, .unset] [(.int n.toInt32)]))
    have j80 : ∀ P, own_R p.tables e below P (T79.setTop (mkF m 56 #[.val (.int p0), .val (.int p1), .val (.int p2), .val (.int p3), .val (.int p4), .val (.int p5), .val (.int (1 : Int32)), .val (.int n.toInt32), .val (.int (((p5.toUInt32 >>> ((4 : Int32) &&& 31).toUInt32).toInt32) &&& (7 : Int32))), .val (.int (((p5.toUInt32 >>> ((7 : Int32) &&& 31).toUInt32).toInt32) &&& (7 : Int32))), .unset, .unset, .unset, .unset, .unset] [(.int (if (0 : Int32) < n.toInt32 then ((((p5.toUInt32 >>> ((4 : Int32) &&& 31).toUInt32).toInt32) &&& (7 : Int32)) % n.toInt32) else (0 : Int32)))])) → own_R p.tables e below P (T79.setTop (mkF m 44 #[.val (.int p0), .val (.int p1), .val (.int p2), .val (.int p3), .val (.int p4), .val (.int p5), .val (.int (1 : Int32)), .val (.int n.toInt32), .val (.int (((p5.toUInt32 >>> ((4 : Int32) &&& 31).toUInt32).toInt32) &&& (7 : Int32))), .val (.int (((p5.toUInt32 >>> ((7 : Int32) &&& 31).toUInt32).toInt32) &&& (7 : Int32))), .unset, .unset, .unset, .unset, .unset] [(.int n.toInt32)])) := by
      intro P k
      by_cases hc80 : (0 : Int32) < n.toInt32
      · simp only [if_pos hc80] at k
        refine own_fwd (fun tt kt => XS.ifNo X79.here hx rfl (hb hby at_44) rfl ((if0 _ _).trans (tlt hc80).2.2.2) kt) ?_
        show own_R p.tables e below P (T79.setTop (mkF m 47 #[.val (.int p0), .val (.int p1), .val (.int p2), .val (.int p3), .val (.int p4), .val (.int p5), .val (.int (1 : Int32)), .val (.int n.toInt32), .val (.int (((p5.toUInt32 >>> ((4 : Int32) &&& 31).toUInt32).toInt32) &&& (7 : Int32))), .val (.int (((p5.toUInt32 >>> ((7 : Int32) &&& 31).toUInt32).toInt32) &&& (7 : Int32))), .unset, .unset, .unset, .unset, .unset] []))
        refine own_fwd (fun tt kt => XS.iload X79.here hx rfl (hb hby at_47) rfl kt) ?_
        show own_R p.tables e below P (T79.setTop (mkF m 49 #[.val (.int p0), .val (.int p1), .val (.int p2), .val (.int p3), .val (.int p4), .val (.int p5), .val (.int (1 : Int32)), .val (.int n.toInt32), .val (.int (((p5.toUInt32 >>> ((4 : Int32) &&& 31).toUInt32).toInt32) &&& (7 : Int32))), .val (.int (((p5.toUInt32 >>> ((7 : Int32) &&& 31).toUInt32).toInt32) &&& (7 : Int32))), .unset, .unset, .unset, .unset, .unset] [(.int (((p5.toUInt32 >>> ((4 : Int32) &&& 31).toUInt32).toInt32) &&& (7 : Int32)))]))
        refine own_fwd (fun tt kt => XS.iload X79.here hx rfl (hb hby at_49) rfl kt) ?_
        show own_R p.tables e below P (T79.setTop (mkF m 51 #[.val (.int p0), .val (.int p1), .val (.int p2), .val (.int p3), .val (.int p4), .val (.int p5), .val (.int (1 : Int32)), .val (.int n.toInt32), .val (.int (((p5.toUInt32 >>> ((4 : Int32) &&& 31).toUInt32).toInt32) &&& (7 : Int32))), .val (.int (((p5.toUInt32 >>> ((7 : Int32) &&& 31).toUInt32).toInt32) &&& (7 : Int32))), .unset, .unset, .unset, .unset, .unset] [(.int n.toInt32), (.int (((p5.toUInt32 >>> ((4 : Int32) &&& 31).toUInt32).toInt32) &&& (7 : Int32)))]))
        refine own_fwd (fun tt kt => iremM X79 hx rfl (hb hby at_51) rfl (fun q => by have q' := hc80; rw [q] at q'; exact absurd q' (by decide)) kt) ?_
        show own_R p.tables e below P (T79.setTop (mkF m 52 #[.val (.int p0), .val (.int p1), .val (.int p2), .val (.int p3), .val (.int p4), .val (.int p5), .val (.int (1 : Int32)), .val (.int n.toInt32), .val (.int (((p5.toUInt32 >>> ((4 : Int32) &&& 31).toUInt32).toInt32) &&& (7 : Int32))), .val (.int (((p5.toUInt32 >>> ((7 : Int32) &&& 31).toUInt32).toInt32) &&& (7 : Int32))), .unset, .unset, .unset, .unset, .unset] [(.int ((((p5.toUInt32 >>> ((4 : Int32) &&& 31).toUInt32).toInt32) &&& (7 : Int32)) % n.toInt32))]))
        refine own_fwd (fun tt kt => XS.goto X79.here hx rfl (pc0 := 52) (pc' := 56) rfl (hb hby at_52) (by decide) (by decide) kt) ?_
        show own_R p.tables e below P (T79.setTop (mkF m 56 #[.val (.int p0), .val (.int p1), .val (.int p2), .val (.int p3), .val (.int p4), .val (.int p5), .val (.int (1 : Int32)), .val (.int n.toInt32), .val (.int (((p5.toUInt32 >>> ((4 : Int32) &&& 31).toUInt32).toInt32) &&& (7 : Int32))), .val (.int (((p5.toUInt32 >>> ((7 : Int32) &&& 31).toUInt32).toInt32) &&& (7 : Int32))), .unset, .unset, .unset, .unset, .unset] [(.int ((((p5.toUInt32 >>> ((4 : Int32) &&& 31).toUInt32).toInt32) &&& (7 : Int32)) % n.toInt32))]))
        exact k
      · simp only [if_neg hc80] at k
        refine own_fwd (fun tt kt => XS.ifYes X79.here hx rfl (pc0 := 44) (pc' := 55) rfl (hb hby at_44) rfl ((if0 _ _).trans (flt hc80).2.2.2) (by decide) (by decide) kt) ?_
        show own_R p.tables e below P (T79.setTop (mkF m 55 #[.val (.int p0), .val (.int p1), .val (.int p2), .val (.int p3), .val (.int p4), .val (.int p5), .val (.int (1 : Int32)), .val (.int n.toInt32), .val (.int (((p5.toUInt32 >>> ((4 : Int32) &&& 31).toUInt32).toInt32) &&& (7 : Int32))), .val (.int (((p5.toUInt32 >>> ((7 : Int32) &&& 31).toUInt32).toInt32) &&& (7 : Int32))), .unset, .unset, .unset, .unset, .unset] []))
        refine own_fwd (fun tt kt => XS.iconst X79.here hx rfl (hb hby at_55) kt) ?_
        show own_R p.tables e below P (T79.setTop (mkF m 56 #[.val (.int p0), .val (.int p1), .val (.int p2), .val (.int p3), .val (.int p4), .val (.int p5), .val (.int (1 : Int32)), .val (.int n.toInt32), .val (.int (((p5.toUInt32 >>> ((4 : Int32) &&& 31).toUInt32).toInt32) &&& (7 : Int32))), .val (.int (((p5.toUInt32 >>> ((7 : Int32) &&& 31).toUInt32).toInt32) &&& (7 : Int32))), .unset, .unset, .unset, .unset, .unset] [(.int (0 : Int32))]))
        exact k
    refine j80 P ?_
    show own_R p.tables e below P (T79.setTop (mkF m 56 #[.val (.int p0), .val (.int p1), .val (.int p2), .val (.int p3), .val (.int p4), .val (.int p5), .val (.int (1 : Int32)), .val (.int n.toInt32), .val (.int (((p5.toUInt32 >>> ((4 : Int32) &&& 31).toUInt32).toInt32) &&& (7 : Int32))), .val (.int (((p5.toUInt32 >>> ((7 : Int32) &&& 31).toUInt32).toInt32) &&& (7 : Int32))), .unset, .unset, .unset, .unset, .unset] [(.int (if (0 : Int32) < n.toInt32 then ((((p5.toUInt32 >>> ((4 : Int32) &&& 31).toUInt32).toInt32) &&& (7 : Int32)) % n.toInt32) else (0 : Int32)))]))
    obtain ⟨u, hu, bu, cu⟩ := own_u n bn ((p5.toUInt32 >>> ((4 : Int32) &&& 31).toUInt32).toInt32)
    rw [hu]
    show own_R p.tables e below P (T79.setTop (mkF m 56 #[.val (.int p0), .val (.int p1), .val (.int p2), .val (.int p3), .val (.int p4), .val (.int p5), .val (.int (1 : Int32)), .val (.int n.toInt32), .val (.int (((p5.toUInt32 >>> ((4 : Int32) &&& 31).toUInt32).toInt32) &&& (7 : Int32))), .val (.int (((p5.toUInt32 >>> ((7 : Int32) &&& 31).toUInt32).toInt32) &&& (7 : Int32))), .unset, .unset, .unset, .unset, .unset] [(.int u.toInt32)]))
    have lu : u.toInt32.toInt = (u : Int) := len_toInt (by omega)
    refine own_fwd (fun tt kt => XS.istore X79.here hx rfl (hb hby at_56) rfl (l' := #[.val (.int p0), .val (.int p1), .val (.int p2), .val (.int p3), .val (.int p4), .val (.int p5), .val (.int (1 : Int32)), .val (.int n.toInt32), .val (.int (((p5.toUInt32 >>> ((4 : Int32) &&& 31).toUInt32).toInt32) &&& (7 : Int32))), .val (.int (((p5.toUInt32 >>> ((7 : Int32) &&& 31).toUInt32).toInt32) &&& (7 : Int32))), .val (.int u.toInt32), .unset, .unset, .unset, .unset]) rfl kt) ?_
    show own_R p.tables e below P (T79.setTop (mkF m 58 #[.val (.int p0), .val (.int p1), .val (.int p2), .val (.int p3), .val (.int p4), .val (.int p5), .val (.int (1 : Int32)), .val (.int n.toInt32), .val (.int (((p5.toUInt32 >>> ((4 : Int32) &&& 31).toUInt32).toInt32) &&& (7 : Int32))), .val (.int (((p5.toUInt32 >>> ((7 : Int32) &&& 31).toUInt32).toInt32) &&& (7 : Int32))), .val (.int u.toInt32), .unset, .unset, .unset, .unset] []))
    refine own_fwd (fun tt kt => XS.iload X79.here hx rfl (hb hby at_58) rfl kt) ?_
    show own_R p.tables e below P (T79.setTop (mkF m 60 #[.val (.int p0), .val (.int p1), .val (.int p2), .val (.int p3), .val (.int p4), .val (.int p5), .val (.int (1 : Int32)), .val (.int n.toInt32), .val (.int (((p5.toUInt32 >>> ((4 : Int32) &&& 31).toUInt32).toInt32) &&& (7 : Int32))), .val (.int (((p5.toUInt32 >>> ((7 : Int32) &&& 31).toUInt32).toInt32) &&& (7 : Int32))), .val (.int u.toInt32), .unset, .unset, .unset, .unset] [(.int n.toInt32)]))
    refine own_fwd (fun tt kt => XS.iconst X79.here hx rfl (hb hby at_60) kt) ?_
    show own_R p.tables e below P (T79.setTop (mkF m 61 #[.val (.int p0), .val (.int p1), .val (.int p2), .val (.int p3), .val (.int p4), .val (.int p5), .val (.int (1 : Int32)), .val (.int n.toInt32), .val (.int (((p5.toUInt32 >>> ((4 : Int32) &&& 31).toUInt32).toInt32) &&& (7 : Int32))), .val (.int (((p5.toUInt32 >>> ((7 : Int32) &&& 31).toUInt32).toInt32) &&& (7 : Int32))), .val (.int u.toInt32), .unset, .unset, .unset, .unset] [(.int (1 : Int32)), (.int n.toInt32)]))
    have j81 : ∀ P, own_R p.tables e below P (T79.setTop (mkF m 83 #[.val (.int p0), .val (.int p1), .val (.int p2), .val (.int p3), .val (.int p4), .val (.int p5), .val (.int (1 : Int32)), .val (.int n.toInt32), .val (.int (((p5.toUInt32 >>> ((4 : Int32) &&& 31).toUInt32).toInt32) &&& (7 : Int32))), .val (.int (((p5.toUInt32 >>> ((7 : Int32) &&& 31).toUInt32).toInt32) &&& (7 : Int32))), .val (.int u.toInt32), .unset, .unset, .unset, .unset] [(.int (if (1 : Int32) < n.toInt32 then (((u.toInt32 + (1 : Int32)) + ((((p5.toUInt32 >>> ((7 : Int32) &&& 31).toUInt32).toInt32) &&& (7 : Int32)) % (n.toInt32 - (1 : Int32)))) % n.toInt32) else (0 : Int32)))])) → own_R p.tables e below P (T79.setTop (mkF m 61 #[.val (.int p0), .val (.int p1), .val (.int p2), .val (.int p3), .val (.int p4), .val (.int p5), .val (.int (1 : Int32)), .val (.int n.toInt32), .val (.int (((p5.toUInt32 >>> ((4 : Int32) &&& 31).toUInt32).toInt32) &&& (7 : Int32))), .val (.int (((p5.toUInt32 >>> ((7 : Int32) &&& 31).toUInt32).toInt32) &&& (7 : Int32))), .val (.int u.toInt32), .unset, .unset, .unset, .unset] [(.int (1 : Int32)), (.int n.toInt32)])) := by
      intro P k
      by_cases hc81 : (1 : Int32) < n.toInt32
      · simp only [if_pos hc81] at k
        refine own_fwd (fun tt kt => XS.icmpNo X79.here hx rfl (hb hby at_61) rfl (tlt hc81).2.2.2 kt) ?_
        show own_R p.tables e below P (T79.setTop (mkF m 64 #[.val (.int p0), .val (.int p1), .val (.int p2), .val (.int p3), .val (.int p4), .val (.int p5), .val (.int (1 : Int32)), .val (.int n.toInt32), .val (.int (((p5.toUInt32 >>> ((4 : Int32) &&& 31).toUInt32).toInt32) &&& (7 : Int32))), .val (.int (((p5.toUInt32 >>> ((7 : Int32) &&& 31).toUInt32).toInt32) &&& (7 : Int32))), .val (.int u.toInt32), .unset, .unset, .unset, .unset] []))
        refine own_fwd (fun tt kt => XS.iload X79.here hx rfl (hb hby at_64) rfl kt) ?_
        show own_R p.tables e below P (T79.setTop (mkF m 66 #[.val (.int p0), .val (.int p1), .val (.int p2), .val (.int p3), .val (.int p4), .val (.int p5), .val (.int (1 : Int32)), .val (.int n.toInt32), .val (.int (((p5.toUInt32 >>> ((4 : Int32) &&& 31).toUInt32).toInt32) &&& (7 : Int32))), .val (.int (((p5.toUInt32 >>> ((7 : Int32) &&& 31).toUInt32).toInt32) &&& (7 : Int32))), .val (.int u.toInt32), .unset, .unset, .unset, .unset] [(.int u.toInt32)]))
        refine own_fwd (fun tt kt => XS.iconst X79.here hx rfl (hb hby at_66) kt) ?_
        show own_R p.tables e below P (T79.setTop (mkF m 67 #[.val (.int p0), .val (.int p1), .val (.int p2), .val (.int p3), .val (.int p4), .val (.int p5), .val (.int (1 : Int32)), .val (.int n.toInt32), .val (.int (((p5.toUInt32 >>> ((4 : Int32) &&& 31).toUInt32).toInt32) &&& (7 : Int32))), .val (.int (((p5.toUInt32 >>> ((7 : Int32) &&& 31).toUInt32).toInt32) &&& (7 : Int32))), .val (.int u.toInt32), .unset, .unset, .unset, .unset] [(.int (1 : Int32)), (.int u.toInt32)]))
        refine own_fwd (fun tt kt => XS.iadd X79.here hx rfl (hb hby at_67) rfl kt) ?_
        show own_R p.tables e below P (T79.setTop (mkF m 68 #[.val (.int p0), .val (.int p1), .val (.int p2), .val (.int p3), .val (.int p4), .val (.int p5), .val (.int (1 : Int32)), .val (.int n.toInt32), .val (.int (((p5.toUInt32 >>> ((4 : Int32) &&& 31).toUInt32).toInt32) &&& (7 : Int32))), .val (.int (((p5.toUInt32 >>> ((7 : Int32) &&& 31).toUInt32).toInt32) &&& (7 : Int32))), .val (.int u.toInt32), .unset, .unset, .unset, .unset] [(.int (u.toInt32 + (1 : Int32)))]))
        refine own_fwd (fun tt kt => XS.iload X79.here hx rfl (hb hby at_68) rfl kt) ?_
        show own_R p.tables e below P (T79.setTop (mkF m 70 #[.val (.int p0), .val (.int p1), .val (.int p2), .val (.int p3), .val (.int p4), .val (.int p5), .val (.int (1 : Int32)), .val (.int n.toInt32), .val (.int (((p5.toUInt32 >>> ((4 : Int32) &&& 31).toUInt32).toInt32) &&& (7 : Int32))), .val (.int (((p5.toUInt32 >>> ((7 : Int32) &&& 31).toUInt32).toInt32) &&& (7 : Int32))), .val (.int u.toInt32), .unset, .unset, .unset, .unset] [(.int (((p5.toUInt32 >>> ((7 : Int32) &&& 31).toUInt32).toInt32) &&& (7 : Int32))), (.int (u.toInt32 + (1 : Int32)))]))
        refine own_fwd (fun tt kt => XS.iload X79.here hx rfl (hb hby at_70) rfl kt) ?_
        show own_R p.tables e below P (T79.setTop (mkF m 72 #[.val (.int p0), .val (.int p1), .val (.int p2), .val (.int p3), .val (.int p4), .val (.int p5), .val (.int (1 : Int32)), .val (.int n.toInt32), .val (.int (((p5.toUInt32 >>> ((4 : Int32) &&& 31).toUInt32).toInt32) &&& (7 : Int32))), .val (.int (((p5.toUInt32 >>> ((7 : Int32) &&& 31).toUInt32).toInt32) &&& (7 : Int32))), .val (.int u.toInt32), .unset, .unset, .unset, .unset] [(.int n.toInt32), (.int (((p5.toUInt32 >>> ((7 : Int32) &&& 31).toUInt32).toInt32) &&& (7 : Int32))), (.int (u.toInt32 + (1 : Int32)))]))
        refine own_fwd (fun tt kt => XS.iconst X79.here hx rfl (hb hby at_72) kt) ?_
        show own_R p.tables e below P (T79.setTop (mkF m 73 #[.val (.int p0), .val (.int p1), .val (.int p2), .val (.int p3), .val (.int p4), .val (.int p5), .val (.int (1 : Int32)), .val (.int n.toInt32), .val (.int (((p5.toUInt32 >>> ((4 : Int32) &&& 31).toUInt32).toInt32) &&& (7 : Int32))), .val (.int (((p5.toUInt32 >>> ((7 : Int32) &&& 31).toUInt32).toInt32) &&& (7 : Int32))), .val (.int u.toInt32), .unset, .unset, .unset, .unset] [(.int (1 : Int32)), (.int n.toInt32), (.int (((p5.toUInt32 >>> ((7 : Int32) &&& 31).toUInt32).toInt32) &&& (7 : Int32))), (.int (u.toInt32 + (1 : Int32)))]))
        refine own_fwd (fun tt kt => XS.isub X79.here hx rfl (hb hby at_73) rfl kt) ?_
        show own_R p.tables e below P (T79.setTop (mkF m 74 #[.val (.int p0), .val (.int p1), .val (.int p2), .val (.int p3), .val (.int p4), .val (.int p5), .val (.int (1 : Int32)), .val (.int n.toInt32), .val (.int (((p5.toUInt32 >>> ((4 : Int32) &&& 31).toUInt32).toInt32) &&& (7 : Int32))), .val (.int (((p5.toUInt32 >>> ((7 : Int32) &&& 31).toUInt32).toInt32) &&& (7 : Int32))), .val (.int u.toInt32), .unset, .unset, .unset, .unset] [(.int (n.toInt32 - (1 : Int32))), (.int (((p5.toUInt32 >>> ((7 : Int32) &&& 31).toUInt32).toInt32) &&& (7 : Int32))), (.int (u.toInt32 + (1 : Int32)))]))
        refine own_fwd (fun tt kt => iremM X79 hx rfl (hb hby at_74) rfl (fun q => by have q1 := hc81; have q2 := c_isub n.toInt32 1; have q3 := own_i1; have q4 := own_i0; rw [Int32.lt_iff_toInt_lt] at q1; rw [q] at q2; omega) kt) ?_
        show own_R p.tables e below P (T79.setTop (mkF m 75 #[.val (.int p0), .val (.int p1), .val (.int p2), .val (.int p3), .val (.int p4), .val (.int p5), .val (.int (1 : Int32)), .val (.int n.toInt32), .val (.int (((p5.toUInt32 >>> ((4 : Int32) &&& 31).toUInt32).toInt32) &&& (7 : Int32))), .val (.int (((p5.toUInt32 >>> ((7 : Int32) &&& 31).toUInt32).toInt32) &&& (7 : Int32))), .val (.int u.toInt32), .unset, .unset, .unset, .unset] [(.int ((((p5.toUInt32 >>> ((7 : Int32) &&& 31).toUInt32).toInt32) &&& (7 : Int32)) % (n.toInt32 - (1 : Int32)))), (.int (u.toInt32 + (1 : Int32)))]))
        refine own_fwd (fun tt kt => XS.iadd X79.here hx rfl (hb hby at_75) rfl kt) ?_
        show own_R p.tables e below P (T79.setTop (mkF m 76 #[.val (.int p0), .val (.int p1), .val (.int p2), .val (.int p3), .val (.int p4), .val (.int p5), .val (.int (1 : Int32)), .val (.int n.toInt32), .val (.int (((p5.toUInt32 >>> ((4 : Int32) &&& 31).toUInt32).toInt32) &&& (7 : Int32))), .val (.int (((p5.toUInt32 >>> ((7 : Int32) &&& 31).toUInt32).toInt32) &&& (7 : Int32))), .val (.int u.toInt32), .unset, .unset, .unset, .unset] [(.int ((u.toInt32 + (1 : Int32)) + ((((p5.toUInt32 >>> ((7 : Int32) &&& 31).toUInt32).toInt32) &&& (7 : Int32)) % (n.toInt32 - (1 : Int32)))))]))
        refine own_fwd (fun tt kt => XS.iload X79.here hx rfl (hb hby at_76) rfl kt) ?_
        show own_R p.tables e below P (T79.setTop (mkF m 78 #[.val (.int p0), .val (.int p1), .val (.int p2), .val (.int p3), .val (.int p4), .val (.int p5), .val (.int (1 : Int32)), .val (.int n.toInt32), .val (.int (((p5.toUInt32 >>> ((4 : Int32) &&& 31).toUInt32).toInt32) &&& (7 : Int32))), .val (.int (((p5.toUInt32 >>> ((7 : Int32) &&& 31).toUInt32).toInt32) &&& (7 : Int32))), .val (.int u.toInt32), .unset, .unset, .unset, .unset] [(.int n.toInt32), (.int ((u.toInt32 + (1 : Int32)) + ((((p5.toUInt32 >>> ((7 : Int32) &&& 31).toUInt32).toInt32) &&& (7 : Int32)) % (n.toInt32 - (1 : Int32)))))]))
        refine own_fwd (fun tt kt => iremM X79 hx rfl (hb hby at_78) rfl (fun q => by have q1 := hc81; have q3 := own_i1; have q4 := own_i0; rw [Int32.lt_iff_toInt_lt, q] at q1; omega) kt) ?_
        show own_R p.tables e below P (T79.setTop (mkF m 79 #[.val (.int p0), .val (.int p1), .val (.int p2), .val (.int p3), .val (.int p4), .val (.int p5), .val (.int (1 : Int32)), .val (.int n.toInt32), .val (.int (((p5.toUInt32 >>> ((4 : Int32) &&& 31).toUInt32).toInt32) &&& (7 : Int32))), .val (.int (((p5.toUInt32 >>> ((7 : Int32) &&& 31).toUInt32).toInt32) &&& (7 : Int32))), .val (.int u.toInt32), .unset, .unset, .unset, .unset] [(.int (((u.toInt32 + (1 : Int32)) + ((((p5.toUInt32 >>> ((7 : Int32) &&& 31).toUInt32).toInt32) &&& (7 : Int32)) % (n.toInt32 - (1 : Int32)))) % n.toInt32))]))
        refine own_fwd (fun tt kt => XS.goto X79.here hx rfl (pc0 := 79) (pc' := 83) rfl (hb hby at_79) (by decide) (by decide) kt) ?_
        show own_R p.tables e below P (T79.setTop (mkF m 83 #[.val (.int p0), .val (.int p1), .val (.int p2), .val (.int p3), .val (.int p4), .val (.int p5), .val (.int (1 : Int32)), .val (.int n.toInt32), .val (.int (((p5.toUInt32 >>> ((4 : Int32) &&& 31).toUInt32).toInt32) &&& (7 : Int32))), .val (.int (((p5.toUInt32 >>> ((7 : Int32) &&& 31).toUInt32).toInt32) &&& (7 : Int32))), .val (.int u.toInt32), .unset, .unset, .unset, .unset] [(.int (((u.toInt32 + (1 : Int32)) + ((((p5.toUInt32 >>> ((7 : Int32) &&& 31).toUInt32).toInt32) &&& (7 : Int32)) % (n.toInt32 - (1 : Int32)))) % n.toInt32))]))
        exact k
      · simp only [if_neg hc81] at k
        refine own_fwd (fun tt kt => XS.icmpYes X79.here hx rfl (pc0 := 61) (pc' := 82) rfl (hb hby at_61) rfl (flt hc81).2.2.2 (by decide) (by decide) kt) ?_
        show own_R p.tables e below P (T79.setTop (mkF m 82 #[.val (.int p0), .val (.int p1), .val (.int p2), .val (.int p3), .val (.int p4), .val (.int p5), .val (.int (1 : Int32)), .val (.int n.toInt32), .val (.int (((p5.toUInt32 >>> ((4 : Int32) &&& 31).toUInt32).toInt32) &&& (7 : Int32))), .val (.int (((p5.toUInt32 >>> ((7 : Int32) &&& 31).toUInt32).toInt32) &&& (7 : Int32))), .val (.int u.toInt32), .unset, .unset, .unset, .unset] []))
        refine own_fwd (fun tt kt => XS.iconst X79.here hx rfl (hb hby at_82) kt) ?_
        show own_R p.tables e below P (T79.setTop (mkF m 83 #[.val (.int p0), .val (.int p1), .val (.int p2), .val (.int p3), .val (.int p4), .val (.int p5), .val (.int (1 : Int32)), .val (.int n.toInt32), .val (.int (((p5.toUInt32 >>> ((4 : Int32) &&& 31).toUInt32).toInt32) &&& (7 : Int32))), .val (.int (((p5.toUInt32 >>> ((7 : Int32) &&& 31).toUInt32).toInt32) &&& (7 : Int32))), .val (.int u.toInt32), .unset, .unset, .unset, .unset] [(.int (0 : Int32))]))
        exact k
    refine j81 P ?_
    show own_R p.tables e below P (T79.setTop (mkF m 83 #[.val (.int p0), .val (.int p1), .val (.int p2), .val (.int p3), .val (.int p4), .val (.int p5), .val (.int (1 : Int32)), .val (.int n.toInt32), .val (.int (((p5.toUInt32 >>> ((4 : Int32) &&& 31).toUInt32).toInt32) &&& (7 : Int32))), .val (.int (((p5.toUInt32 >>> ((7 : Int32) &&& 31).toUInt32).toInt32) &&& (7 : Int32))), .val (.int u.toInt32), .unset, .unset, .unset, .unset] [(.int (if (1 : Int32) < n.toInt32 then (((u.toInt32 + (1 : Int32)) + ((((p5.toUInt32 >>> ((7 : Int32) &&& 31).toUInt32).toInt32) &&& (7 : Int32)) % (n.toInt32 - (1 : Int32)))) % n.toInt32) else (0 : Int32)))]))
    obtain ⟨vv, hv, bv, cv⟩ := own_v n u bn bu ((p5.toUInt32 >>> ((7 : Int32) &&& 31).toUInt32).toInt32)
    rw [hv]
    show own_R p.tables e below P (T79.setTop (mkF m 83 #[.val (.int p0), .val (.int p1), .val (.int p2), .val (.int p3), .val (.int p4), .val (.int p5), .val (.int (1 : Int32)), .val (.int n.toInt32), .val (.int (((p5.toUInt32 >>> ((4 : Int32) &&& 31).toUInt32).toInt32) &&& (7 : Int32))), .val (.int (((p5.toUInt32 >>> ((7 : Int32) &&& 31).toUInt32).toInt32) &&& (7 : Int32))), .val (.int u.toInt32), .unset, .unset, .unset, .unset] [(.int vv.toInt32)]))
    have lv : vv.toInt32.toInt = (vv : Int) := len_toInt (by omega)
    refine own_fwd (fun tt kt => XS.istore X79.here hx rfl (hb hby at_83) rfl (l' := #[.val (.int p0), .val (.int p1), .val (.int p2), .val (.int p3), .val (.int p4), .val (.int p5), .val (.int (1 : Int32)), .val (.int n.toInt32), .val (.int (((p5.toUInt32 >>> ((4 : Int32) &&& 31).toUInt32).toInt32) &&& (7 : Int32))), .val (.int (((p5.toUInt32 >>> ((7 : Int32) &&& 31).toUInt32).toInt32) &&& (7 : Int32))), .val (.int u.toInt32), .val (.int vv.toInt32), .unset, .unset, .unset]) rfl kt) ?_
    show own_R p.tables e below P (T79.setTop (mkF m 85 #[.val (.int p0), .val (.int p1), .val (.int p2), .val (.int p3), .val (.int p4), .val (.int p5), .val (.int (1 : Int32)), .val (.int n.toInt32), .val (.int (((p5.toUInt32 >>> ((4 : Int32) &&& 31).toUInt32).toInt32) &&& (7 : Int32))), .val (.int (((p5.toUInt32 >>> ((7 : Int32) &&& 31).toUInt32).toInt32) &&& (7 : Int32))), .val (.int u.toInt32), .val (.int vv.toInt32), .unset, .unset, .unset] []))
    refine own_fwd (fun tt kt => XS.iload X79.here hx rfl (hb hby at_85) rfl kt) ?_
    show own_R p.tables e below P (T79.setTop (mkF m 87 #[.val (.int p0), .val (.int p1), .val (.int p2), .val (.int p3), .val (.int p4), .val (.int p5), .val (.int (1 : Int32)), .val (.int n.toInt32), .val (.int (((p5.toUInt32 >>> ((4 : Int32) &&& 31).toUInt32).toInt32) &&& (7 : Int32))), .val (.int (((p5.toUInt32 >>> ((7 : Int32) &&& 31).toUInt32).toInt32) &&& (7 : Int32))), .val (.int u.toInt32), .val (.int vv.toInt32), .unset, .unset, .unset] [(.int (1 : Int32))]))
    have hc82 : ¬ ((1 : Int32) = (0 : Int32)) := (by decide)
    refine own_fwd (fun tt kt => XS.ifYes X79.here hx rfl (pc0 := 87) (pc' := 107) rfl (hb hby at_87) rfl ((if0 _ _).trans (feq hc82).2) (by decide) (by decide) kt) ?_
    show own_R p.tables e below P (T79.setTop (mkF m 107 #[.val (.int p0), .val (.int p1), .val (.int p2), .val (.int p3), .val (.int p4), .val (.int p5), .val (.int (1 : Int32)), .val (.int n.toInt32), .val (.int (((p5.toUInt32 >>> ((4 : Int32) &&& 31).toUInt32).toInt32) &&& (7 : Int32))), .val (.int (((p5.toUInt32 >>> ((7 : Int32) &&& 31).toUInt32).toInt32) &&& (7 : Int32))), .val (.int u.toInt32), .val (.int vv.toInt32), .unset, .unset, .unset] []))
    refine own_fwd (fun tt kt => XS.iload X79.here hx rfl (hb hby at_107) rfl kt) ?_
    show own_R p.tables e below P (T79.setTop (mkF m 109 #[.val (.int p0), .val (.int p1), .val (.int p2), .val (.int p3), .val (.int p4), .val (.int p5), .val (.int (1 : Int32)), .val (.int n.toInt32), .val (.int (((p5.toUInt32 >>> ((4 : Int32) &&& 31).toUInt32).toInt32) &&& (7 : Int32))), .val (.int (((p5.toUInt32 >>> ((7 : Int32) &&& 31).toUInt32).toInt32) &&& (7 : Int32))), .val (.int u.toInt32), .val (.int vv.toInt32), .unset, .unset, .unset] [(.int (1 : Int32))]))
    refine own_fwd (fun tt kt => XS.iconst X79.here hx rfl (hb hby at_109) kt) ?_
    show own_R p.tables e below P (T79.setTop (mkF m 110 #[.val (.int p0), .val (.int p1), .val (.int p2), .val (.int p3), .val (.int p4), .val (.int p5), .val (.int (1 : Int32)), .val (.int n.toInt32), .val (.int (((p5.toUInt32 >>> ((4 : Int32) &&& 31).toUInt32).toInt32) &&& (7 : Int32))), .val (.int (((p5.toUInt32 >>> ((7 : Int32) &&& 31).toUInt32).toInt32) &&& (7 : Int32))), .val (.int u.toInt32), .val (.int vv.toInt32), .unset, .unset, .unset] [(.int (1 : Int32)), (.int (1 : Int32))]))
    have hc83 : (1 : Int32) = (1 : Int32) := (by decide)
    refine own_fwd (fun tt kt => XS.icmpNo X79.here hx rfl (hb hby at_110) rfl (teq hc83).2 kt) ?_
    show own_R p.tables e below P (T79.setTop (mkF m 113 #[.val (.int p0), .val (.int p1), .val (.int p2), .val (.int p3), .val (.int p4), .val (.int p5), .val (.int (1 : Int32)), .val (.int n.toInt32), .val (.int (((p5.toUInt32 >>> ((4 : Int32) &&& 31).toUInt32).toInt32) &&& (7 : Int32))), .val (.int (((p5.toUInt32 >>> ((7 : Int32) &&& 31).toUInt32).toInt32) &&& (7 : Int32))), .val (.int u.toInt32), .val (.int vv.toInt32), .unset, .unset, .unset] []))
    refine own_fwd (fun tt kt => XS.iconst X79.here hx rfl (hb hby at_113) kt) ?_
    show own_R p.tables e below P (T79.setTop (mkF m 114 #[.val (.int p0), .val (.int p1), .val (.int p2), .val (.int p3), .val (.int p4), .val (.int p5), .val (.int (1 : Int32)), .val (.int n.toInt32), .val (.int (((p5.toUInt32 >>> ((4 : Int32) &&& 31).toUInt32).toInt32) &&& (7 : Int32))), .val (.int (((p5.toUInt32 >>> ((7 : Int32) &&& 31).toUInt32).toInt32) &&& (7 : Int32))), .val (.int u.toInt32), .val (.int vv.toInt32), .unset, .unset, .unset] [(.int (3 : Int32))]))
    obtain ⟨T84, h84, b84, g84, X84, e84, E84, A84, B84, st84⟩ := own_newA (n := 3) X79 hx hZ (hw _ (List.mem_of_getElem? (i := 4) rfl)) e79 (z := (3 : Int32)) (by decide) (cap := 3) (by decide) (g := (mkF m 114 #[.val (.int p0), .val (.int p1), .val (.int p2), .val (.int p3), .val (.int p4), .val (.int p5), .val (.int (1 : Int32)), .val (.int n.toInt32), .val (.int (((p5.toUInt32 >>> ((4 : Int32) &&& 31).toUInt32).toInt32) &&& (7 : Int32))), .val (.int (((p5.toUInt32 >>> ((7 : Int32) &&& 31).toUInt32).toInt32) &&& (7 : Int32))), .val (.int u.toInt32), .val (.int vv.toInt32), .unset, .unset, .unset] [(.int (3 : Int32))])) rfl (hb hby at_114) rfl (by decide) (by decide) (by decide) (ad := "[I") (by decide)
    have ge_b84 : n0 ≤ b84 := by rw [g84]; exact Z0
    have sz_b84 : h0.size ≤ b84 := by rw [g84]; exact (Nat.le_refl h0.size)
    have A84_ : own_AI Z h84 b84 .int 3 (fun _ => (0 : Int32)) := A84
    have Z84 : n0 ≤ h84.size := Nat.le_trans Z0 E84.1
    have Y84 : h0.size ≤ h84.size := Nat.le_trans (Nat.le_refl h0.size) E84.1
    refine own_fwd st84 ?_
    show own_R p.tables e below P (T84.setTop (mkF m 116 #[.val (.int p0), .val (.int p1), .val (.int p2), .val (.int p3), .val (.int p4), .val (.int p5), .val (.int (1 : Int32)), .val (.int n.toInt32), .val (.int (((p5.toUInt32 >>> ((4 : Int32) &&& 31).toUInt32).toInt32) &&& (7 : Int32))), .val (.int (((p5.toUInt32 >>> ((7 : Int32) &&& 31).toUInt32).toInt32) &&& (7 : Int32))), .val (.int u.toInt32), .val (.int vv.toInt32), .unset, .unset, .unset] [(.ref b84)]))
    refine own_fwd (fun tt kt => XS.dup X84.here hx rfl (hb hby at_116) rfl rfl kt) ?_
    show own_R p.tables e below P (T84.setTop (mkF m 117 #[.val (.int p0), .val (.int p1), .val (.int p2), .val (.int p3), .val (.int p4), .val (.int p5), .val (.int (1 : Int32)), .val (.int n.toInt32), .val (.int (((p5.toUInt32 >>> ((4 : Int32) &&& 31).toUInt32).toInt32) &&& (7 : Int32))), .val (.int (((p5.toUInt32 >>> ((7 : Int32) &&& 31).toUInt32).toInt32) &&& (7 : Int32))), .val (.int u.toInt32), .val (.int vv.toInt32), .unset, .unset, .unset] [(.ref b84), (.ref b84)]))
    refine own_fwd (fun tt kt => XS.iconst X84.here hx rfl (hb hby at_117) kt) ?_
    show own_R p.tables e below P (T84.setTop (mkF m 118 #[.val (.int p0), .val (.int p1), .val (.int p2), .val (.int p3), .val (.int p4), .val (.int p5), .val (.int (1 : Int32)), .val (.int n.toInt32), .val (.int (((p5.toUInt32 >>> ((4 : Int32) &&& 31).toUInt32).toInt32) &&& (7 : Int32))), .val (.int (((p5.toUInt32 >>> ((7 : Int32) &&& 31).toUInt32).toInt32) &&& (7 : Int32))), .val (.int u.toInt32), .val (.int vv.toInt32), .unset, .unset, .unset] [(.int (0 : Int32)), (.ref b84), (.ref b84)]))
    refine own_fwd (fun tt kt => XS.iloadN X84.here hx rfl (hb hby at_118) rfl kt) ?_
    show own_R p.tables e below P (T84.setTop (mkF m 119 #[.val (.int p0), .val (.int p1), .val (.int p2), .val (.int p3), .val (.int p4), .val (.int p5), .val (.int (1 : Int32)), .val (.int n.toInt32), .val (.int (((p5.toUInt32 >>> ((4 : Int32) &&& 31).toUInt32).toInt32) &&& (7 : Int32))), .val (.int (((p5.toUInt32 >>> ((7 : Int32) &&& 31).toUInt32).toInt32) &&& (7 : Int32))), .val (.int u.toInt32), .val (.int vv.toInt32), .unset, .unset, .unset] [(.int p0), (.int (0 : Int32)), (.ref b84), (.ref b84)]))
    obtain ⟨T85, h85, X85, e85, W85, A85_, st85⟩ := own_stI X84 hx hZ e84 A84_ (j := (0 : Int32)) 0 (by decide) (by decide) (g := (mkF m 119 #[.val (.int p0), .val (.int p1), .val (.int p2), .val (.int p3), .val (.int p4), .val (.int p5), .val (.int (1 : Int32)), .val (.int n.toInt32), .val (.int (((p5.toUInt32 >>> ((4 : Int32) &&& 31).toUInt32).toInt32) &&& (7 : Int32))), .val (.int (((p5.toUInt32 >>> ((7 : Int32) &&& 31).toUInt32).toInt32) &&& (7 : Int32))), .val (.int u.toInt32), .val (.int vv.toInt32), .unset, .unset, .unset] [(.int p0), (.int (0 : Int32)), (.ref b84), (.ref b84)])) rfl rfl (hb hby at_119)
    have B84_x85 := B84.wr W85
    have N85 := Fr.snoc X85 N79 ge_b84
    have Z85 : n0 ≤ h85.size := by rw [W85.size]; exact Z84
    have Y85 : h0.size ≤ h85.size := by rw [W85.size]; exact Y84
    refine own_fwd st85 ?_
    show own_R p.tables e below P (T85.setTop (mkF m 120 #[.val (.int p0), .val (.int p1), .val (.int p2), .val (.int p3), .val (.int p4), .val (.int p5), .val (.int (1 : Int32)), .val (.int n.toInt32), .val (.int (((p5.toUInt32 >>> ((4 : Int32) &&& 31).toUInt32).toInt32) &&& (7 : Int32))), .val (.int (((p5.toUInt32 >>> ((7 : Int32) &&& 31).toUInt32).toInt32) &&& (7 : Int32))), .val (.int u.toInt32), .val (.int vv.toInt32), .unset, .unset, .unset] [(.ref b84)]))
    refine own_fwd (fun tt kt => XS.dup X85.here hx rfl (hb hby at_120) rfl rfl kt) ?_
    show own_R p.tables e below P (T85.setTop (mkF m 121 #[.val (.int p0), .val (.int p1), .val (.int p2), .val (.int p3), .val (.int p4), .val (.int p5), .val (.int (1 : Int32)), .val (.int n.toInt32), .val (.int (((p5.toUInt32 >>> ((4 : Int32) &&& 31).toUInt32).toInt32) &&& (7 : Int32))), .val (.int (((p5.toUInt32 >>> ((7 : Int32) &&& 31).toUInt32).toInt32) &&& (7 : Int32))), .val (.int u.toInt32), .val (.int vv.toInt32), .unset, .unset, .unset] [(.ref b84), (.ref b84)]))
    refine own_fwd (fun tt kt => XS.iconst X85.here hx rfl (hb hby at_121) kt) ?_
    show own_R p.tables e below P (T85.setTop (mkF m 122 #[.val (.int p0), .val (.int p1), .val (.int p2), .val (.int p3), .val (.int p4), .val (.int p5), .val (.int (1 : Int32)), .val (.int n.toInt32), .val (.int (((p5.toUInt32 >>> ((4 : Int32) &&& 31).toUInt32).toInt32) &&& (7 : Int32))), .val (.int (((p5.toUInt32 >>> ((7 : Int32) &&& 31).toUInt32).toInt32) &&& (7 : Int32))), .val (.int u.toInt32), .val (.int vv.toInt32), .unset, .unset, .unset] [(.int (1 : Int32)), (.ref b84), (.ref b84)]))
    refine own_fwd (fun tt kt => XS.iloadN X85.here hx rfl (hb hby at_122) rfl kt) ?_
    show own_R p.tables e below P (T85.setTop (mkF m 123 #[.val (.int p0), .val (.int p1), .val (.int p2), .val (.int p3), .val (.int p4), .val (.int p5), .val (.int (1 : Int32)), .val (.int n.toInt32), .val (.int (((p5.toUInt32 >>> ((4 : Int32) &&& 31).toUInt32).toInt32) &&& (7 : Int32))), .val (.int (((p5.toUInt32 >>> ((7 : Int32) &&& 31).toUInt32).toInt32) &&& (7 : Int32))), .val (.int u.toInt32), .val (.int vv.toInt32), .unset, .unset, .unset] [(.int p1), (.int (1 : Int32)), (.ref b84), (.ref b84)]))
    obtain ⟨T86, h86, X86, e86, W86, A86_, st86⟩ := own_stI X85 hx hZ e85 A85_ (j := (1 : Int32)) 1 (by decide) (by decide) (g := (mkF m 123 #[.val (.int p0), .val (.int p1), .val (.int p2), .val (.int p3), .val (.int p4), .val (.int p5), .val (.int (1 : Int32)), .val (.int n.toInt32), .val (.int (((p5.toUInt32 >>> ((4 : Int32) &&& 31).toUInt32).toInt32) &&& (7 : Int32))), .val (.int (((p5.toUInt32 >>> ((7 : Int32) &&& 31).toUInt32).toInt32) &&& (7 : Int32))), .val (.int u.toInt32), .val (.int vv.toInt32), .unset, .unset, .unset] [(.int p1), (.int (1 : Int32)), (.ref b84), (.ref b84)])) rfl rfl (hb hby at_123)
    have B84_x86 := B84_x85.wr W86
    have N86 := Fr.snoc X86 N85 ge_b84
    have Z86 : n0 ≤ h86.size := by rw [W86.size]; exact Z85
    have Y86 : h0.size ≤ h86.size := by rw [W86.size]; exact Y85
    refine own_fwd st86 ?_
    show own_R p.tables e below P (T86.setTop (mkF m 124 #[.val (.int p0), .val (.int p1), .val (.int p2), .val (.int p3), .val (.int p4), .val (.int p5), .val (.int (1 : Int32)), .val (.int n.toInt32), .val (.int (((p5.toUInt32 >>> ((4 : Int32) &&& 31).toUInt32).toInt32) &&& (7 : Int32))), .val (.int (((p5.toUInt32 >>> ((7 : Int32) &&& 31).toUInt32).toInt32) &&& (7 : Int32))), .val (.int u.toInt32), .val (.int vv.toInt32), .unset, .unset, .unset] [(.ref b84)]))
    refine own_fwd (fun tt kt => XS.dup X86.here hx rfl (hb hby at_124) rfl rfl kt) ?_
    show own_R p.tables e below P (T86.setTop (mkF m 125 #[.val (.int p0), .val (.int p1), .val (.int p2), .val (.int p3), .val (.int p4), .val (.int p5), .val (.int (1 : Int32)), .val (.int n.toInt32), .val (.int (((p5.toUInt32 >>> ((4 : Int32) &&& 31).toUInt32).toInt32) &&& (7 : Int32))), .val (.int (((p5.toUInt32 >>> ((7 : Int32) &&& 31).toUInt32).toInt32) &&& (7 : Int32))), .val (.int u.toInt32), .val (.int vv.toInt32), .unset, .unset, .unset] [(.ref b84), (.ref b84)]))
    refine own_fwd (fun tt kt => XS.iconst X86.here hx rfl (hb hby at_125) kt) ?_
    show own_R p.tables e below P (T86.setTop (mkF m 126 #[.val (.int p0), .val (.int p1), .val (.int p2), .val (.int p3), .val (.int p4), .val (.int p5), .val (.int (1 : Int32)), .val (.int n.toInt32), .val (.int (((p5.toUInt32 >>> ((4 : Int32) &&& 31).toUInt32).toInt32) &&& (7 : Int32))), .val (.int (((p5.toUInt32 >>> ((7 : Int32) &&& 31).toUInt32).toInt32) &&& (7 : Int32))), .val (.int u.toInt32), .val (.int vv.toInt32), .unset, .unset, .unset] [(.int (2 : Int32)), (.ref b84), (.ref b84)]))
    refine own_fwd (fun tt kt => XS.iloadN X86.here hx rfl (hb hby at_126) rfl kt) ?_
    show own_R p.tables e below P (T86.setTop (mkF m 127 #[.val (.int p0), .val (.int p1), .val (.int p2), .val (.int p3), .val (.int p4), .val (.int p5), .val (.int (1 : Int32)), .val (.int n.toInt32), .val (.int (((p5.toUInt32 >>> ((4 : Int32) &&& 31).toUInt32).toInt32) &&& (7 : Int32))), .val (.int (((p5.toUInt32 >>> ((7 : Int32) &&& 31).toUInt32).toInt32) &&& (7 : Int32))), .val (.int u.toInt32), .val (.int vv.toInt32), .unset, .unset, .unset] [(.int p3), (.int (2 : Int32)), (.ref b84), (.ref b84)]))
    obtain ⟨T87, h87, X87, e87, W87, A87_, st87⟩ := own_stI X86 hx hZ e86 A86_ (j := (2 : Int32)) 2 (by decide) (by decide) (g := (mkF m 127 #[.val (.int p0), .val (.int p1), .val (.int p2), .val (.int p3), .val (.int p4), .val (.int p5), .val (.int (1 : Int32)), .val (.int n.toInt32), .val (.int (((p5.toUInt32 >>> ((4 : Int32) &&& 31).toUInt32).toInt32) &&& (7 : Int32))), .val (.int (((p5.toUInt32 >>> ((7 : Int32) &&& 31).toUInt32).toInt32) &&& (7 : Int32))), .val (.int u.toInt32), .val (.int vv.toInt32), .unset, .unset, .unset] [(.int p3), (.int (2 : Int32)), (.ref b84), (.ref b84)])) rfl rfl (hb hby at_127)
    have B84_x87 := B84_x86.wr W87
    have N87 := Fr.snoc X87 N86 ge_b84
    have Z87 : n0 ≤ h87.size := by rw [W87.size]; exact Z86
    have Y87 : h0.size ≤ h87.size := by rw [W87.size]; exact Y86
    refine own_fwd st87 ?_
    show own_R p.tables e below P (T87.setTop (mkF m 128 #[.val (.int p0), .val (.int p1), .val (.int p2), .val (.int p3), .val (.int p4), .val (.int p5), .val (.int (1 : Int32)), .val (.int n.toInt32), .val (.int (((p5.toUInt32 >>> ((4 : Int32) &&& 31).toUInt32).toInt32) &&& (7 : Int32))), .val (.int (((p5.toUInt32 >>> ((7 : Int32) &&& 31).toUInt32).toInt32) &&& (7 : Int32))), .val (.int u.toInt32), .val (.int vv.toInt32), .unset, .unset, .unset] [(.ref b84)]))
    refine own_fwd (fun tt kt => XS.astore X87.here hx rfl (hb hby at_128) rfl rfl (l' := #[.val (.int p0), .val (.int p1), .val (.int p2), .val (.int p3), .val (.int p4), .val (.int p5), .val (.int (1 : Int32)), .val (.int n.toInt32), .val (.int (((p5.toUInt32 >>> ((4 : Int32) &&& 31).toUInt32).toInt32) &&& (7 : Int32))), .val (.int (((p5.toUInt32 >>> ((7 : Int32) &&& 31).toUInt32).toInt32) &&& (7 : Int32))), .val (.int u.toInt32), .val (.int vv.toInt32), .val (.ref b84), .unset, .unset]) rfl kt) ?_
    show own_R p.tables e below P (T87.setTop (mkF m 130 #[.val (.int p0), .val (.int p1), .val (.int p2), .val (.int p3), .val (.int p4), .val (.int p5), .val (.int (1 : Int32)), .val (.int n.toInt32), .val (.int (((p5.toUInt32 >>> ((4 : Int32) &&& 31).toUInt32).toInt32) &&& (7 : Int32))), .val (.int (((p5.toUInt32 >>> ((7 : Int32) &&& 31).toUInt32).toInt32) &&& (7 : Int32))), .val (.int u.toInt32), .val (.int vv.toInt32), .val (.ref b84), .unset, .unset] []))
    refine own_fwd (fun tt kt => XS.iconst X87.here hx rfl (hb hby at_130) kt) ?_
    show own_R p.tables e below P (T87.setTop (mkF m 131 #[.val (.int p0), .val (.int p1), .val (.int p2), .val (.int p3), .val (.int p4), .val (.int p5), .val (.int (1 : Int32)), .val (.int n.toInt32), .val (.int (((p5.toUInt32 >>> ((4 : Int32) &&& 31).toUInt32).toInt32) &&& (7 : Int32))), .val (.int (((p5.toUInt32 >>> ((7 : Int32) &&& 31).toUInt32).toInt32) &&& (7 : Int32))), .val (.int u.toInt32), .val (.int vv.toInt32), .val (.ref b84), .unset, .unset] [(.int (1 : Int32))]))
    obtain ⟨T88, h88, b88, g88, X88, e88, E88, A88, B88, st88⟩ := own_newA (n := 1) X87 hx hZ (hw _ (List.mem_of_getElem? (i := 4) rfl)) e87 (z := (1 : Int32)) (by decide) (cap := 1) (by decide) (g := (mkF m 131 #[.val (.int p0), .val (.int p1), .val (.int p2), .val (.int p3), .val (.int p4), .val (.int p5), .val (.int (1 : Int32)), .val (.int n.toInt32), .val (.int (((p5.toUInt32 >>> ((4 : Int32) &&& 31).toUInt32).toInt32) &&& (7 : Int32))), .val (.int (((p5.toUInt32 >>> ((7 : Int32) &&& 31).toUInt32).toInt32) &&& (7 : Int32))), .val (.int u.toInt32), .val (.int vv.toInt32), .val (.ref b84), .unset, .unset] [(.int (1 : Int32))])) rfl (hb hby at_131) rfl (by decide) (by decide) (by decide) (ad := "[I") (by decide)
    have ne88_b84 : b84 ≠ b88 := Nat.ne_of_lt (by rw [g88]; exact A87_.lt)
    have ge_b88 : n0 ≤ b88 := by rw [g88]; exact Z87
    have sz_b88 : h0.size ≤ b88 := by rw [g88]; exact Y87
    have A87__x88 := A87_.ext E88
    have B84_x88 := B84_x87.ext E88
    have A88_ : own_AI Z h88 b88 .int 1 (fun _ => (0 : Int32)) := A88
    have Z88 : n0 ≤ h88.size := Nat.le_trans Z87 E88.1
    have Y88 : h0.size ≤ h88.size := Nat.le_trans Y87 E88.1
    refine own_fwd st88 ?_
    show own_R p.tables e below P (T88.setTop (mkF m 133 #[.val (.int p0), .val (.int p1), .val (.int p2), .val (.int p3), .val (.int p4), .val (.int p5), .val (.int (1 : Int32)), .val (.int n.toInt32), .val (.int (((p5.toUInt32 >>> ((4 : Int32) &&& 31).toUInt32).toInt32) &&& (7 : Int32))), .val (.int (((p5.toUInt32 >>> ((7 : Int32) &&& 31).toUInt32).toInt32) &&& (7 : Int32))), .val (.int u.toInt32), .val (.int vv.toInt32), .val (.ref b84), .unset, .unset] [(.ref b88)]))
    refine own_fwd (fun tt kt => XS.dup X88.here hx rfl (hb hby at_133) rfl rfl kt) ?_
    show own_R p.tables e below P (T88.setTop (mkF m 134 #[.val (.int p0), .val (.int p1), .val (.int p2), .val (.int p3), .val (.int p4), .val (.int p5), .val (.int (1 : Int32)), .val (.int n.toInt32), .val (.int (((p5.toUInt32 >>> ((4 : Int32) &&& 31).toUInt32).toInt32) &&& (7 : Int32))), .val (.int (((p5.toUInt32 >>> ((7 : Int32) &&& 31).toUInt32).toInt32) &&& (7 : Int32))), .val (.int u.toInt32), .val (.int vv.toInt32), .val (.ref b84), .unset, .unset] [(.ref b88), (.ref b88)]))
    refine own_fwd (fun tt kt => XS.iconst X88.here hx rfl (hb hby at_134) kt) ?_
    show own_R p.tables e below P (T88.setTop (mkF m 135 #[.val (.int p0), .val (.int p1), .val (.int p2), .val (.int p3), .val (.int p4), .val (.int p5), .val (.int (1 : Int32)), .val (.int n.toInt32), .val (.int (((p5.toUInt32 >>> ((4 : Int32) &&& 31).toUInt32).toInt32) &&& (7 : Int32))), .val (.int (((p5.toUInt32 >>> ((7 : Int32) &&& 31).toUInt32).toInt32) &&& (7 : Int32))), .val (.int u.toInt32), .val (.int vv.toInt32), .val (.ref b84), .unset, .unset] [(.int (0 : Int32)), (.ref b88), (.ref b88)]))
    refine own_fwd (fun tt kt => XS.iload X88.here hx rfl (hb hby at_135) rfl kt) ?_
    show own_R p.tables e below P (T88.setTop (mkF m 137 #[.val (.int p0), .val (.int p1), .val (.int p2), .val (.int p3), .val (.int p4), .val (.int p5), .val (.int (1 : Int32)), .val (.int n.toInt32), .val (.int (((p5.toUInt32 >>> ((4 : Int32) &&& 31).toUInt32).toInt32) &&& (7 : Int32))), .val (.int (((p5.toUInt32 >>> ((7 : Int32) &&& 31).toUInt32).toInt32) &&& (7 : Int32))), .val (.int u.toInt32), .val (.int vv.toInt32), .val (.ref b84), .unset, .unset] [(.int u.toInt32), (.int (0 : Int32)), (.ref b88), (.ref b88)]))
    obtain ⟨T89, h89, X89, e89, W89, A89_, st89⟩ := own_stI X88 hx hZ e88 A88_ (j := (0 : Int32)) 0 (by decide) (by decide) (g := (mkF m 137 #[.val (.int p0), .val (.int p1), .val (.int p2), .val (.int p3), .val (.int p4), .val (.int p5), .val (.int (1 : Int32)), .val (.int n.toInt32), .val (.int (((p5.toUInt32 >>> ((4 : Int32) &&& 31).toUInt32).toInt32) &&& (7 : Int32))), .val (.int (((p5.toUInt32 >>> ((7 : Int32) &&& 31).toUInt32).toInt32) &&& (7 : Int32))), .val (.int u.toInt32), .val (.int vv.toInt32), .val (.ref b84), .unset, .unset] [(.int u.toInt32), (.int (0 : Int32)), (.ref b88), (.ref b88)])) rfl rfl (hb hby at_137)
    have A87__x89 := A87__x88.other W89 ne88_b84
    have B84_x89 := B84_x88.wr W89
    have B88_x89 := B88.wr W89
    have N89 := Fr.snoc X89 N87 ge_b88
    have Z89 : n0 ≤ h89.size := by rw [W89.size]; exact Z88
    have Y89 : h0.size ≤ h89.size := by rw [W89.size]; exact Y88
    refine own_fwd st89 ?_
    show own_R p.tables e below P (T89.setTop (mkF m 138 #[.val (.int p0), .val (.int p1), .val (.int p2), .val (.int p3), .val (.int p4), .val (.int p5), .val (.int (1 : Int32)), .val (.int n.toInt32), .val (.int (((p5.toUInt32 >>> ((4 : Int32) &&& 31).toUInt32).toInt32) &&& (7 : Int32))), .val (.int (((p5.toUInt32 >>> ((7 : Int32) &&& 31).toUInt32).toInt32) &&& (7 : Int32))), .val (.int u.toInt32), .val (.int vv.toInt32), .val (.ref b84), .unset, .unset] [(.ref b88)]))
    refine own_fwd (fun tt kt => XS.astore X89.here hx rfl (hb hby at_138) rfl rfl (l' := #[.val (.int p0), .val (.int p1), .val (.int p2), .val (.int p3), .val (.int p4), .val (.int p5), .val (.int (1 : Int32)), .val (.int n.toInt32), .val (.int (((p5.toUInt32 >>> ((4 : Int32) &&& 31).toUInt32).toInt32) &&& (7 : Int32))), .val (.int (((p5.toUInt32 >>> ((7 : Int32) &&& 31).toUInt32).toInt32) &&& (7 : Int32))), .val (.int u.toInt32), .val (.int vv.toInt32), .val (.ref b84), .val (.ref b88), .unset]) rfl kt) ?_
    show own_R p.tables e below P (T89.setTop (mkF m 140 #[.val (.int p0), .val (.int p1), .val (.int p2), .val (.int p3), .val (.int p4), .val (.int p5), .val (.int (1 : Int32)), .val (.int n.toInt32), .val (.int (((p5.toUInt32 >>> ((4 : Int32) &&& 31).toUInt32).toInt32) &&& (7 : Int32))), .val (.int (((p5.toUInt32 >>> ((7 : Int32) &&& 31).toUInt32).toInt32) &&& (7 : Int32))), .val (.int u.toInt32), .val (.int vv.toInt32), .val (.ref b84), .val (.ref b88), .unset] []))
    refine own_fwd (fun tt kt => XS.goto X89.here hx rfl (pc0 := 140) (pc' := 184) rfl (hb hby at_140) (by decide) (by decide) kt) ?_
    show own_R p.tables e below P (T89.setTop (mkF m 184 #[.val (.int p0), .val (.int p1), .val (.int p2), .val (.int p3), .val (.int p4), .val (.int p5), .val (.int (1 : Int32)), .val (.int n.toInt32), .val (.int (((p5.toUInt32 >>> ((4 : Int32) &&& 31).toUInt32).toInt32) &&& (7 : Int32))), .val (.int (((p5.toUInt32 >>> ((7 : Int32) &&& 31).toUInt32).toInt32) &&& (7 : Int32))), .val (.int u.toInt32), .val (.int vv.toInt32), .val (.ref b84), .val (.ref b88), .unset] []))
    refine own_fwd (fun tt kt => XS.aload X89.here hx rfl (hb hby at_184) rfl rfl kt) ?_
    show own_R p.tables e below P (T89.setTop (mkF m 186 #[.val (.int p0), .val (.int p1), .val (.int p2), .val (.int p3), .val (.int p4), .val (.int p5), .val (.int (1 : Int32)), .val (.int n.toInt32), .val (.int (((p5.toUInt32 >>> ((4 : Int32) &&& 31).toUInt32).toInt32) &&& (7 : Int32))), .val (.int (((p5.toUInt32 >>> ((7 : Int32) &&& 31).toUInt32).toInt32) &&& (7 : Int32))), .val (.int u.toInt32), .val (.int vv.toInt32), .val (.ref b84), .val (.ref b88), .unset] [(.ref b84)]))
    refine own_fwd (fun tt kt => XS.aload X89.here hx rfl (hb hby at_186) rfl rfl kt) ?_
    show own_R p.tables e below P (T89.setTop (mkF m 188 #[.val (.int p0), .val (.int p1), .val (.int p2), .val (.int p3), .val (.int p4), .val (.int p5), .val (.int (1 : Int32)), .val (.int n.toInt32), .val (.int (((p5.toUInt32 >>> ((4 : Int32) &&& 31).toUInt32).toInt32) &&& (7 : Int32))), .val (.int (((p5.toUInt32 >>> ((7 : Int32) &&& 31).toUInt32).toInt32) &&& (7 : Int32))), .val (.int u.toInt32), .val (.int vv.toInt32), .val (.ref b84), .val (.ref b88), .unset] [(.ref b88), (.ref b84)]))
    refine own_fwd (fun tt kt => XS.iload X89.here hx rfl (hb hby at_188) rfl kt) ?_
    show own_R p.tables e below P (T89.setTop (mkF m 190 #[.val (.int p0), .val (.int p1), .val (.int p2), .val (.int p3), .val (.int p4), .val (.int p5), .val (.int (1 : Int32)), .val (.int n.toInt32), .val (.int (((p5.toUInt32 >>> ((4 : Int32) &&& 31).toUInt32).toInt32) &&& (7 : Int32))), .val (.int (((p5.toUInt32 >>> ((7 : Int32) &&& 31).toUInt32).toInt32) &&& (7 : Int32))), .val (.int u.toInt32), .val (.int vv.toInt32), .val (.ref b84), .val (.ref b88), .unset] [(.int n.toInt32), (.ref b88), (.ref b84)]))
    obtain ⟨_, _, ⟨T90, L90, k90, n90⟩, -, X90, ⟨Lc90, hQ90, l90, y90, z90⟩, st90⟩ := Jvm.LawKit.callS X89 hx (y := (⟨"com/example/tracefold/tracefold/PlaceProgram", "moved", "([I[II)[I"⟩ : MethodName)) hown (mvT hZ (hw _ (List.mem_of_getElem? (i := 5) rfl))) (mvT hZ (hw _ (List.mem_of_getElem? (i := 6) rfl))) (mvT hZ (hw _ (List.mem_of_getElem? (i := 7) rfl))) (mvT hZ (hw _ (List.mem_of_getElem? (i := 8) rfl))) (by decide) (backOf (W := 0) (own_rmmv1 l Z a0 hw [] b84 b88 n.toInt32 n (own_upd (own_upd (own_upd (fun _ => (0 : Int32)) 0 p0) 1 p1) 2 p3) (own_upd (fun _ => (0 : Int32)) 0 u.toInt32) u h89 n0 Z89 A87__x89 A89_ ln bn lu (bu (by omega))) hZ (hw _ (List.mem_of_getElem? (i := 8) rfl)) (hw _ (List.mem_of_getElem? (i := 7) rfl)) (by decide) (by decide)) (g := (mkF m 190 #[.val (.int p0), .val (.int p1), .val (.int p2), .val (.int p3), .val (.int p4), .val (.int p5), .val (.int (1 : Int32)), .val (.int n.toInt32), .val (.int (((p5.toUInt32 >>> ((4 : Int32) &&& 31).toUInt32).toInt32) &&& (7 : Int32))), .val (.int (((p5.toUInt32 >>> ((7 : Int32) &&& 31).toUInt32).toInt32) &&& (7 : Int32))), .val (.int u.toInt32), .val (.int vv.toInt32), .val (.ref b84), .val (.ref b88), .unset] [(.int n.toInt32), (.ref b88), (.ref b84)])) rfl (by rw [hml]; rfl) (argsL := [(.ref b84), (.ref b88), (.int n.toInt32)]) (rest := []) (lenOf own_pd2 rfl) rfl (by show 2 * 0 + _ ≤ _; exact Nat.le_of_eq rfl) (hb hby at_190) (fun _ _ => ⟨rfl, e89, (by decide : 2 + 1 ≤ _), (by decide : 4 + 7 ≤ _)⟩)
    dsimp only [Pt.U, Pt.locs, Pt.cells, Pt.slots] at X90 l90 y90 z90 st90 hQ90
    subst l90 y90 z90
    obtain ⟨h90, e90⟩ : ∃ z, T90.heap = z := ⟨_, rfl⟩
    rw [e90] at hQ90
    obtain ⟨o90, hq90, N90q, ge_o90, K90, A90_⟩ := hQ90
    subst hq90
    have N90 := Fr.app N89 N90q
    have A87__x90 := A87__x89.keep K90 nin0
    have B84_x90 := B84_x89.keep K90
    have A89__x90 := A89_.keep K90 nin0
    have B88_x90 := B88_x89.keep K90
    have Z90 : n0 ≤ h90.size := Nat.le_trans Z89 K90.1
    have Y90 : h0.size ≤ h90.size := Nat.le_trans Y89 K90.1
    have A90_ : own_AI Z h90 o90 .int (1 + 2 * n) (own_upd (own_upd (own_upd (fun _ => (0 : Int32)) 0 p0) (1 + u) p1) (1 + n + u) p3) := A90_
    refine own_fwd st90 ?_
    show own_R p.tables e below P (T90.setTop (mkF m 193 #[.val (.int p0), .val (.int p1), .val (.int p2), .val (.int p3), .val (.int p4), .val (.int p5), .val (.int (1 : Int32)), .val (.int n.toInt32), .val (.int (((p5.toUInt32 >>> ((4 : Int32) &&& 31).toUInt32).toInt32) &&& (7 : Int32))), .val (.int (((p5.toUInt32 >>> ((7 : Int32) &&& 31).toUInt32).toInt32) &&& (7 : Int32))), .val (.int u.toInt32), .val (.int vv.toInt32), .val (.ref b84), .val (.ref b88), .unset] [(.ref o90)]))
    refine own_fwd (fun tt kt => XS.astore X90.here hx rfl (hb hby at_193) rfl rfl (l' := #[.val (.int p0), .val (.int p1), .val (.int p2), .val (.int p3), .val (.int p4), .val (.int p5), .val (.int (1 : Int32)), .val (.int n.toInt32), .val (.int (((p5.toUInt32 >>> ((4 : Int32) &&& 31).toUInt32).toInt32) &&& (7 : Int32))), .val (.int (((p5.toUInt32 >>> ((7 : Int32) &&& 31).toUInt32).toInt32) &&& (7 : Int32))), .val (.int u.toInt32), .val (.int vv.toInt32), .val (.ref b84), .val (.ref b88), .val (.ref o90)]) rfl kt) ?_
    show own_R p.tables e below P (T90.setTop (mkF m 195 #[.val (.int p0), .val (.int p1), .val (.int p2), .val (.int p3), .val (.int p4), .val (.int p5), .val (.int (1 : Int32)), .val (.int n.toInt32), .val (.int (((p5.toUInt32 >>> ((4 : Int32) &&& 31).toUInt32).toInt32) &&& (7 : Int32))), .val (.int (((p5.toUInt32 >>> ((7 : Int32) &&& 31).toUInt32).toInt32) &&& (7 : Int32))), .val (.int u.toInt32), .val (.int vv.toInt32), .val (.ref b84), .val (.ref b88), .val (.ref o90)] []))
    refine own_fwd (fun tt kt => XS.aload X90.here hx rfl (hb hby at_195) rfl rfl kt) ?_
    show own_R p.tables e below P (T90.setTop (mkF m 197 #[.val (.int p0), .val (.int p1), .val (.int p2), .val (.int p3), .val (.int p4), .val (.int p5), .val (.int (1 : Int32)), .val (.int n.toInt32), .val (.int (((p5.toUInt32 >>> ((4 : Int32) &&& 31).toUInt32).toInt32) &&& (7 : Int32))), .val (.int (((p5.toUInt32 >>> ((7 : Int32) &&& 31).toUInt32).toInt32) &&& (7 : Int32))), .val (.int u.toInt32), .val (.int vv.toInt32), .val (.ref b84), .val (.ref b88), .val (.ref o90)] [(.ref o90)]))
    refine own_fwd (fun tt kt => XS.ifnullNo X90.here hx rfl (hb hby at_197) rfl kt) ?_
    show own_R p.tables e below P (T90.setTop (mkF m 200 #[.val (.int p0), .val (.int p1), .val (.int p2), .val (.int p3), .val (.int p4), .val (.int p5), .val (.int (1 : Int32)), .val (.int n.toInt32), .val (.int (((p5.toUInt32 >>> ((4 : Int32) &&& 31).toUInt32).toInt32) &&& (7 : Int32))), .val (.int (((p5.toUInt32 >>> ((7 : Int32) &&& 31).toUInt32).toInt32) &&& (7 : Int32))), .val (.int u.toInt32), .val (.int vv.toInt32), .val (.ref b84), .val (.ref b88), .val (.ref o90)] []))
    refine own_fwd (fun tt kt => XS.aload X90.here hx rfl (hb hby at_200) rfl rfl kt) ?_
    show own_R p.tables e below P (T90.setTop (mkF m 202 #[.val (.int p0), .val (.int p1), .val (.int p2), .val (.int p3), .val (.int p4), .val (.int p5), .val (.int (1 : Int32)), .val (.int n.toInt32), .val (.int (((p5.toUInt32 >>> ((4 : Int32) &&& 31).toUInt32).toInt32) &&& (7 : Int32))), .val (.int (((p5.toUInt32 >>> ((7 : Int32) &&& 31).toUInt32).toInt32) &&& (7 : Int32))), .val (.int u.toInt32), .val (.int vv.toInt32), .val (.ref b84), .val (.ref b88), .val (.ref o90)] [(.ref o90)]))
    refine own_fwd (own_len X90 hx hZ e90 A90_ ((1 : Int32) + ((2 : Int32) * n.toInt32)) (own_12n n bn _ ln) (g := (mkF m 202 #[.val (.int p0), .val (.int p1), .val (.int p2), .val (.int p3), .val (.int p4), .val (.int p5), .val (.int (1 : Int32)), .val (.int n.toInt32), .val (.int (((p5.toUInt32 >>> ((4 : Int32) &&& 31).toUInt32).toInt32) &&& (7 : Int32))), .val (.int (((p5.toUInt32 >>> ((7 : Int32) &&& 31).toUInt32).toInt32) &&& (7 : Int32))), .val (.int u.toInt32), .val (.int vv.toInt32), .val (.ref b84), .val (.ref b88), .val (.ref o90)] [(.ref o90)])) rfl rfl (hb hby at_202)) ?_
    show own_R p.tables e below P (T90.setTop (mkF m 203 #[.val (.int p0), .val (.int p1), .val (.int p2), .val (.int p3), .val (.int p4), .val (.int p5), .val (.int (1 : Int32)), .val (.int n.toInt32), .val (.int (((p5.toUInt32 >>> ((4 : Int32) &&& 31).toUInt32).toInt32) &&& (7 : Int32))), .val (.int (((p5.toUInt32 >>> ((7 : Int32) &&& 31).toUInt32).toInt32) &&& (7 : Int32))), .val (.int u.toInt32), .val (.int vv.toInt32), .val (.ref b84), .val (.ref b88), .val (.ref o90)] [(.int ((1 : Int32) + ((2 : Int32) * n.toInt32)))]))
    refine own_fwd (fun tt kt => XS.iconst X90.here hx rfl (hb hby at_203) kt) ?_
    show own_R p.tables e below P (T90.setTop (mkF m 204 #[.val (.int p0), .val (.int p1), .val (.int p2), .val (.int p3), .val (.int p4), .val (.int p5), .val (.int (1 : Int32)), .val (.int n.toInt32), .val (.int (((p5.toUInt32 >>> ((4 : Int32) &&& 31).toUInt32).toInt32) &&& (7 : Int32))), .val (.int (((p5.toUInt32 >>> ((7 : Int32) &&& 31).toUInt32).toInt32) &&& (7 : Int32))), .val (.int u.toInt32), .val (.int vv.toInt32), .val (.ref b84), .val (.ref b88), .val (.ref o90)] [(.int (1 : Int32)), (.int ((1 : Int32) + ((2 : Int32) * n.toInt32)))]))
    refine own_fwd (fun tt kt => XS.iconst X90.here hx rfl (hb hby at_204) kt) ?_
    show own_R p.tables e below P (T90.setTop (mkF m 205 #[.val (.int p0), .val (.int p1), .val (.int p2), .val (.int p3), .val (.int p4), .val (.int p5), .val (.int (1 : Int32)), .val (.int n.toInt32), .val (.int (((p5.toUInt32 >>> ((4 : Int32) &&& 31).toUInt32).toInt32) &&& (7 : Int32))), .val (.int (((p5.toUInt32 >>> ((7 : Int32) &&& 31).toUInt32).toInt32) &&& (7 : Int32))), .val (.int u.toInt32), .val (.int vv.toInt32), .val (.ref b84), .val (.ref b88), .val (.ref o90)] [(.int (2 : Int32)), (.int (1 : Int32)), (.int ((1 : Int32) + ((2 : Int32) * n.toInt32)))]))
    refine own_fwd (fun tt kt => XS.iload X90.here hx rfl (hb hby at_205) rfl kt) ?_
    show own_R p.tables e below P (T90.setTop (mkF m 207 #[.val (.int p0), .val (.int p1), .val (.int p2), .val (.int p3), .val (.int p4), .val (.int p5), .val (.int (1 : Int32)), .val (.int n.toInt32), .val (.int (((p5.toUInt32 >>> ((4 : Int32) &&& 31).toUInt32).toInt32) &&& (7 : Int32))), .val (.int (((p5.toUInt32 >>> ((7 : Int32) &&& 31).toUInt32).toInt32) &&& (7 : Int32))), .val (.int u.toInt32), .val (.int vv.toInt32), .val (.ref b84), .val (.ref b88), .val (.ref o90)] [(.int n.toInt32), (.int (2 : Int32)), (.int (1 : Int32)), (.int ((1 : Int32) + ((2 : Int32) * n.toInt32)))]))
    refine own_fwd (fun tt kt => XS.imul X90.here hx rfl (hb hby at_207) rfl kt) ?_
    show own_R p.tables e below P (T90.setTop (mkF m 208 #[.val (.int p0), .val (.int p1), .val (.int p2), .val (.int p3), .val (.int p4), .val (.int p5), .val (.int (1 : Int32)), .val (.int n.toInt32), .val (.int (((p5.toUInt32 >>> ((4 : Int32) &&& 31).toUInt32).toInt32) &&& (7 : Int32))), .val (.int (((p5.toUInt32 >>> ((7 : Int32) &&& 31).toUInt32).toInt32) &&& (7 : Int32))), .val (.int u.toInt32), .val (.int vv.toInt32), .val (.ref b84), .val (.ref b88), .val (.ref o90)] [(.int ((2 : Int32) * n.toInt32)), (.int (1 : Int32)), (.int ((1 : Int32) + ((2 : Int32) * n.toInt32)))]))
    refine own_fwd (fun tt kt => XS.iadd X90.here hx rfl (hb hby at_208) rfl kt) ?_
    show own_R p.tables e below P (T90.setTop (mkF m 209 #[.val (.int p0), .val (.int p1), .val (.int p2), .val (.int p3), .val (.int p4), .val (.int p5), .val (.int (1 : Int32)), .val (.int n.toInt32), .val (.int (((p5.toUInt32 >>> ((4 : Int32) &&& 31).toUInt32).toInt32) &&& (7 : Int32))), .val (.int (((p5.toUInt32 >>> ((7 : Int32) &&& 31).toUInt32).toInt32) &&& (7 : Int32))), .val (.int u.toInt32), .val (.int vv.toInt32), .val (.ref b84), .val (.ref b88), .val (.ref o90)] [(.int ((1 : Int32) + ((2 : Int32) * n.toInt32))), (.int ((1 : Int32) + ((2 : Int32) * n.toInt32)))]))
    have hc91 : ((1 : Int32) + ((2 : Int32) * n.toInt32)) = ((1 : Int32) + ((2 : Int32) * n.toInt32)) := rfl
    refine own_fwd (fun tt kt => XS.icmpYes X90.here hx rfl (pc0 := 209) (pc' := 214) rfl (hb hby at_209) rfl (teq hc91).1 (by decide) (by decide) kt) ?_
    show own_R p.tables e below P (T90.setTop (mkF m 214 #[.val (.int p0), .val (.int p1), .val (.int p2), .val (.int p3), .val (.int p4), .val (.int p5), .val (.int (1 : Int32)), .val (.int n.toInt32), .val (.int (((p5.toUInt32 >>> ((4 : Int32) &&& 31).toUInt32).toInt32) &&& (7 : Int32))), .val (.int (((p5.toUInt32 >>> ((7 : Int32) &&& 31).toUInt32).toInt32) &&& (7 : Int32))), .val (.int u.toInt32), .val (.int vv.toInt32), .val (.ref b84), .val (.ref b88), .val (.ref o90)] []))
    refine own_fwd (fun tt kt => XS.aload X90.here hx rfl (hb hby at_214) rfl rfl kt) ?_
    show own_R p.tables e below P (T90.setTop (mkF m 216 #[.val (.int p0), .val (.int p1), .val (.int p2), .val (.int p3), .val (.int p4), .val (.int p5), .val (.int (1 : Int32)), .val (.int n.toInt32), .val (.int (((p5.toUInt32 >>> ((4 : Int32) &&& 31).toUInt32).toInt32) &&& (7 : Int32))), .val (.int (((p5.toUInt32 >>> ((7 : Int32) &&& 31).toUInt32).toInt32) &&& (7 : Int32))), .val (.int u.toInt32), .val (.int vv.toInt32), .val (.ref b84), .val (.ref b88), .val (.ref o90)] [(.ref o90)]))
    refine own_fwd (fun tt kt => XS.iconst X90.here hx rfl (hb hby at_216) kt) ?_
    show own_R p.tables e below P (T90.setTop (mkF m 217 #[.val (.int p0), .val (.int p1), .val (.int p2), .val (.int p3), .val (.int p4), .val (.int p5), .val (.int (1 : Int32)), .val (.int n.toInt32), .val (.int (((p5.toUInt32 >>> ((4 : Int32) &&& 31).toUInt32).toInt32) &&& (7 : Int32))), .val (.int (((p5.toUInt32 >>> ((7 : Int32) &&& 31).toUInt32).toInt32) &&& (7 : Int32))), .val (.int u.toInt32), .val (.int vv.toInt32), .val (.ref b84), .val (.ref b88), .val (.ref o90)] [(.int (0 : Int32)), (.ref o90)]))
    refine own_fwd (own_ldI X90 hx hZ e90 A90_ (j := (0 : Int32)) 0 (by decide) (by omega) (g := (mkF m 217 #[.val (.int p0), .val (.int p1), .val (.int p2), .val (.int p3), .val (.int p4), .val (.int p5), .val (.int (1 : Int32)), .val (.int n.toInt32), .val (.int (((p5.toUInt32 >>> ((4 : Int32) &&& 31).toUInt32).toInt32) &&& (7 : Int32))), .val (.int (((p5.toUInt32 >>> ((7 : Int32) &&& 31).toUInt32).toInt32) &&& (7 : Int32))), .val (.int u.toInt32), .val (.int vv.toInt32), .val (.ref b84), .val (.ref b88), .val (.ref o90)] [(.int (0 : Int32)), (.ref o90)])) rfl rfl (hb hby at_217)) ?_
    show own_R p.tables e below P (T90.setTop (mkF m 218 #[.val (.int p0), .val (.int p1), .val (.int p2), .val (.int p3), .val (.int p4), .val (.int p5), .val (.int (1 : Int32)), .val (.int n.toInt32), .val (.int (((p5.toUInt32 >>> ((4 : Int32) &&& 31).toUInt32).toInt32) &&& (7 : Int32))), .val (.int (((p5.toUInt32 >>> ((7 : Int32) &&& 31).toUInt32).toInt32) &&& (7 : Int32))), .val (.int u.toInt32), .val (.int vv.toInt32), .val (.ref b84), .val (.ref b88), .val (.ref o90)] [(.int ((own_upd (own_upd (own_upd (fun _ => (0 : Int32)) 0 p0) (1 + u) p1) (1 + n + u) p3) 0))]))
    have hv92 : ((own_upd (own_upd (own_upd (fun _ => (0 : Int32)) 0 p0) (1 + u) p1) (1 + n + u) p3) 0) = p0 := by simp only [own_upd]; rw [if_neg (by omega), if_neg (by omega)]; rfl
    rw [hv92]
    show own_R p.tables e below P (T90.setTop (mkF m 218 #[.val (.int p0), .val (.int p1), .val (.int p2), .val (.int p3), .val (.int p4), .val (.int p5), .val (.int (1 : Int32)), .val (.int n.toInt32), .val (.int (((p5.toUInt32 >>> ((4 : Int32) &&& 31).toUInt32).toInt32) &&& (7 : Int32))), .val (.int (((p5.toUInt32 >>> ((7 : Int32) &&& 31).toUInt32).toInt32) &&& (7 : Int32))), .val (.int u.toInt32), .val (.int vv.toInt32), .val (.ref b84), .val (.ref b88), .val (.ref o90)] [(.int p0)]))
    refine own_fwd (fun tt kt => XS.iloadN X90.here hx rfl (hb hby at_218) rfl kt) ?_
    show own_R p.tables e below P (T90.setTop (mkF m 219 #[.val (.int p0), .val (.int p1), .val (.int p2), .val (.int p3), .val (.int p4), .val (.int p5), .val (.int (1 : Int32)), .val (.int n.toInt32), .val (.int (((p5.toUInt32 >>> ((4 : Int32) &&& 31).toUInt32).toInt32) &&& (7 : Int32))), .val (.int (((p5.toUInt32 >>> ((7 : Int32) &&& 31).toUInt32).toInt32) &&& (7 : Int32))), .val (.int u.toInt32), .val (.int vv.toInt32), .val (.ref b84), .val (.ref b88), .val (.ref o90)] [(.int p0), (.int p0)]))
    have hc93 : p0 = p0 := rfl
    refine own_fwd (fun tt kt => XS.icmpYes X90.here hx rfl (pc0 := 219) (pc' := 224) rfl (hb hby at_219) rfl (teq hc93).1 (by decide) (by decide) kt) ?_
    show own_R p.tables e below P (T90.setTop (mkF m 224 #[.val (.int p0), .val (.int p1), .val (.int p2), .val (.int p3), .val (.int p4), .val (.int p5), .val (.int (1 : Int32)), .val (.int n.toInt32), .val (.int (((p5.toUInt32 >>> ((4 : Int32) &&& 31).toUInt32).toInt32) &&& (7 : Int32))), .val (.int (((p5.toUInt32 >>> ((7 : Int32) &&& 31).toUInt32).toInt32) &&& (7 : Int32))), .val (.int u.toInt32), .val (.int vv.toInt32), .val (.ref b84), .val (.ref b88), .val (.ref o90)] []))
    refine own_fwd (fun tt kt => XS.aload X90.here hx rfl (hb hby at_224) rfl rfl kt) ?_
    show own_R p.tables e below P (T90.setTop (mkF m 226 #[.val (.int p0), .val (.int p1), .val (.int p2), .val (.int p3), .val (.int p4), .val (.int p5), .val (.int (1 : Int32)), .val (.int n.toInt32), .val (.int (((p5.toUInt32 >>> ((4 : Int32) &&& 31).toUInt32).toInt32) &&& (7 : Int32))), .val (.int (((p5.toUInt32 >>> ((7 : Int32) &&& 31).toUInt32).toInt32) &&& (7 : Int32))), .val (.int u.toInt32), .val (.int vv.toInt32), .val (.ref b84), .val (.ref b88), .val (.ref o90)] [(.ref o90)]))
    refine own_fwd (fun tt kt => XS.iload X90.here hx rfl (hb hby at_226) rfl kt) ?_
    show own_R p.tables e below P (T90.setTop (mkF m 228 #[.val (.int p0), .val (.int p1), .val (.int p2), .val (.int p3), .val (.int p4), .val (.int p5), .val (.int (1 : Int32)), .val (.int n.toInt32), .val (.int (((p5.toUInt32 >>> ((4 : Int32) &&& 31).toUInt32).toInt32) &&& (7 : Int32))), .val (.int (((p5.toUInt32 >>> ((7 : Int32) &&& 31).toUInt32).toInt32) &&& (7 : Int32))), .val (.int u.toInt32), .val (.int vv.toInt32), .val (.ref b84), .val (.ref b88), .val (.ref o90)] [(.int n.toInt32), (.ref o90)]))
    refine own_fwd (fun tt kt => XS.iconst X90.here hx rfl (hb hby at_228) kt) ?_
    show own_R p.tables e below P (T90.setTop (mkF m 229 #[.val (.int p0), .val (.int p1), .val (.int p2), .val (.int p3), .val (.int p4), .val (.int p5), .val (.int (1 : Int32)), .val (.int n.toInt32), .val (.int (((p5.toUInt32 >>> ((4 : Int32) &&& 31).toUInt32).toInt32) &&& (7 : Int32))), .val (.int (((p5.toUInt32 >>> ((7 : Int32) &&& 31).toUInt32).toInt32) &&& (7 : Int32))), .val (.int u.toInt32), .val (.int vv.toInt32), .val (.ref b84), .val (.ref b88), .val (.ref o90)] [(.int (0 : Int32)), (.int n.toInt32), (.ref o90)]))
    refine own_fwd (fun tt kt => XS.iload X90.here hx rfl (hb hby at_229) rfl kt) ?_
    show own_R p.tables e below P (T90.setTop (mkF m 231 #[.val (.int p0), .val (.int p1), .val (.int p2), .val (.int p3), .val (.int p4), .val (.int p5), .val (.int (1 : Int32)), .val (.int n.toInt32), .val (.int (((p5.toUInt32 >>> ((4 : Int32) &&& 31).toUInt32).toInt32) &&& (7 : Int32))), .val (.int (((p5.toUInt32 >>> ((7 : Int32) &&& 31).toUInt32).toInt32) &&& (7 : Int32))), .val (.int u.toInt32), .val (.int vv.toInt32), .val (.ref b84), .val (.ref b88), .val (.ref o90)] [(.int (1 : Int32)), (.int (0 : Int32)), (.int n.toInt32), (.ref o90)]))
    refine own_fwd (fun tt kt => XS.iload X90.here hx rfl (hb hby at_231) rfl kt) ?_
    show own_R p.tables e below P (T90.setTop (mkF m 233 #[.val (.int p0), .val (.int p1), .val (.int p2), .val (.int p3), .val (.int p4), .val (.int p5), .val (.int (1 : Int32)), .val (.int n.toInt32), .val (.int (((p5.toUInt32 >>> ((4 : Int32) &&& 31).toUInt32).toInt32) &&& (7 : Int32))), .val (.int (((p5.toUInt32 >>> ((7 : Int32) &&& 31).toUInt32).toInt32) &&& (7 : Int32))), .val (.int u.toInt32), .val (.int vv.toInt32), .val (.ref b84), .val (.ref b88), .val (.ref o90)] [(.int u.toInt32), (.int (1 : Int32)), (.int (0 : Int32)), (.int n.toInt32), (.ref o90)]))
    refine own_fwd (fun tt kt => XS.iload X90.here hx rfl (hb hby at_233) rfl kt) ?_
    show own_R p.tables e below P (T90.setTop (mkF m 235 #[.val (.int p0), .val (.int p1), .val (.int p2), .val (.int p3), .val (.int p4), .val (.int p5), .val (.int (1 : Int32)), .val (.int n.toInt32), .val (.int (((p5.toUInt32 >>> ((4 : Int32) &&& 31).toUInt32).toInt32) &&& (7 : Int32))), .val (.int (((p5.toUInt32 >>> ((7 : Int32) &&& 31).toUInt32).toInt32) &&& (7 : Int32))), .val (.int u.toInt32), .val (.int vv.toInt32), .val (.ref b84), .val (.ref b88), .val (.ref o90)] [(.int vv.toInt32), (.int u.toInt32), (.int (1 : Int32)), (.int (0 : Int32)), (.int n.toInt32), (.ref o90)]))
    refine own_fwd (fun tt kt => XS.iloadN X90.here hx rfl (hb hby at_235) rfl kt) ?_
    show own_R p.tables e below P (T90.setTop (mkF m 236 #[.val (.int p0), .val (.int p1), .val (.int p2), .val (.int p3), .val (.int p4), .val (.int p5), .val (.int (1 : Int32)), .val (.int n.toInt32), .val (.int (((p5.toUInt32 >>> ((4 : Int32) &&& 31).toUInt32).toInt32) &&& (7 : Int32))), .val (.int (((p5.toUInt32 >>> ((7 : Int32) &&& 31).toUInt32).toInt32) &&& (7 : Int32))), .val (.int u.toInt32), .val (.int vv.toInt32), .val (.ref b84), .val (.ref b88), .val (.ref o90)] [(.int p1), (.int vv.toInt32), (.int u.toInt32), (.int (1 : Int32)), (.int (0 : Int32)), (.int n.toInt32), (.ref o90)]))
    refine own_fwd (fun tt kt => XS.iloadN X90.here hx rfl (hb hby at_236) rfl kt) ?_
    show own_R p.tables e below P (T90.setTop (mkF m 237 #[.val (.int p0), .val (.int p1), .val (.int p2), .val (.int p3), .val (.int p4), .val (.int p5), .val (.int (1 : Int32)), .val (.int n.toInt32), .val (.int (((p5.toUInt32 >>> ((4 : Int32) &&& 31).toUInt32).toInt32) &&& (7 : Int32))), .val (.int (((p5.toUInt32 >>> ((7 : Int32) &&& 31).toUInt32).toInt32) &&& (7 : Int32))), .val (.int u.toInt32), .val (.int vv.toInt32), .val (.ref b84), .val (.ref b88), .val (.ref o90)] [(.int p2), (.int p1), (.int vv.toInt32), (.int u.toInt32), (.int (1 : Int32)), (.int (0 : Int32)), (.int n.toInt32), (.ref o90)]))
    refine own_fwd (fun tt kt => XS.iloadN X90.here hx rfl (hb hby at_237) rfl kt) ?_
    show own_R p.tables e below P (T90.setTop (mkF m 238 #[.val (.int p0), .val (.int p1), .val (.int p2), .val (.int p3), .val (.int p4), .val (.int p5), .val (.int (1 : Int32)), .val (.int n.toInt32), .val (.int (((p5.toUInt32 >>> ((4 : Int32) &&& 31).toUInt32).toInt32) &&& (7 : Int32))), .val (.int (((p5.toUInt32 >>> ((7 : Int32) &&& 31).toUInt32).toInt32) &&& (7 : Int32))), .val (.int u.toInt32), .val (.int vv.toInt32), .val (.ref b84), .val (.ref b88), .val (.ref o90)] [(.int p3), (.int p2), (.int p1), (.int vv.toInt32), (.int u.toInt32), (.int (1 : Int32)), (.int (0 : Int32)), (.int n.toInt32), (.ref o90)]))
    refine own_fwd (fun tt kt => XS.iload X90.here hx rfl (hb hby at_238) rfl kt) ?_
    show own_R p.tables e below P (T90.setTop (mkF m 240 #[.val (.int p0), .val (.int p1), .val (.int p2), .val (.int p3), .val (.int p4), .val (.int p5), .val (.int (1 : Int32)), .val (.int n.toInt32), .val (.int (((p5.toUInt32 >>> ((4 : Int32) &&& 31).toUInt32).toInt32) &&& (7 : Int32))), .val (.int (((p5.toUInt32 >>> ((7 : Int32) &&& 31).toUInt32).toInt32) &&& (7 : Int32))), .val (.int u.toInt32), .val (.int vv.toInt32), .val (.ref b84), .val (.ref b88), .val (.ref o90)] [(.int p4), (.int p3), (.int p2), (.int p1), (.int vv.toInt32), (.int u.toInt32), (.int (1 : Int32)), (.int (0 : Int32)), (.int n.toInt32), (.ref o90)]))
    have sl94a : 0 < n → (own_upd (own_upd (own_upd (fun _ => (0 : Int32)) 0 p0) (1 + u) p1) (1 + n + u) p3) (1 + 0) = own_exp (0 : Int32) (1 : Int32) u.toInt32 vv.toInt32 p1 p2 := by
      intro q
      rw [own_e1 (i := 0) rfl lu]; simp only [own_upd]
      have b1 := bu (by omega)
      repeat (first | rfl | omega | (split <;> try omega))
    have sl94b : 0 < n → (own_upd (own_upd (own_upd (fun _ => (0 : Int32)) 0 p0) (1 + u) p1) (1 + n + u) p3) (1 + n + 0) = own_exp (0 : Int32) (1 : Int32) u.toInt32 vv.toInt32 p3 p4 := by
      intro q
      rw [own_e1 (i := 0) rfl lu]; simp only [own_upd]
      have b1 := bu (by omega)
      repeat (first | rfl | omega | (split <;> try omega))
    obtain ⟨_, _, ⟨T95, L95, k95, n95⟩, -, X95, ⟨Lc95, hQ95, l95, y95, z95⟩, st95⟩ := Jvm.LawKit.callS X90 hx (y := (⟨"com/example/tracefold/tracefold/PlaceProgramMovedPinLaw", "slot", "([IIIIIIIIII)Z"⟩ : MethodName)) hown (mvT hZ (hw _ (List.mem_of_getElem? (i := 9) rfl))) (mvT hZ (hw _ (List.mem_of_getElem? (i := 10) rfl))) (mvT hZ (hw _ (List.mem_of_getElem? (i := 11) rfl))) (mvT hZ (hw _ (List.mem_of_getElem? (i := 12) rfl))) (by decide) (backOf (W := 0) (own_rm3 l Z a0 hw [] o90 n.toInt32 (0 : Int32) (1 : Int32) u.toInt32 vv.toInt32 p1 p2 p3 p4 n 0 (own_upd (own_upd (own_upd (fun _ => (0 : Int32)) 0 p0) (1 + u) p1) (1 + n + u) p3) h90 n0 Z90 A90_ ln rfl bn (by omega) sl94a sl94b) hZ (hw _ (List.mem_of_getElem? (i := 12) rfl)) (hw _ (List.mem_of_getElem? (i := 11) rfl)) (by decide) (by decide)) (g := (mkF m 240 #[.val (.int p0), .val (.int p1), .val (.int p2), .val (.int p3), .val (.int p4), .val (.int p5), .val (.int (1 : Int32)), .val (.int n.toInt32), .val (.int (((p5.toUInt32 >>> ((4 : Int32) &&& 31).toUInt32).toInt32) &&& (7 : Int32))), .val (.int (((p5.toUInt32 >>> ((7 : Int32) &&& 31).toUInt32).toInt32) &&& (7 : Int32))), .val (.int u.toInt32), .val (.int vv.toInt32), .val (.ref b84), .val (.ref b88), .val (.ref o90)] [(.int p4), (.int p3), (.int p2), (.int p1), (.int vv.toInt32), (.int u.toInt32), (.int (1 : Int32)), (.int (0 : Int32)), (.int n.toInt32), (.ref o90)])) rfl (by rw [hml]; rfl) (argsL := [(.ref o90), (.int n.toInt32), (.int (0 : Int32)), (.int (1 : Int32)), (.int u.toInt32), (.int vv.toInt32), (.int p1), (.int p2), (.int p3), (.int p4)]) (rest := []) (lenOf own_pd3 rfl) rfl (by show 2 * 0 + _ ≤ _; exact Nat.le_of_eq rfl) (hb hby at_240) (fun _ _ => ⟨rfl, e90, (by decide : 3 + 0 ≤ _), (by decide : 11 + 0 ≤ _)⟩)
    dsimp only [Pt.U, Pt.locs, Pt.cells, Pt.slots] at X95 l95 y95 z95 st95 hQ95
    subst l95 y95 z95
    obtain ⟨h95, e95⟩ : ∃ z, T95.heap = z := ⟨_, rfl⟩
    rw [e95] at hQ95
    obtain ⟨hq95, N95q, q95⟩ := hQ95
    rw [q95] at e95
    subst hq95
    have N95 := Fr.app N90 N95q
    refine own_fwd st95 ?_
    show own_R p.tables e below P (T95.setTop (mkF m 243 #[.val (.int p0), .val (.int p1), .val (.int p2), .val (.int p3), .val (.int p4), .val (.int p5), .val (.int (1 : Int32)), .val (.int n.toInt32), .val (.int (((p5.toUInt32 >>> ((4 : Int32) &&& 31).toUInt32).toInt32) &&& (7 : Int32))), .val (.int (((p5.toUInt32 >>> ((7 : Int32) &&& 31).toUInt32).toInt32) &&& (7 : Int32))), .val (.int u.toInt32), .val (.int vv.toInt32), .val (.ref b84), .val (.ref b88), .val (.ref o90)] [(.int (1 : Int32))]))
    have hc96 : ¬ ((1 : Int32) = (0 : Int32)) := (by decide)
    refine own_fwd (fun tt kt => XS.ifNo X95.here hx rfl (hb hby at_243) rfl ((if0 _ _).trans (feq hc96).1) kt) ?_
    show own_R p.tables e below P (T95.setTop (mkF m 246 #[.val (.int p0), .val (.int p1), .val (.int p2), .val (.int p3), .val (.int p4), .val (.int p5), .val (.int (1 : Int32)), .val (.int n.toInt32), .val (.int (((p5.toUInt32 >>> ((4 : Int32) &&& 31).toUInt32).toInt32) &&& (7 : Int32))), .val (.int (((p5.toUInt32 >>> ((7 : Int32) &&& 31).toUInt32).toInt32) &&& (7 : Int32))), .val (.int u.toInt32), .val (.int vv.toInt32), .val (.ref b84), .val (.ref b88), .val (.ref o90)] []))
    refine own_fwd (fun tt kt => XS.aload X95.here hx rfl (hb hby at_246) rfl rfl kt) ?_
    show own_R p.tables e below P (T95.setTop (mkF m 248 #[.val (.int p0), .val (.int p1), .val (.int p2), .val (.int p3), .val (.int p4), .val (.int p5), .val (.int (1 : Int32)), .val (.int n.toInt32), .val (.int (((p5.toUInt32 >>> ((4 : Int32) &&& 31).toUInt32).toInt32) &&& (7 : Int32))), .val (.int (((p5.toUInt32 >>> ((7 : Int32) &&& 31).toUInt32).toInt32) &&& (7 : Int32))), .val (.int u.toInt32), .val (.int vv.toInt32), .val (.ref b84), .val (.ref b88), .val (.ref o90)] [(.ref o90)]))
    refine own_fwd (fun tt kt => XS.iload X95.here hx rfl (hb hby at_248) rfl kt) ?_
    show own_R p.tables e below P (T95.setTop (mkF m 250 #[.val (.int p0), .val (.int p1), .val (.int p2), .val (.int p3), .val (.int p4), .val (.int p5), .val (.int (1 : Int32)), .val (.int n.toInt32), .val (.int (((p5.toUInt32 >>> ((4 : Int32) &&& 31).toUInt32).toInt32) &&& (7 : Int32))), .val (.int (((p5.toUInt32 >>> ((7 : Int32) &&& 31).toUInt32).toInt32) &&& (7 : Int32))), .val (.int u.toInt32), .val (.int vv.toInt32), .val (.ref b84), .val (.ref b88), .val (.ref o90)] [(.int n.toInt32), (.ref o90)]))
    refine own_fwd (fun tt kt => XS.iconst X95.here hx rfl (hb hby at_250) kt) ?_
    show own_R p.tables e below P (T95.setTop (mkF m 251 #[.val (.int p0), .val (.int p1), .val (.int p2), .val (.int p3), .val (.int p4), .val (.int p5), .val (.int (1 : Int32)), .val (.int n.toInt32), .val (.int (((p5.toUInt32 >>> ((4 : Int32) &&& 31).toUInt32).toInt32) &&& (7 : Int32))), .val (.int (((p5.toUInt32 >>> ((7 : Int32) &&& 31).toUInt32).toInt32) &&& (7 : Int32))), .val (.int u.toInt32), .val (.int vv.toInt32), .val (.ref b84), .val (.ref b88), .val (.ref o90)] [(.int (1 : Int32)), (.int n.toInt32), (.ref o90)]))
    refine own_fwd (fun tt kt => XS.iload X95.here hx rfl (hb hby at_251) rfl kt) ?_
    show own_R p.tables e below P (T95.setTop (mkF m 253 #[.val (.int p0), .val (.int p1), .val (.int p2), .val (.int p3), .val (.int p4), .val (.int p5), .val (.int (1 : Int32)), .val (.int n.toInt32), .val (.int (((p5.toUInt32 >>> ((4 : Int32) &&& 31).toUInt32).toInt32) &&& (7 : Int32))), .val (.int (((p5.toUInt32 >>> ((7 : Int32) &&& 31).toUInt32).toInt32) &&& (7 : Int32))), .val (.int u.toInt32), .val (.int vv.toInt32), .val (.ref b84), .val (.ref b88), .val (.ref o90)] [(.int (1 : Int32)), (.int (1 : Int32)), (.int n.toInt32), (.ref o90)]))
    refine own_fwd (fun tt kt => XS.iload X95.here hx rfl (hb hby at_253) rfl kt) ?_
    show own_R p.tables e below P (T95.setTop (mkF m 255 #[.val (.int p0), .val (.int p1), .val (.int p2), .val (.int p3), .val (.int p4), .val (.int p5), .val (.int (1 : Int32)), .val (.int n.toInt32), .val (.int (((p5.toUInt32 >>> ((4 : Int32) &&& 31).toUInt32).toInt32) &&& (7 : Int32))), .val (.int (((p5.toUInt32 >>> ((7 : Int32) &&& 31).toUInt32).toInt32) &&& (7 : Int32))), .val (.int u.toInt32), .val (.int vv.toInt32), .val (.ref b84), .val (.ref b88), .val (.ref o90)] [(.int u.toInt32), (.int (1 : Int32)), (.int (1 : Int32)), (.int n.toInt32), (.ref o90)]))
    refine own_fwd (fun tt kt => XS.iload X95.here hx rfl (hb hby at_255) rfl kt) ?_
    show own_R p.tables e below P (T95.setTop (mkF m 257 #[.val (.int p0), .val (.int p1), .val (.int p2), .val (.int p3), .val (.int p4), .val (.int p5), .val (.int (1 : Int32)), .val (.int n.toInt32), .val (.int (((p5.toUInt32 >>> ((4 : Int32) &&& 31).toUInt32).toInt32) &&& (7 : Int32))), .val (.int (((p5.toUInt32 >>> ((7 : Int32) &&& 31).toUInt32).toInt32) &&& (7 : Int32))), .val (.int u.toInt32), .val (.int vv.toInt32), .val (.ref b84), .val (.ref b88), .val (.ref o90)] [(.int vv.toInt32), (.int u.toInt32), (.int (1 : Int32)), (.int (1 : Int32)), (.int n.toInt32), (.ref o90)]))
    refine own_fwd (fun tt kt => XS.iloadN X95.here hx rfl (hb hby at_257) rfl kt) ?_
    show own_R p.tables e below P (T95.setTop (mkF m 258 #[.val (.int p0), .val (.int p1), .val (.int p2), .val (.int p3), .val (.int p4), .val (.int p5), .val (.int (1 : Int32)), .val (.int n.toInt32), .val (.int (((p5.toUInt32 >>> ((4 : Int32) &&& 31).toUInt32).toInt32) &&& (7 : Int32))), .val (.int (((p5.toUInt32 >>> ((7 : Int32) &&& 31).toUInt32).toInt32) &&& (7 : Int32))), .val (.int u.toInt32), .val (.int vv.toInt32), .val (.ref b84), .val (.ref b88), .val (.ref o90)] [(.int p1), (.int vv.toInt32), (.int u.toInt32), (.int (1 : Int32)), (.int (1 : Int32)), (.int n.toInt32), (.ref o90)]))
    refine own_fwd (fun tt kt => XS.iloadN X95.here hx rfl (hb hby at_258) rfl kt) ?_
    show own_R p.tables e below P (T95.setTop (mkF m 259 #[.val (.int p0), .val (.int p1), .val (.int p2), .val (.int p3), .val (.int p4), .val (.int p5), .val (.int (1 : Int32)), .val (.int n.toInt32), .val (.int (((p5.toUInt32 >>> ((4 : Int32) &&& 31).toUInt32).toInt32) &&& (7 : Int32))), .val (.int (((p5.toUInt32 >>> ((7 : Int32) &&& 31).toUInt32).toInt32) &&& (7 : Int32))), .val (.int u.toInt32), .val (.int vv.toInt32), .val (.ref b84), .val (.ref b88), .val (.ref o90)] [(.int p2), (.int p1), (.int vv.toInt32), (.int u.toInt32), (.int (1 : Int32)), (.int (1 : Int32)), (.int n.toInt32), (.ref o90)]))
    refine own_fwd (fun tt kt => XS.iloadN X95.here hx rfl (hb hby at_259) rfl kt) ?_
    show own_R p.tables e below P (T95.setTop (mkF m 260 #[.val (.int p0), .val (.int p1), .val (.int p2), .val (.int p3), .val (.int p4), .val (.int p5), .val (.int (1 : Int32)), .val (.int n.toInt32), .val (.int (((p5.toUInt32 >>> ((4 : Int32) &&& 31).toUInt32).toInt32) &&& (7 : Int32))), .val (.int (((p5.toUInt32 >>> ((7 : Int32) &&& 31).toUInt32).toInt32) &&& (7 : Int32))), .val (.int u.toInt32), .val (.int vv.toInt32), .val (.ref b84), .val (.ref b88), .val (.ref o90)] [(.int p3), (.int p2), (.int p1), (.int vv.toInt32), (.int u.toInt32), (.int (1 : Int32)), (.int (1 : Int32)), (.int n.toInt32), (.ref o90)]))
    refine own_fwd (fun tt kt => XS.iload X95.here hx rfl (hb hby at_260) rfl kt) ?_
    show own_R p.tables e below P (T95.setTop (mkF m 262 #[.val (.int p0), .val (.int p1), .val (.int p2), .val (.int p3), .val (.int p4), .val (.int p5), .val (.int (1 : Int32)), .val (.int n.toInt32), .val (.int (((p5.toUInt32 >>> ((4 : Int32) &&& 31).toUInt32).toInt32) &&& (7 : Int32))), .val (.int (((p5.toUInt32 >>> ((7 : Int32) &&& 31).toUInt32).toInt32) &&& (7 : Int32))), .val (.int u.toInt32), .val (.int vv.toInt32), .val (.ref b84), .val (.ref b88), .val (.ref o90)] [(.int p4), (.int p3), (.int p2), (.int p1), (.int vv.toInt32), (.int u.toInt32), (.int (1 : Int32)), (.int (1 : Int32)), (.int n.toInt32), (.ref o90)]))
    have sl97a : 1 < n → (own_upd (own_upd (own_upd (fun _ => (0 : Int32)) 0 p0) (1 + u) p1) (1 + n + u) p3) (1 + 1) = own_exp (1 : Int32) (1 : Int32) u.toInt32 vv.toInt32 p1 p2 := by
      intro q
      rw [own_e1 (i := 1) rfl lu]; simp only [own_upd]
      have b1 := bu (by omega)
      repeat (first | rfl | omega | (split <;> try omega))
    have sl97b : 1 < n → (own_upd (own_upd (own_upd (fun _ => (0 : Int32)) 0 p0) (1 + u) p1) (1 + n + u) p3) (1 + n + 1) = own_exp (1 : Int32) (1 : Int32) u.toInt32 vv.toInt32 p3 p4 := by
      intro q
      rw [own_e1 (i := 1) rfl lu]; simp only [own_upd]
      have b1 := bu (by omega)
      repeat (first | rfl | omega | (split <;> try omega))
    obtain ⟨_, _, ⟨T98, L98, k98, n98⟩, -, X98, ⟨Lc98, hQ98, l98, y98, z98⟩, st98⟩ := Jvm.LawKit.callS X95 hx (y := (⟨"com/example/tracefold/tracefold/PlaceProgramMovedPinLaw", "slot", "([IIIIIIIIII)Z"⟩ : MethodName)) hown (mvT hZ (hw _ (List.mem_of_getElem? (i := 9) rfl))) (mvT hZ (hw _ (List.mem_of_getElem? (i := 10) rfl))) (mvT hZ (hw _ (List.mem_of_getElem? (i := 11) rfl))) (mvT hZ (hw _ (List.mem_of_getElem? (i := 12) rfl))) (by decide) (backOf (W := 0) (own_rm3 l Z a0 hw [] o90 n.toInt32 (1 : Int32) (1 : Int32) u.toInt32 vv.toInt32 p1 p2 p3 p4 n 1 (own_upd (own_upd (own_upd (fun _ => (0 : Int32)) 0 p0) (1 + u) p1) (1 + n + u) p3) h90 n0 Z90 A90_ ln rfl bn (by omega) sl97a sl97b) hZ (hw _ (List.mem_of_getElem? (i := 12) rfl)) (hw _ (List.mem_of_getElem? (i := 11) rfl)) (by decide) (by decide)) (g := (mkF m 262 #[.val (.int p0), .val (.int p1), .val (.int p2), .val (.int p3), .val (.int p4), .val (.int p5), .val (.int (1 : Int32)), .val (.int n.toInt32), .val (.int (((p5.toUInt32 >>> ((4 : Int32) &&& 31).toUInt32).toInt32) &&& (7 : Int32))), .val (.int (((p5.toUInt32 >>> ((7 : Int32) &&& 31).toUInt32).toInt32) &&& (7 : Int32))), .val (.int u.toInt32), .val (.int vv.toInt32), .val (.ref b84), .val (.ref b88), .val (.ref o90)] [(.int p4), (.int p3), (.int p2), (.int p1), (.int vv.toInt32), (.int u.toInt32), (.int (1 : Int32)), (.int (1 : Int32)), (.int n.toInt32), (.ref o90)])) rfl (by rw [hml]; rfl) (argsL := [(.ref o90), (.int n.toInt32), (.int (1 : Int32)), (.int (1 : Int32)), (.int u.toInt32), (.int vv.toInt32), (.int p1), (.int p2), (.int p3), (.int p4)]) (rest := []) (lenOf own_pd3 rfl) rfl (by show 2 * 0 + _ ≤ _; exact Nat.le_of_eq rfl) (hb hby at_262) (fun _ _ => ⟨rfl, e95, (by decide : 3 + 0 ≤ _), (by decide : 11 + 0 ≤ _)⟩)
    dsimp only [Pt.U, Pt.locs, Pt.cells, Pt.slots] at X98 l98 y98 z98 st98 hQ98
    subst l98 y98 z98
    obtain ⟨h98, e98⟩ : ∃ z, T98.heap = z := ⟨_, rfl⟩
    rw [e98] at hQ98
    obtain ⟨hq98, N98q, q98⟩ := hQ98
    rw [q98] at e98
    subst hq98
    have N98 := Fr.app N95 N98q
    refine own_fwd st98 ?_
    show own_R p.tables e below P (T98.setTop (mkF m 265 #[.val (.int p0), .val (.int p1), .val (.int p2), .val (.int p3), .val (.int p4), .val (.int p5), .val (.int (1 : Int32)), .val (.int n.toInt32), .val (.int (((p5.toUInt32 >>> ((4 : Int32) &&& 31).toUInt32).toInt32) &&& (7 : Int32))), .val (.int (((p5.toUInt32 >>> ((7 : Int32) &&& 31).toUInt32).toInt32) &&& (7 : Int32))), .val (.int u.toInt32), .val (.int vv.toInt32), .val (.ref b84), .val (.ref b88), .val (.ref o90)] [(.int (1 : Int32))]))
    have hc99 : ¬ ((1 : Int32) = (0 : Int32)) := (by decide)
    refine own_fwd (fun tt kt => XS.ifNo X98.here hx rfl (hb hby at_265) rfl ((if0 _ _).trans (feq hc99).1) kt) ?_
    show own_R p.tables e below P (T98.setTop (mkF m 268 #[.val (.int p0), .val (.int p1), .val (.int p2), .val (.int p3), .val (.int p4), .val (.int p5), .val (.int (1 : Int32)), .val (.int n.toInt32), .val (.int (((p5.toUInt32 >>> ((4 : Int32) &&& 31).toUInt32).toInt32) &&& (7 : Int32))), .val (.int (((p5.toUInt32 >>> ((7 : Int32) &&& 31).toUInt32).toInt32) &&& (7 : Int32))), .val (.int u.toInt32), .val (.int vv.toInt32), .val (.ref b84), .val (.ref b88), .val (.ref o90)] []))
    refine own_fwd (fun tt kt => XS.aload X98.here hx rfl (hb hby at_268) rfl rfl kt) ?_
    show own_R p.tables e below P (T98.setTop (mkF m 270 #[.val (.int p0), .val (.int p1), .val (.int p2), .val (.int p3), .val (.int p4), .val (.int p5), .val (.int (1 : Int32)), .val (.int n.toInt32), .val (.int (((p5.toUInt32 >>> ((4 : Int32) &&& 31).toUInt32).toInt32) &&& (7 : Int32))), .val (.int (((p5.toUInt32 >>> ((7 : Int32) &&& 31).toUInt32).toInt32) &&& (7 : Int32))), .val (.int u.toInt32), .val (.int vv.toInt32), .val (.ref b84), .val (.ref b88), .val (.ref o90)] [(.ref o90)]))
    refine own_fwd (fun tt kt => XS.iload X98.here hx rfl (hb hby at_270) rfl kt) ?_
    show own_R p.tables e below P (T98.setTop (mkF m 272 #[.val (.int p0), .val (.int p1), .val (.int p2), .val (.int p3), .val (.int p4), .val (.int p5), .val (.int (1 : Int32)), .val (.int n.toInt32), .val (.int (((p5.toUInt32 >>> ((4 : Int32) &&& 31).toUInt32).toInt32) &&& (7 : Int32))), .val (.int (((p5.toUInt32 >>> ((7 : Int32) &&& 31).toUInt32).toInt32) &&& (7 : Int32))), .val (.int u.toInt32), .val (.int vv.toInt32), .val (.ref b84), .val (.ref b88), .val (.ref o90)] [(.int n.toInt32), (.ref o90)]))
    refine own_fwd (fun tt kt => XS.iconst X98.here hx rfl (hb hby at_272) kt) ?_
    show own_R p.tables e below P (T98.setTop (mkF m 273 #[.val (.int p0), .val (.int p1), .val (.int p2), .val (.int p3), .val (.int p4), .val (.int p5), .val (.int (1 : Int32)), .val (.int n.toInt32), .val (.int (((p5.toUInt32 >>> ((4 : Int32) &&& 31).toUInt32).toInt32) &&& (7 : Int32))), .val (.int (((p5.toUInt32 >>> ((7 : Int32) &&& 31).toUInt32).toInt32) &&& (7 : Int32))), .val (.int u.toInt32), .val (.int vv.toInt32), .val (.ref b84), .val (.ref b88), .val (.ref o90)] [(.int (2 : Int32)), (.int n.toInt32), (.ref o90)]))
    refine own_fwd (fun tt kt => XS.iload X98.here hx rfl (hb hby at_273) rfl kt) ?_
    show own_R p.tables e below P (T98.setTop (mkF m 275 #[.val (.int p0), .val (.int p1), .val (.int p2), .val (.int p3), .val (.int p4), .val (.int p5), .val (.int (1 : Int32)), .val (.int n.toInt32), .val (.int (((p5.toUInt32 >>> ((4 : Int32) &&& 31).toUInt32).toInt32) &&& (7 : Int32))), .val (.int (((p5.toUInt32 >>> ((7 : Int32) &&& 31).toUInt32).toInt32) &&& (7 : Int32))), .val (.int u.toInt32), .val (.int vv.toInt32), .val (.ref b84), .val (.ref b88), .val (.ref o90)] [(.int (1 : Int32)), (.int (2 : Int32)), (.int n.toInt32), (.ref o90)]))
    refine own_fwd (fun tt kt => XS.iload X98.here hx rfl (hb hby at_275) rfl kt) ?_
    show own_R p.tables e below P (T98.setTop (mkF m 277 #[.val (.int p0), .val (.int p1), .val (.int p2), .val (.int p3), .val (.int p4), .val (.int p5), .val (.int (1 : Int32)), .val (.int n.toInt32), .val (.int (((p5.toUInt32 >>> ((4 : Int32) &&& 31).toUInt32).toInt32) &&& (7 : Int32))), .val (.int (((p5.toUInt32 >>> ((7 : Int32) &&& 31).toUInt32).toInt32) &&& (7 : Int32))), .val (.int u.toInt32), .val (.int vv.toInt32), .val (.ref b84), .val (.ref b88), .val (.ref o90)] [(.int u.toInt32), (.int (1 : Int32)), (.int (2 : Int32)), (.int n.toInt32), (.ref o90)]))
    refine own_fwd (fun tt kt => XS.iload X98.here hx rfl (hb hby at_277) rfl kt) ?_
    show own_R p.tables e below P (T98.setTop (mkF m 279 #[.val (.int p0), .val (.int p1), .val (.int p2), .val (.int p3), .val (.int p4), .val (.int p5), .val (.int (1 : Int32)), .val (.int n.toInt32), .val (.int (((p5.toUInt32 >>> ((4 : Int32) &&& 31).toUInt32).toInt32) &&& (7 : Int32))), .val (.int (((p5.toUInt32 >>> ((7 : Int32) &&& 31).toUInt32).toInt32) &&& (7 : Int32))), .val (.int u.toInt32), .val (.int vv.toInt32), .val (.ref b84), .val (.ref b88), .val (.ref o90)] [(.int vv.toInt32), (.int u.toInt32), (.int (1 : Int32)), (.int (2 : Int32)), (.int n.toInt32), (.ref o90)]))
    refine own_fwd (fun tt kt => XS.iloadN X98.here hx rfl (hb hby at_279) rfl kt) ?_
    show own_R p.tables e below P (T98.setTop (mkF m 280 #[.val (.int p0), .val (.int p1), .val (.int p2), .val (.int p3), .val (.int p4), .val (.int p5), .val (.int (1 : Int32)), .val (.int n.toInt32), .val (.int (((p5.toUInt32 >>> ((4 : Int32) &&& 31).toUInt32).toInt32) &&& (7 : Int32))), .val (.int (((p5.toUInt32 >>> ((7 : Int32) &&& 31).toUInt32).toInt32) &&& (7 : Int32))), .val (.int u.toInt32), .val (.int vv.toInt32), .val (.ref b84), .val (.ref b88), .val (.ref o90)] [(.int p1), (.int vv.toInt32), (.int u.toInt32), (.int (1 : Int32)), (.int (2 : Int32)), (.int n.toInt32), (.ref o90)]))
    refine own_fwd (fun tt kt => XS.iloadN X98.here hx rfl (hb hby at_280) rfl kt) ?_
    show own_R p.tables e below P (T98.setTop (mkF m 281 #[.val (.int p0), .val (.int p1), .val (.int p2), .val (.int p3), .val (.int p4), .val (.int p5), .val (.int (1 : Int32)), .val (.int n.toInt32), .val (.int (((p5.toUInt32 >>> ((4 : Int32) &&& 31).toUInt32).toInt32) &&& (7 : Int32))), .val (.int (((p5.toUInt32 >>> ((7 : Int32) &&& 31).toUInt32).toInt32) &&& (7 : Int32))), .val (.int u.toInt32), .val (.int vv.toInt32), .val (.ref b84), .val (.ref b88), .val (.ref o90)] [(.int p2), (.int p1), (.int vv.toInt32), (.int u.toInt32), (.int (1 : Int32)), (.int (2 : Int32)), (.int n.toInt32), (.ref o90)]))
    refine own_fwd (fun tt kt => XS.iloadN X98.here hx rfl (hb hby at_281) rfl kt) ?_
    show own_R p.tables e below P (T98.setTop (mkF m 282 #[.val (.int p0), .val (.int p1), .val (.int p2), .val (.int p3), .val (.int p4), .val (.int p5), .val (.int (1 : Int32)), .val (.int n.toInt32), .val (.int (((p5.toUInt32 >>> ((4 : Int32) &&& 31).toUInt32).toInt32) &&& (7 : Int32))), .val (.int (((p5.toUInt32 >>> ((7 : Int32) &&& 31).toUInt32).toInt32) &&& (7 : Int32))), .val (.int u.toInt32), .val (.int vv.toInt32), .val (.ref b84), .val (.ref b88), .val (.ref o90)] [(.int p3), (.int p2), (.int p1), (.int vv.toInt32), (.int u.toInt32), (.int (1 : Int32)), (.int (2 : Int32)), (.int n.toInt32), (.ref o90)]))
    refine own_fwd (fun tt kt => XS.iload X98.here hx rfl (hb hby at_282) rfl kt) ?_
    show own_R p.tables e below P (T98.setTop (mkF m 284 #[.val (.int p0), .val (.int p1), .val (.int p2), .val (.int p3), .val (.int p4), .val (.int p5), .val (.int (1 : Int32)), .val (.int n.toInt32), .val (.int (((p5.toUInt32 >>> ((4 : Int32) &&& 31).toUInt32).toInt32) &&& (7 : Int32))), .val (.int (((p5.toUInt32 >>> ((7 : Int32) &&& 31).toUInt32).toInt32) &&& (7 : Int32))), .val (.int u.toInt32), .val (.int vv.toInt32), .val (.ref b84), .val (.ref b88), .val (.ref o90)] [(.int p4), (.int p3), (.int p2), (.int p1), (.int vv.toInt32), (.int u.toInt32), (.int (1 : Int32)), (.int (2 : Int32)), (.int n.toInt32), (.ref o90)]))
    have sl100a : 2 < n → (own_upd (own_upd (own_upd (fun _ => (0 : Int32)) 0 p0) (1 + u) p1) (1 + n + u) p3) (1 + 2) = own_exp (2 : Int32) (1 : Int32) u.toInt32 vv.toInt32 p1 p2 := by
      intro q
      rw [own_e1 (i := 2) rfl lu]; simp only [own_upd]
      have b1 := bu (by omega)
      repeat (first | rfl | omega | (split <;> try omega))
    have sl100b : 2 < n → (own_upd (own_upd (own_upd (fun _ => (0 : Int32)) 0 p0) (1 + u) p1) (1 + n + u) p3) (1 + n + 2) = own_exp (2 : Int32) (1 : Int32) u.toInt32 vv.toInt32 p3 p4 := by
      intro q
      rw [own_e1 (i := 2) rfl lu]; simp only [own_upd]
      have b1 := bu (by omega)
      repeat (first | rfl | omega | (split <;> try omega))
    obtain ⟨_, _, ⟨T101, L101, k101, n101⟩, -, X101, ⟨Lc101, hQ101, l101, y101, z101⟩, st101⟩ := Jvm.LawKit.callS X98 hx (y := (⟨"com/example/tracefold/tracefold/PlaceProgramMovedPinLaw", "slot", "([IIIIIIIIII)Z"⟩ : MethodName)) hown (mvT hZ (hw _ (List.mem_of_getElem? (i := 9) rfl))) (mvT hZ (hw _ (List.mem_of_getElem? (i := 10) rfl))) (mvT hZ (hw _ (List.mem_of_getElem? (i := 11) rfl))) (mvT hZ (hw _ (List.mem_of_getElem? (i := 12) rfl))) (by decide) (backOf (W := 0) (own_rm3 l Z a0 hw [] o90 n.toInt32 (2 : Int32) (1 : Int32) u.toInt32 vv.toInt32 p1 p2 p3 p4 n 2 (own_upd (own_upd (own_upd (fun _ => (0 : Int32)) 0 p0) (1 + u) p1) (1 + n + u) p3) h90 n0 Z90 A90_ ln rfl bn (by omega) sl100a sl100b) hZ (hw _ (List.mem_of_getElem? (i := 12) rfl)) (hw _ (List.mem_of_getElem? (i := 11) rfl)) (by decide) (by decide)) (g := (mkF m 284 #[.val (.int p0), .val (.int p1), .val (.int p2), .val (.int p3), .val (.int p4), .val (.int p5), .val (.int (1 : Int32)), .val (.int n.toInt32), .val (.int (((p5.toUInt32 >>> ((4 : Int32) &&& 31).toUInt32).toInt32) &&& (7 : Int32))), .val (.int (((p5.toUInt32 >>> ((7 : Int32) &&& 31).toUInt32).toInt32) &&& (7 : Int32))), .val (.int u.toInt32), .val (.int vv.toInt32), .val (.ref b84), .val (.ref b88), .val (.ref o90)] [(.int p4), (.int p3), (.int p2), (.int p1), (.int vv.toInt32), (.int u.toInt32), (.int (1 : Int32)), (.int (2 : Int32)), (.int n.toInt32), (.ref o90)])) rfl (by rw [hml]; rfl) (argsL := [(.ref o90), (.int n.toInt32), (.int (2 : Int32)), (.int (1 : Int32)), (.int u.toInt32), (.int vv.toInt32), (.int p1), (.int p2), (.int p3), (.int p4)]) (rest := []) (lenOf own_pd3 rfl) rfl (by show 2 * 0 + _ ≤ _; exact Nat.le_of_eq rfl) (hb hby at_284) (fun _ _ => ⟨rfl, e98, (by decide : 3 + 0 ≤ _), (by decide : 11 + 0 ≤ _)⟩)
    dsimp only [Pt.U, Pt.locs, Pt.cells, Pt.slots] at X101 l101 y101 z101 st101 hQ101
    subst l101 y101 z101
    obtain ⟨h101, e101⟩ : ∃ z, T101.heap = z := ⟨_, rfl⟩
    rw [e101] at hQ101
    obtain ⟨hq101, N101q, q101⟩ := hQ101
    rw [q101] at e101
    subst hq101
    have N101 := Fr.app N98 N101q
    refine own_fwd st101 ?_
    show own_R p.tables e below P (T101.setTop (mkF m 287 #[.val (.int p0), .val (.int p1), .val (.int p2), .val (.int p3), .val (.int p4), .val (.int p5), .val (.int (1 : Int32)), .val (.int n.toInt32), .val (.int (((p5.toUInt32 >>> ((4 : Int32) &&& 31).toUInt32).toInt32) &&& (7 : Int32))), .val (.int (((p5.toUInt32 >>> ((7 : Int32) &&& 31).toUInt32).toInt32) &&& (7 : Int32))), .val (.int u.toInt32), .val (.int vv.toInt32), .val (.ref b84), .val (.ref b88), .val (.ref o90)] [(.int (1 : Int32))]))
    have hc102 : ¬ ((1 : Int32) = (0 : Int32)) := (by decide)
    refine own_fwd (fun tt kt => XS.ifNo X101.here hx rfl (hb hby at_287) rfl ((if0 _ _).trans (feq hc102).1) kt) ?_
    show own_R p.tables e below P (T101.setTop (mkF m 290 #[.val (.int p0), .val (.int p1), .val (.int p2), .val (.int p3), .val (.int p4), .val (.int p5), .val (.int (1 : Int32)), .val (.int n.toInt32), .val (.int (((p5.toUInt32 >>> ((4 : Int32) &&& 31).toUInt32).toInt32) &&& (7 : Int32))), .val (.int (((p5.toUInt32 >>> ((7 : Int32) &&& 31).toUInt32).toInt32) &&& (7 : Int32))), .val (.int u.toInt32), .val (.int vv.toInt32), .val (.ref b84), .val (.ref b88), .val (.ref o90)] []))
    refine own_fwd (fun tt kt => XS.iconst X101.here hx rfl (hb hby at_290) kt) ?_
    show own_R p.tables e below P (T101.setTop (mkF m 291 #[.val (.int p0), .val (.int p1), .val (.int p2), .val (.int p3), .val (.int p4), .val (.int p5), .val (.int (1 : Int32)), .val (.int n.toInt32), .val (.int (((p5.toUInt32 >>> ((4 : Int32) &&& 31).toUInt32).toInt32) &&& (7 : Int32))), .val (.int (((p5.toUInt32 >>> ((7 : Int32) &&& 31).toUInt32).toInt32) &&& (7 : Int32))), .val (.int u.toInt32), .val (.int vv.toInt32), .val (.ref b84), .val (.ref b88), .val (.ref o90)] [(.int (1 : Int32))]))
    refine own_fwd (fun tt kt => XS.goto X101.here hx rfl (pc0 := 291) (pc' := 295) rfl (hb hby at_291) (by decide) (by decide) kt) ?_
    show own_R p.tables e below P (T101.setTop (mkF m 295 #[.val (.int p0), .val (.int p1), .val (.int p2), .val (.int p3), .val (.int p4), .val (.int p5), .val (.int (1 : Int32)), .val (.int n.toInt32), .val (.int (((p5.toUInt32 >>> ((4 : Int32) &&& 31).toUInt32).toInt32) &&& (7 : Int32))), .val (.int (((p5.toUInt32 >>> ((7 : Int32) &&& 31).toUInt32).toInt32) &&& (7 : Int32))), .val (.int u.toInt32), .val (.int vv.toInt32), .val (.ref b84), .val (.ref b88), .val (.ref o90)] [(.int (1 : Int32))]))
    obtain ⟨fs103, hr103, hrun103, hended103, hW103, hsame103⟩ := X101.leave (v := some (.int (1 : Int32))) (fun h => by rw [Bd.returns] at h; cases h)
    refine ⟨_, _, X101.ireturnOut hx (w := (1 : Int32)) Bd.returns rfl (by simp) (hb hby at_295) hr103, fin _ _ ⟨hrun103, hended103, _, _, rfl, ?_, ⟨_, rfl⟩, hW103, hsame103.mono (by decide) (by decide)⟩⟩
    show own_Qlaw Z p0 p1 p2 p3 p4 p5 h0 n0 _ T101.heap _
    rw [e101]
    exact ⟨rfl, N101⟩
  · rw [hs]
    show own_R p.tables e below P (s₁.setTop (mkF m 6 #[.val (.int p0), .val (.int p1), .val (.int p2), .val (.int p3), .val (.int p4), .val (.int p5), .unset, .unset, .unset, .unset, .unset, .unset, .unset, .unset, .unset] [(.int (2 : Int32))]))
    refine own_fwd (fun tt kt => XS.istore X0.here hx rfl (hb hby at_6) rfl (l' := #[.val (.int p0), .val (.int p1), .val (.int p2), .val (.int p3), .val (.int p4), .val (.int p5), .val (.int (2 : Int32)), .unset, .unset, .unset, .unset, .unset, .unset, .unset, .unset]) rfl kt) ?_
    show own_R p.tables e below P (s₁.setTop (mkF m 8 #[.val (.int p0), .val (.int p1), .val (.int p2), .val (.int p3), .val (.int p4), .val (.int p5), .val (.int (2 : Int32)), .unset, .unset, .unset, .unset, .unset, .unset, .unset, .unset] []))
    refine own_fwd (fun tt kt => XS.iconst X0.here hx rfl (hb hby at_8) kt) ?_
    show own_R p.tables e below P (s₁.setTop (mkF m 9 #[.val (.int p0), .val (.int p1), .val (.int p2), .val (.int p3), .val (.int p4), .val (.int p5), .val (.int (2 : Int32)), .unset, .unset, .unset, .unset, .unset, .unset, .unset, .unset] [(.int (3 : Int32))]))
    refine own_fwd (fun tt kt => XS.iload X0.here hx rfl (hb hby at_9) rfl kt) ?_
    show own_R p.tables e below P (s₁.setTop (mkF m 11 #[.val (.int p0), .val (.int p1), .val (.int p2), .val (.int p3), .val (.int p4), .val (.int p5), .val (.int (2 : Int32)), .unset, .unset, .unset, .unset, .unset, .unset, .unset, .unset] [(.int (2 : Int32)), (.int (3 : Int32))]))
    refine own_fwd (fun tt kt => XS.iload X0.here hx rfl (hb hby at_11) rfl kt) ?_
    show own_R p.tables e below P (s₁.setTop (mkF m 13 #[.val (.int p0), .val (.int p1), .val (.int p2), .val (.int p3), .val (.int p4), .val (.int p5), .val (.int (2 : Int32)), .unset, .unset, .unset, .unset, .unset, .unset, .unset, .unset] [(.int p5), (.int (2 : Int32)), (.int (3 : Int32))]))
    refine own_fwd (fun tt kt => XS.iconst X0.here hx rfl (hb hby at_13) kt) ?_
    show own_R p.tables e below P (s₁.setTop (mkF m 14 #[.val (.int p0), .val (.int p1), .val (.int p2), .val (.int p3), .val (.int p4), .val (.int p5), .val (.int (2 : Int32)), .unset, .unset, .unset, .unset, .unset, .unset, .unset, .unset] [(.int (2 : Int32)), (.int p5), (.int (2 : Int32)), (.int (3 : Int32))]))
    refine own_fwd (fun tt kt => XS.iushr X0.here hx rfl (hb hby at_14) rfl kt) ?_
    show own_R p.tables e below P (s₁.setTop (mkF m 15 #[.val (.int p0), .val (.int p1), .val (.int p2), .val (.int p3), .val (.int p4), .val (.int p5), .val (.int (2 : Int32)), .unset, .unset, .unset, .unset, .unset, .unset, .unset, .unset] [(.int ((p5.toUInt32 >>> ((2 : Int32) &&& 31).toUInt32).toInt32)), (.int (2 : Int32)), (.int (3 : Int32))]))
    refine own_fwd (fun tt kt => XS.iconst X0.here hx rfl (hb hby at_15) kt) ?_
    show own_R p.tables e below P (s₁.setTop (mkF m 16 #[.val (.int p0), .val (.int p1), .val (.int p2), .val (.int p3), .val (.int p4), .val (.int p5), .val (.int (2 : Int32)), .unset, .unset, .unset, .unset, .unset, .unset, .unset, .unset] [(.int (3 : Int32)), (.int ((p5.toUInt32 >>> ((2 : Int32) &&& 31).toUInt32).toInt32)), (.int (2 : Int32)), (.int (3 : Int32))]))
    refine own_fwd (fun tt kt => XS.iand X0.here hx rfl (hb hby at_16) rfl kt) ?_
    show own_R p.tables e below P (s₁.setTop (mkF m 17 #[.val (.int p0), .val (.int p1), .val (.int p2), .val (.int p3), .val (.int p4), .val (.int p5), .val (.int (2 : Int32)), .unset, .unset, .unset, .unset, .unset, .unset, .unset, .unset] [(.int (((p5.toUInt32 >>> ((2 : Int32) &&& 31).toUInt32).toInt32) &&& (3 : Int32))), (.int (2 : Int32)), (.int (3 : Int32))]))
    refine own_fwd (fun tt kt => XS.iadd X0.here hx rfl (hb hby at_17) rfl kt) ?_
    show own_R p.tables e below P (s₁.setTop (mkF m 18 #[.val (.int p0), .val (.int p1), .val (.int p2), .val (.int p3), .val (.int p4), .val (.int p5), .val (.int (2 : Int32)), .unset, .unset, .unset, .unset, .unset, .unset, .unset, .unset] [(.int ((2 : Int32) + (((p5.toUInt32 >>> ((2 : Int32) &&& 31).toUInt32).toInt32) &&& (3 : Int32)))), (.int (3 : Int32))]))
    obtain ⟨_, _, ⟨T104, L104, k104, n104⟩, -, X104, ⟨Lc104, hQ104, l104, y104, z104⟩, st104⟩ := Jvm.LawKit.callS X0 hx (y := (⟨"java/lang/Math", "min", "(II)I"⟩ : MethodName)) hown (mvT hZ (hw _ (List.mem_of_getElem? (i := 0) rfl))) (mvT hZ (hw _ (List.mem_of_getElem? (i := 1) rfl))) (mvT hZ (hw _ (List.mem_of_getElem? (i := 2) rfl))) (mvT hZ (hw _ (List.mem_of_getElem? (i := 3) rfl))) (by decide) (backOf (W := 0) (own_rm1 l Z a0 hw [] (3 : Int32) ((2 : Int32) + (((p5.toUInt32 >>> ((2 : Int32) &&& 31).toUInt32).toInt32) &&& (3 : Int32))) h0 n0 Z0 ) hZ (hw _ (List.mem_of_getElem? (i := 3) rfl)) (hw _ (List.mem_of_getElem? (i := 2) rfl)) (by decide) (by decide)) (g := (mkF m 18 #[.val (.int p0), .val (.int p1), .val (.int p2), .val (.int p3), .val (.int p4), .val (.int p5), .val (.int (2 : Int32)), .unset, .unset, .unset, .unset, .unset, .unset, .unset, .unset] [(.int ((2 : Int32) + (((p5.toUInt32 >>> ((2 : Int32) &&& 31).toUInt32).toInt32) &&& (3 : Int32)))), (.int (3 : Int32))])) rfl (by rw [hml]; rfl) (argsL := [(.int (3 : Int32)), (.int ((2 : Int32) + (((p5.toUInt32 >>> ((2 : Int32) &&& 31).toUInt32).toInt32) &&& (3 : Int32))))]) (rest := []) (lenOf own_pd1 rfl) rfl (by show 2 * 0 + _ ≤ _; exact Nat.le_of_eq rfl) (hb hby at_18) (fun _ _ => ⟨rfl, e0, (by decide : 0 + 0 ≤ _), (by decide : 0 + 0 ≤ _)⟩)
    dsimp only [Pt.U, Pt.locs, Pt.cells, Pt.slots] at X104 l104 y104 z104 st104 hQ104
    subst l104 y104 z104
    obtain ⟨h104, e104⟩ : ∃ z, T104.heap = z := ⟨_, rfl⟩
    rw [e104] at hQ104
    obtain ⟨hq104, N104q, q104⟩ := hQ104
    rw [q104] at e104
    subst hq104
    have N104 := Fr.app N0 N104q
    refine own_fwd st104 ?_
    show own_R p.tables e below P (T104.setTop (mkF m 21 #[.val (.int p0), .val (.int p1), .val (.int p2), .val (.int p3), .val (.int p4), .val (.int p5), .val (.int (2 : Int32)), .unset, .unset, .unset, .unset, .unset, .unset, .unset, .unset] [(.int (if ((2 : Int32) + (((p5.toUInt32 >>> ((2 : Int32) &&& 31).toUInt32).toInt32) &&& (3 : Int32))) < (3 : Int32) then ((2 : Int32) + (((p5.toUInt32 >>> ((2 : Int32) &&& 31).toUInt32).toInt32) &&& (3 : Int32))) else (3 : Int32)))]))
    obtain ⟨n, hn, mn, bn⟩ := own_n (2 : Int32) 2 rfl (by omega) ((p5.toUInt32 >>> ((2 : Int32) &&& 31).toUInt32).toInt32)
    rw [hn]
    show own_R p.tables e below P (T104.setTop (mkF m 21 #[.val (.int p0), .val (.int p1), .val (.int p2), .val (.int p3), .val (.int p4), .val (.int p5), .val (.int (2 : Int32)), .unset, .unset, .unset, .unset, .unset, .unset, .unset, .unset] [(.int n.toInt32)]))
    have ln : n.toInt32.toInt = (n : Int) := len_toInt (by omega)
    refine own_fwd (fun tt kt => XS.istore X104.here hx rfl (hb hby at_21) rfl (l' := #[.val (.int p0), .val (.int p1), .val (.int p2), .val (.int p3), .val (.int p4), .val (.int p5), .val (.int (2 : Int32)), .val (.int n.toInt32), .unset, .unset, .unset, .unset, .unset, .unset, .unset]) rfl kt) ?_
    show own_R p.tables e below P (T104.setTop (mkF m 23 #[.val (.int p0), .val (.int p1), .val (.int p2), .val (.int p3), .val (.int p4), .val (.int p5), .val (.int (2 : Int32)), .val (.int n.toInt32), .unset, .unset, .unset, .unset, .unset, .unset, .unset] []))
    refine own_fwd (fun tt kt => XS.iload X104.here hx rfl (hb hby at_23) rfl kt) ?_
    show own_R p.tables e below P (T104.setTop (mkF m 25 #[.val (.int p0), .val (.int p1), .val (.int p2), .val (.int p3), .val (.int p4), .val (.int p5), .val (.int (2 : Int32)), .val (.int n.toInt32), .unset, .unset, .unset, .unset, .unset, .unset, .unset] [(.int p5)]))
    refine own_fwd (fun tt kt => XS.iconst X104.here hx rfl (hb hby at_25) kt) ?_
    show own_R p.tables e below P (T104.setTop (mkF m 26 #[.val (.int p0), .val (.int p1), .val (.int p2), .val (.int p3), .val (.int p4), .val (.int p5), .val (.int (2 : Int32)), .val (.int n.toInt32), .unset, .unset, .unset, .unset, .unset, .unset, .unset] [(.int (4 : Int32)), (.int p5)]))
    refine own_fwd (fun tt kt => XS.iushr X104.here hx rfl (hb hby at_26) rfl kt) ?_
    show own_R p.tables e below P (T104.setTop (mkF m 27 #[.val (.int p0), .val (.int p1), .val (.int p2), .val (.int p3), .val (.int p4), .val (.int p5), .val (.int (2 : Int32)), .val (.int n.toInt32), .unset, .unset, .unset, .unset, .unset, .unset, .unset] [(.int ((p5.toUInt32 >>> ((4 : Int32) &&& 31).toUInt32).toInt32))]))
    refine own_fwd (fun tt kt => XS.bipush X104.here hx rfl (hb hby at_27) kt) ?_
    show own_R p.tables e below P (T104.setTop (mkF m 29 #[.val (.int p0), .val (.int p1), .val (.int p2), .val (.int p3), .val (.int p4), .val (.int p5), .val (.int (2 : Int32)), .val (.int n.toInt32), .unset, .unset, .unset, .unset, .unset, .unset, .unset] [(.int (7 : Int32)), (.int ((p5.toUInt32 >>> ((4 : Int32) &&& 31).toUInt32).toInt32))]))
    refine own_fwd (fun tt kt => XS.iand X104.here hx rfl (hb hby at_29) rfl kt) ?_
    show own_R p.tables e below P (T104.setTop (mkF m 30 #[.val (.int p0), .val (.int p1), .val (.int p2), .val (.int p3), .val (.int p4), .val (.int p5), .val (.int (2 : Int32)), .val (.int n.toInt32), .unset, .unset, .unset, .unset, .unset, .unset, .unset] [(.int (((p5.toUInt32 >>> ((4 : Int32) &&& 31).toUInt32).toInt32) &&& (7 : Int32)))]))
    refine own_fwd (fun tt kt => XS.istore X104.here hx rfl (hb hby at_30) rfl (l' := #[.val (.int p0), .val (.int p1), .val (.int p2), .val (.int p3), .val (.int p4), .val (.int p5), .val (.int (2 : Int32)), .val (.int n.toInt32), .val (.int (((p5.toUInt32 >>> ((4 : Int32) &&& 31).toUInt32).toInt32) &&& (7 : Int32))), .unset, .unset, .unset, .unset, .unset, .unset]) rfl kt) ?_
    show own_R p.tables e below P (T104.setTop (mkF m 32 #[.val (.int p0), .val (.int p1), .val (.int p2), .val (.int p3), .val (.int p4), .val (.int p5), .val (.int (2 : Int32)), .val (.int n.toInt32), .val (.int (((p5.toUInt32 >>> ((4 : Int32) &&& 31).toUInt32).toInt32) &&& (7 : Int32))), .unset, .unset, .unset, .unset, .unset, .unset] []))
    refine own_fwd (fun tt kt => XS.iload X104.here hx rfl (hb hby at_32) rfl kt) ?_
    show own_R p.tables e below P (T104.setTop (mkF m 34 #[.val (.int p0), .val (.int p1), .val (.int p2), .val (.int p3), .val (.int p4), .val (.int p5), .val (.int (2 : Int32)), .val (.int n.toInt32), .val (.int (((p5.toUInt32 >>> ((4 : Int32) &&& 31).toUInt32).toInt32) &&& (7 : Int32))), .unset, .unset, .unset, .unset, .unset, .unset] [(.int p5)]))
    refine own_fwd (fun tt kt => XS.bipush X104.here hx rfl (hb hby at_34) kt) ?_
    show own_R p.tables e below P (T104.setTop (mkF m 36 #[.val (.int p0), .val (.int p1), .val (.int p2), .val (.int p3), .val (.int p4), .val (.int p5), .val (.int (2 : Int32)), .val (.int n.toInt32), .val (.int (((p5.toUInt32 >>> ((4 : Int32) &&& 31).toUInt32).toInt32) &&& (7 : Int32))), .unset, .unset, .unset, .unset, .unset, .unset] [(.int (7 : Int32)), (.int p5)]))
    refine own_fwd (fun tt kt => XS.iushr X104.here hx rfl (hb hby at_36) rfl kt) ?_
    show own_R p.tables e below P (T104.setTop (mkF m 37 #[.val (.int p0), .val (.int p1), .val (.int p2), .val (.int p3), .val (.int p4), .val (.int p5), .val (.int (2 : Int32)), .val (.int n.toInt32), .val (.int (((p5.toUInt32 >>> ((4 : Int32) &&& 31).toUInt32).toInt32) &&& (7 : Int32))), .unset, .unset, .unset, .unset, .unset, .unset] [(.int ((p5.toUInt32 >>> ((7 : Int32) &&& 31).toUInt32).toInt32))]))
    refine own_fwd (fun tt kt => XS.bipush X104.here hx rfl (hb hby at_37) kt) ?_
    show own_R p.tables e below P (T104.setTop (mkF m 39 #[.val (.int p0), .val (.int p1), .val (.int p2), .val (.int p3), .val (.int p4), .val (.int p5), .val (.int (2 : Int32)), .val (.int n.toInt32), .val (.int (((p5.toUInt32 >>> ((4 : Int32) &&& 31).toUInt32).toInt32) &&& (7 : Int32))), .unset, .unset, .unset, .unset, .unset, .unset] [(.int (7 : Int32)), (.int ((p5.toUInt32 >>> ((7 : Int32) &&& 31).toUInt32).toInt32))]))
    refine own_fwd (fun tt kt => XS.iand X104.here hx rfl (hb hby at_39) rfl kt) ?_
    show own_R p.tables e below P (T104.setTop (mkF m 40 #[.val (.int p0), .val (.int p1), .val (.int p2), .val (.int p3), .val (.int p4), .val (.int p5), .val (.int (2 : Int32)), .val (.int n.toInt32), .val (.int (((p5.toUInt32 >>> ((4 : Int32) &&& 31).toUInt32).toInt32) &&& (7 : Int32))), .unset, .unset, .unset, .unset, .unset, .unset] [(.int (((p5.toUInt32 >>> ((7 : Int32) &&& 31).toUInt32).toInt32) &&& (7 : Int32)))]))
    refine own_fwd (fun tt kt => XS.istore X104.here hx rfl (hb hby at_40) rfl (l' := #[.val (.int p0), .val (.int p1), .val (.int p2), .val (.int p3), .val (.int p4), .val (.int p5), .val (.int (2 : Int32)), .val (.int n.toInt32), .val (.int (((p5.toUInt32 >>> ((4 : Int32) &&& 31).toUInt32).toInt32) &&& (7 : Int32))), .val (.int (((p5.toUInt32 >>> ((7 : Int32) &&& 31).toUInt32).toInt32) &&& (7 : Int32))), .unset, .unset, .unset, .unset, .unset]) rfl kt) ?_
    show own_R p.tables e below P (T104.setTop (mkF m 42 #[.val (.int p0), .val (.int p1), .val (.int p2), .val (.int p3), .val (.int p4), .val (.int p5), .val (.int (2 : Int32)), .val (.int n.toInt32), .val (.int (((p5.toUInt32 >>> ((4 : Int32) &&& 31).toUInt32).toInt32) &&& (7 : Int32))), .val (.int (((p5.toUInt32 >>> ((7 : Int32) &&& 31).toUInt32).toInt32) &&& (7 : Int32))), .unset, .unset, .unset, .unset, .unset] []))
    refine own_fwd (fun tt kt => XS.iload X104.here hx rfl (hb hby at_42) rfl kt) ?_
    show own_R p.tables e below P (T104.setTop (mkF m 44 #[.val (.int p0), .val (.int p1), .val (.int p2), .val (.int p3), .val (.int p4), .val (.int p5), .val (.int (2 : Int32)), .val (.int n.toInt32), .val (.int (((p5.toUInt32 >>> ((4 : Int32) &&& 31).toUInt32).toInt32) &&& (7 : Int32))), .val (.int (((p5.toUInt32 >>> ((7 : Int32) &&& 31).toUInt32).toInt32) &&& (7 : Int32))), .unset, .unset, .unset, .unset, .unset] [(.int n.toInt32)]))
    have j105 : ∀ P, own_R p.tables e below P (T104.setTop (mkF m 56 #[.val (.int p0), .val (.int p1), .val (.int p2), .val (.int p3), .val (.int p4), .val (.int p5), .val (.int (2 : Int32)), .val (.int n.toInt32), .val (.int (((p5.toUInt32 >>> ((4 : Int32) &&& 31).toUInt32).toInt32) &&& (7 : Int32))), .val (.int (((p5.toUInt32 >>> ((7 : Int32) &&& 31).toUInt32).toInt32) &&& (7 : Int32))), .unset, .unset, .unset, .unset, .unset] [(.int (if (0 : Int32) < n.toInt32 then ((((p5.toUInt32 >>> ((4 : Int32) &&& 31).toUInt32).toInt32) &&& (7 : Int32)) % n.toInt32) else (0 : Int32)))])) → own_R p.tables e below P (T104.setTop (mkF m 44 #[.val (.int p0), .val (.int p1), .val (.int p2), .val (.int p3), .val (.int p4), .val (.int p5), .val (.int (2 : Int32)), .val (.int n.toInt32), .val (.int (((p5.toUInt32 >>> ((4 : Int32) &&& 31).toUInt32).toInt32) &&& (7 : Int32))), .val (.int (((p5.toUInt32 >>> ((7 : Int32) &&& 31).toUInt32).toInt32) &&& (7 : Int32))), .unset, .unset, .unset, .unset, .unset] [(.int n.toInt32)])) := by
      intro P k
      by_cases hc105 : (0 : Int32) < n.toInt32
      · simp only [if_pos hc105] at k
        refine own_fwd (fun tt kt => XS.ifNo X104.here hx rfl (hb hby at_44) rfl ((if0 _ _).trans (tlt hc105).2.2.2) kt) ?_
        show own_R p.tables e below P (T104.setTop (mkF m 47 #[.val (.int p0), .val (.int p1), .val (.int p2), .val (.int p3), .val (.int p4), .val (.int p5), .val (.int (2 : Int32)), .val (.int n.toInt32), .val (.int (((p5.toUInt32 >>> ((4 : Int32) &&& 31).toUInt32).toInt32) &&& (7 : Int32))), .val (.int (((p5.toUInt32 >>> ((7 : Int32) &&& 31).toUInt32).toInt32) &&& (7 : Int32))), .unset, .unset, .unset, .unset, .unset] []))
        refine own_fwd (fun tt kt => XS.iload X104.here hx rfl (hb hby at_47) rfl kt) ?_
        show own_R p.tables e below P (T104.setTop (mkF m 49 #[.val (.int p0), .val (.int p1), .val (.int p2), .val (.int p3), .val (.int p4), .val (.int p5), .val (.int (2 : Int32)), .val (.int n.toInt32), .val (.int (((p5.toUInt32 >>> ((4 : Int32) &&& 31).toUInt32).toInt32) &&& (7 : Int32))), .val (.int (((p5.toUInt32 >>> ((7 : Int32) &&& 31).toUInt32).toInt32) &&& (7 : Int32))), .unset, .unset, .unset, .unset, .unset] [(.int (((p5.toUInt32 >>> ((4 : Int32) &&& 31).toUInt32).toInt32) &&& (7 : Int32)))]))
        refine own_fwd (fun tt kt => XS.iload X104.here hx rfl (hb hby at_49) rfl kt) ?_
        show own_R p.tables e below P (T104.setTop (mkF m 51 #[.val (.int p0), .val (.int p1), .val (.int p2), .val (.int p3), .val (.int p4), .val (.int p5), .val (.int (2 : Int32)), .val (.int n.toInt32), .val (.int (((p5.toUInt32 >>> ((4 : Int32) &&& 31).toUInt32).toInt32) &&& (7 : Int32))), .val (.int (((p5.toUInt32 >>> ((7 : Int32) &&& 31).toUInt32).toInt32) &&& (7 : Int32))), .unset, .unset, .unset, .unset, .unset] [(.int n.toInt32), (.int (((p5.toUInt32 >>> ((4 : Int32) &&& 31).toUInt32).toInt32) &&& (7 : Int32)))]))
        refine own_fwd (fun tt kt => iremM X104 hx rfl (hb hby at_51) rfl (fun q => by have q' := hc105; rw [q] at q'; exact absurd q' (by decide)) kt) ?_
        show own_R p.tables e below P (T104.setTop (mkF m 52 #[.val (.int p0), .val (.int p1), .val (.int p2), .val (.int p3), .val (.int p4), .val (.int p5), .val (.int (2 : Int32)), .val (.int n.toInt32), .val (.int (((p5.toUInt32 >>> ((4 : Int32) &&& 31).toUInt32).toInt32) &&& (7 : Int32))), .val (.int (((p5.toUInt32 >>> ((7 : Int32) &&& 31).toUInt32).toInt32) &&& (7 : Int32))), .unset, .unset, .unset, .unset, .unset] [(.int ((((p5.toUInt32 >>> ((4 : Int32) &&& 31).toUInt32).toInt32) &&& (7 : Int32)) % n.toInt32))]))
        refine own_fwd (fun tt kt => XS.goto X104.here hx rfl (pc0 := 52) (pc' := 56) rfl (hb hby at_52) (by decide) (by decide) kt) ?_
        show own_R p.tables e below P (T104.setTop (mkF m 56 #[.val (.int p0), .val (.int p1), .val (.int p2), .val (.int p3), .val (.int p4), .val (.int p5), .val (.int (2 : Int32)), .val (.int n.toInt32), .val (.int (((p5.toUInt32 >>> ((4 : Int32) &&& 31).toUInt32).toInt32) &&& (7 : Int32))), .val (.int (((p5.toUInt32 >>> ((7 : Int32) &&& 31).toUInt32).toInt32) &&& (7 : Int32))), .unset, .unset, .unset, .unset, .unset] [(.int ((((p5.toUInt32 >>> ((4 : Int32) &&& 31).toUInt32).toInt32) &&& (7 : Int32)) % n.toInt32))]))
        exact k
      · simp only [if_neg hc105] at k
        refine own_fwd (fun tt kt => XS.ifYes X104.here hx rfl (pc0 := 44) (pc' := 55) rfl (hb hby at_44) rfl ((if0 _ _).trans (flt hc105).2.2.2) (by decide) (by decide) kt) ?_
        show own_R p.tables e below P (T104.setTop (mkF m 55 #[.val (.int p0), .val (.int p1), .val (.int p2), .val (.int p3), .val (.int p4), .val (.int p5), .val (.int (2 : Int32)), .val (.int n.toInt32), .val (.int (((p5.toUInt32 >>> ((4 : Int32) &&& 31).toUInt32).toInt32) &&& (7 : Int32))), .val (.int (((p5.toUInt32 >>> ((7 : Int32) &&& 31).toUInt32).toInt32) &&& (7 : Int32))), .unset, .unset, .unset, .unset, .unset] []))
        refine own_fwd (fun tt kt => XS.iconst X104.here hx rfl (hb hby at_55) kt) ?_
        show own_R p.tables e below P (T104.setTop (mkF m 56 #[.val (.int p0), .val (.int p1), .val (.int p2), .val (.int p3), .val (.int p4), .val (.int p5), .val (.int (2 : Int32)), .val (.int n.toInt32), .val (.int (((p5.toUInt32 >>> ((4 : Int32) &&& 31).toUInt32).toInt32) &&& (7 : Int32))), .val (.int (((p5.toUInt32 >>> ((7 : Int32) &&& 31).toUInt32).toInt32) &&& (7 : Int32))), .unset, .unset, .unset, .unset, .unset] [(.int (0 : Int32))]))
        exact k
    refine j105 P ?_
    show own_R p.tables e below P (T104.setTop (mkF m 56 #[.val (.int p0), .val (.int p1), .val (.int p2), .val (.int p3), .val (.int p4), .val (.int p5), .val (.int (2 : Int32)), .val (.int n.toInt32), .val (.int (((p5.toUInt32 >>> ((4 : Int32) &&& 31).toUInt32).toInt32) &&& (7 : Int32))), .val (.int (((p5.toUInt32 >>> ((7 : Int32) &&& 31).toUInt32).toInt32) &&& (7 : Int32))), .unset, .unset, .unset, .unset, .unset] [(.int (if (0 : Int32) < n.toInt32 then ((((p5.toUInt32 >>> ((4 : Int32) &&& 31).toUInt32).toInt32) &&& (7 : Int32)) % n.toInt32) else (0 : Int32)))]))
    obtain ⟨u, hu, bu, cu⟩ := own_u n bn ((p5.toUInt32 >>> ((4 : Int32) &&& 31).toUInt32).toInt32)
    rw [hu]
    show own_R p.tables e below P (T104.setTop (mkF m 56 #[.val (.int p0), .val (.int p1), .val (.int p2), .val (.int p3), .val (.int p4), .val (.int p5), .val (.int (2 : Int32)), .val (.int n.toInt32), .val (.int (((p5.toUInt32 >>> ((4 : Int32) &&& 31).toUInt32).toInt32) &&& (7 : Int32))), .val (.int (((p5.toUInt32 >>> ((7 : Int32) &&& 31).toUInt32).toInt32) &&& (7 : Int32))), .unset, .unset, .unset, .unset, .unset] [(.int u.toInt32)]))
    have lu : u.toInt32.toInt = (u : Int) := len_toInt (by omega)
    refine own_fwd (fun tt kt => XS.istore X104.here hx rfl (hb hby at_56) rfl (l' := #[.val (.int p0), .val (.int p1), .val (.int p2), .val (.int p3), .val (.int p4), .val (.int p5), .val (.int (2 : Int32)), .val (.int n.toInt32), .val (.int (((p5.toUInt32 >>> ((4 : Int32) &&& 31).toUInt32).toInt32) &&& (7 : Int32))), .val (.int (((p5.toUInt32 >>> ((7 : Int32) &&& 31).toUInt32).toInt32) &&& (7 : Int32))), .val (.int u.toInt32), .unset, .unset, .unset, .unset]) rfl kt) ?_
    show own_R p.tables e below P (T104.setTop (mkF m 58 #[.val (.int p0), .val (.int p1), .val (.int p2), .val (.int p3), .val (.int p4), .val (.int p5), .val (.int (2 : Int32)), .val (.int n.toInt32), .val (.int (((p5.toUInt32 >>> ((4 : Int32) &&& 31).toUInt32).toInt32) &&& (7 : Int32))), .val (.int (((p5.toUInt32 >>> ((7 : Int32) &&& 31).toUInt32).toInt32) &&& (7 : Int32))), .val (.int u.toInt32), .unset, .unset, .unset, .unset] []))
    refine own_fwd (fun tt kt => XS.iload X104.here hx rfl (hb hby at_58) rfl kt) ?_
    show own_R p.tables e below P (T104.setTop (mkF m 60 #[.val (.int p0), .val (.int p1), .val (.int p2), .val (.int p3), .val (.int p4), .val (.int p5), .val (.int (2 : Int32)), .val (.int n.toInt32), .val (.int (((p5.toUInt32 >>> ((4 : Int32) &&& 31).toUInt32).toInt32) &&& (7 : Int32))), .val (.int (((p5.toUInt32 >>> ((7 : Int32) &&& 31).toUInt32).toInt32) &&& (7 : Int32))), .val (.int u.toInt32), .unset, .unset, .unset, .unset] [(.int n.toInt32)]))
    refine own_fwd (fun tt kt => XS.iconst X104.here hx rfl (hb hby at_60) kt) ?_
    show own_R p.tables e below P (T104.setTop (mkF m 61 #[.val (.int p0), .val (.int p1), .val (.int p2), .val (.int p3), .val (.int p4), .val (.int p5), .val (.int (2 : Int32)), .val (.int n.toInt32), .val (.int (((p5.toUInt32 >>> ((4 : Int32) &&& 31).toUInt32).toInt32) &&& (7 : Int32))), .val (.int (((p5.toUInt32 >>> ((7 : Int32) &&& 31).toUInt32).toInt32) &&& (7 : Int32))), .val (.int u.toInt32), .unset, .unset, .unset, .unset] [(.int (1 : Int32)), (.int n.toInt32)]))
    have j106 : ∀ P, own_R p.tables e below P (T104.setTop (mkF m 83 #[.val (.int p0), .val (.int p1), .val (.int p2), .val (.int p3), .val (.int p4), .val (.int p5), .val (.int (2 : Int32)), .val (.int n.toInt32), .val (.int (((p5.toUInt32 >>> ((4 : Int32) &&& 31).toUInt32).toInt32) &&& (7 : Int32))), .val (.int (((p5.toUInt32 >>> ((7 : Int32) &&& 31).toUInt32).toInt32) &&& (7 : Int32))), .val (.int u.toInt32), .unset, .unset, .unset, .unset] [(.int (if (1 : Int32) < n.toInt32 then (((u.toInt32 + (1 : Int32)) + ((((p5.toUInt32 >>> ((7 : Int32) &&& 31).toUInt32).toInt32) &&& (7 : Int32)) % (n.toInt32 - (1 : Int32)))) % n.toInt32) else (0 : Int32)))])) → own_R p.tables e below P (T104.setTop (mkF m 61 #[.val (.int p0), .val (.int p1), .val (.int p2), .val (.int p3), .val (.int p4), .val (.int p5), .val (.int (2 : Int32)), .val (.int n.toInt32), .val (.int (((p5.toUInt32 >>> ((4 : Int32) &&& 31).toUInt32).toInt32) &&& (7 : Int32))), .val (.int (((p5.toUInt32 >>> ((7 : Int32) &&& 31).toUInt32).toInt32) &&& (7 : Int32))), .val (.int u.toInt32), .unset, .unset, .unset, .unset] [(.int (1 : Int32)), (.int n.toInt32)])) := by
      intro P k
      by_cases hc106 : (1 : Int32) < n.toInt32
      · simp only [if_pos hc106] at k
        refine own_fwd (fun tt kt => XS.icmpNo X104.here hx rfl (hb hby at_61) rfl (tlt hc106).2.2.2 kt) ?_
        show own_R p.tables e below P (T104.setTop (mkF m 64 #[.val (.int p0), .val (.int p1), .val (.int p2), .val (.int p3), .val (.int p4), .val (.int p5), .val (.int (2 : Int32)), .val (.int n.toInt32), .val (.int (((p5.toUInt32 >>> ((4 : Int32) &&& 31).toUInt32).toInt32) &&& (7 : Int32))), .val (.int (((p5.toUInt32 >>> ((7 : Int32) &&& 31).toUInt32).toInt32) &&& (7 : Int32))), .val (.int u.toInt32), .unset, .unset, .unset, .unset] []))
        refine own_fwd (fun tt kt => XS.iload X104.here hx rfl (hb hby at_64) rfl kt) ?_
        show own_R p.tables e below P (T104.setTop (mkF m 66 #[.val (.int p0), .val (.int p1), .val (.int p2), .val (.int p3), .val (.int p4), .val (.int p5), .val (.int (2 : Int32)), .val (.int n.toInt32), .val (.int (((p5.toUInt32 >>> ((4 : Int32) &&& 31).toUInt32).toInt32) &&& (7 : Int32))), .val (.int (((p5.toUInt32 >>> ((7 : Int32) &&& 31).toUInt32).toInt32) &&& (7 : Int32))), .val (.int u.toInt32), .unset, .unset, .unset, .unset] [(.int u.toInt32)]))
        refine own_fwd (fun tt kt => XS.iconst X104.here hx rfl (hb hby at_66) kt) ?_
        show own_R p.tables e below P (T104.setTop (mkF m 67 #[.val (.int p0), .val (.int p1), .val (.int p2), .val (.int p3), .val (.int p4), .val (.int p5), .val (.int (2 : Int32)), .val (.int n.toInt32), .val (.int (((p5.toUInt32 >>> ((4 : Int32) &&& 31).toUInt32).toInt32) &&& (7 : Int32))), .val (.int (((p5.toUInt32 >>> ((7 : Int32) &&& 31).toUInt32).toInt32) &&& (7 : Int32))), .val (.int u.toInt32), .unset, .unset, .unset, .unset] [(.int (1 : Int32)), (.int u.toInt32)]))
        refine own_fwd (fun tt kt => XS.iadd X104.here hx rfl (hb hby at_67) rfl kt) ?_
        show own_R p.tables e below P (T104.setTop (mkF m 68 #[.val (.int p0), .val (.int p1), .val (.int p2), .val (.int p3), .val (.int p4), .val (.int p5), .val (.int (2 : Int32)), .val (.int n.toInt32), .val (.int (((p5.toUInt32 >>> ((4 : Int32) &&& 31).toUInt32).toInt32) &&& (7 : Int32))), .val (.int (((p5.toUInt32 >>> ((7 : Int32) &&& 31).toUInt32).toInt32) &&& (7 : Int32))), .val (.int u.toInt32), .unset, .unset, .unset, .unset] [(.int (u.toInt32 + (1 : Int32)))]))
        refine own_fwd (fun tt kt => XS.iload X104.here hx rfl (hb hby at_68) rfl kt) ?_
        show own_R p.tables e below P (T104.setTop (mkF m 70 #[.val (.int p0), .val (.int p1), .val (.int p2), .val (.int p3), .val (.int p4), .val (.int p5), .val (.int (2 : Int32)), .val (.int n.toInt32), .val (.int (((p5.toUInt32 >>> ((4 : Int32) &&& 31).toUInt32).toInt32) &&& (7 : Int32))), .val (.int (((p5.toUInt32 >>> ((7 : Int32) &&& 31).toUInt32).toInt32) &&& (7 : Int32))), .val (.int u.toInt32), .unset, .unset, .unset, .unset] [(.int (((p5.toUInt32 >>> ((7 : Int32) &&& 31).toUInt32).toInt32) &&& (7 : Int32))), (.int (u.toInt32 + (1 : Int32)))]))
        refine own_fwd (fun tt kt => XS.iload X104.here hx rfl (hb hby at_70) rfl kt) ?_
        show own_R p.tables e below P (T104.setTop (mkF m 72 #[.val (.int p0), .val (.int p1), .val (.int p2), .val (.int p3), .val (.int p4), .val (.int p5), .val (.int (2 : Int32)), .val (.int n.toInt32), .val (.int (((p5.toUInt32 >>> ((4 : Int32) &&& 31).toUInt32).toInt32) &&& (7 : Int32))), .val (.int (((p5.toUInt32 >>> ((7 : Int32) &&& 31).toUInt32).toInt32) &&& (7 : Int32))), .val (.int u.toInt32), .unset, .unset, .unset, .unset] [(.int n.toInt32), (.int (((p5.toUInt32 >>> ((7 : Int32) &&& 31).toUInt32).toInt32) &&& (7 : Int32))), (.int (u.toInt32 + (1 : Int32)))]))
        refine own_fwd (fun tt kt => XS.iconst X104.here hx rfl (hb hby at_72) kt) ?_
        show own_R p.tables e below P (T104.setTop (mkF m 73 #[.val (.int p0), .val (.int p1), .val (.int p2), .val (.int p3), .val (.int p4), .val (.int p5), .val (.int (2 : Int32)), .val (.int n.toInt32), .val (.int (((p5.toUInt32 >>> ((4 : Int32) &&& 31).toUInt32).toInt32) &&& (7 : Int32))), .val (.int (((p5.toUInt32 >>> ((7 : Int32) &&& 31).toUInt32).toInt32) &&& (7 : Int32))), .val (.int u.toInt32), .unset, .unset, .unset, .unset] [(.int (1 : Int32)), (.int n.toInt32), (.int (((p5.toUInt32 >>> ((7 : Int32) &&& 31).toUInt32).toInt32) &&& (7 : Int32))), (.int (u.toInt32 + (1 : Int32)))]))
        refine own_fwd (fun tt kt => XS.isub X104.here hx rfl (hb hby at_73) rfl kt) ?_
        show own_R p.tables e below P (T104.setTop (mkF m 74 #[.val (.int p0), .val (.int p1), .val (.int p2), .val (.int p3), .val (.int p4), .val (.int p5), .val (.int (2 : Int32)), .val (.int n.toInt32), .val (.int (((p5.toUInt32 >>> ((4 : Int32) &&& 31).toUInt32).toInt32) &&& (7 : Int32))), .val (.int (((p5.toUInt32 >>> ((7 : Int32) &&& 31).toUInt32).toInt32) &&& (7 : Int32))), .val (.int u.toInt32), .unset, .unset, .unset, .unset] [(.int (n.toInt32 - (1 : Int32))), (.int (((p5.toUInt32 >>> ((7 : Int32) &&& 31).toUInt32).toInt32) &&& (7 : Int32))), (.int (u.toInt32 + (1 : Int32)))]))
        refine own_fwd (fun tt kt => iremM X104 hx rfl (hb hby at_74) rfl (fun q => by have q1 := hc106; have q2 := c_isub n.toInt32 1; have q3 := own_i1; have q4 := own_i0; rw [Int32.lt_iff_toInt_lt] at q1; rw [q] at q2; omega) kt) ?_
        show own_R p.tables e below P (T104.setTop (mkF m 75 #[.val (.int p0), .val (.int p1), .val (.int p2), .val (.int p3), .val (.int p4), .val (.int p5), .val (.int (2 : Int32)), .val (.int n.toInt32), .val (.int (((p5.toUInt32 >>> ((4 : Int32) &&& 31).toUInt32).toInt32) &&& (7 : Int32))), .val (.int (((p5.toUInt32 >>> ((7 : Int32) &&& 31).toUInt32).toInt32) &&& (7 : Int32))), .val (.int u.toInt32), .unset, .unset, .unset, .unset] [(.int ((((p5.toUInt32 >>> ((7 : Int32) &&& 31).toUInt32).toInt32) &&& (7 : Int32)) % (n.toInt32 - (1 : Int32)))), (.int (u.toInt32 + (1 : Int32)))]))
        refine own_fwd (fun tt kt => XS.iadd X104.here hx rfl (hb hby at_75) rfl kt) ?_
        show own_R p.tables e below P (T104.setTop (mkF m 76 #[.val (.int p0), .val (.int p1), .val (.int p2), .val (.int p3), .val (.int p4), .val (.int p5), .val (.int (2 : Int32)), .val (.int n.toInt32), .val (.int (((p5.toUInt32 >>> ((4 : Int32) &&& 31).toUInt32).toInt32) &&& (7 : Int32))), .val (.int (((p5.toUInt32 >>> ((7 : Int32) &&& 31).toUInt32).toInt32) &&& (7 : Int32))), .val (.int u.toInt32), .unset, .unset, .unset, .unset] [(.int ((u.toInt32 + (1 : Int32)) + ((((p5.toUInt32 >>> ((7 : Int32) &&& 31).toUInt32).toInt32) &&& (7 : Int32)) % (n.toInt32 - (1 : Int32)))))]))
        refine own_fwd (fun tt kt => XS.iload X104.here hx rfl (hb hby at_76) rfl kt) ?_
        show own_R p.tables e below P (T104.setTop (mkF m 78 #[.val (.int p0), .val (.int p1), .val (.int p2), .val (.int p3), .val (.int p4), .val (.int p5), .val (.int (2 : Int32)), .val (.int n.toInt32), .val (.int (((p5.toUInt32 >>> ((4 : Int32) &&& 31).toUInt32).toInt32) &&& (7 : Int32))), .val (.int (((p5.toUInt32 >>> ((7 : Int32) &&& 31).toUInt32).toInt32) &&& (7 : Int32))), .val (.int u.toInt32), .unset, .unset, .unset, .unset] [(.int n.toInt32), (.int ((u.toInt32 + (1 : Int32)) + ((((p5.toUInt32 >>> ((7 : Int32) &&& 31).toUInt32).toInt32) &&& (7 : Int32)) % (n.toInt32 - (1 : Int32)))))]))
        refine own_fwd (fun tt kt => iremM X104 hx rfl (hb hby at_78) rfl (fun q => by have q1 := hc106; have q3 := own_i1; have q4 := own_i0; rw [Int32.lt_iff_toInt_lt, q] at q1; omega) kt) ?_
        show own_R p.tables e below P (T104.setTop (mkF m 79 #[.val (.int p0), .val (.int p1), .val (.int p2), .val (.int p3), .val (.int p4), .val (.int p5), .val (.int (2 : Int32)), .val (.int n.toInt32), .val (.int (((p5.toUInt32 >>> ((4 : Int32) &&& 31).toUInt32).toInt32) &&& (7 : Int32))), .val (.int (((p5.toUInt32 >>> ((7 : Int32) &&& 31).toUInt32).toInt32) &&& (7 : Int32))), .val (.int u.toInt32), .unset, .unset, .unset, .unset] [(.int (((u.toInt32 + (1 : Int32)) + ((((p5.toUInt32 >>> ((7 : Int32) &&& 31).toUInt32).toInt32) &&& (7 : Int32)) % (n.toInt32 - (1 : Int32)))) % n.toInt32))]))
        refine own_fwd (fun tt kt => XS.goto X104.here hx rfl (pc0 := 79) (pc' := 83) rfl (hb hby at_79) (by decide) (by decide) kt) ?_
        show own_R p.tables e below P (T104.setTop (mkF m 83 #[.val (.int p0), .val (.int p1), .val (.int p2), .val (.int p3), .val (.int p4), .val (.int p5), .val (.int (2 : Int32)), .val (.int n.toInt32), .val (.int (((p5.toUInt32 >>> ((4 : Int32) &&& 31).toUInt32).toInt32) &&& (7 : Int32))), .val (.int (((p5.toUInt32 >>> ((7 : Int32) &&& 31).toUInt32).toInt32) &&& (7 : Int32))), .val (.int u.toInt32), .unset, .unset, .unset, .unset] [(.int (((u.toInt32 + (1 : Int32)) + ((((p5.toUInt32 >>> ((7 : Int32) &&& 31).toUInt32).toInt32) &&& (7 : Int32)) % (n.toInt32 - (1 : Int32)))) % n.toInt32))]))
        exact k
      · simp only [if_neg hc106] at k
        refine own_fwd (fun tt kt => XS.icmpYes X104.here hx rfl (pc0 := 61) (pc' := 82) rfl (hb hby at_61) rfl (flt hc106).2.2.2 (by decide) (by decide) kt) ?_
        show own_R p.tables e below P (T104.setTop (mkF m 82 #[.val (.int p0), .val (.int p1), .val (.int p2), .val (.int p3), .val (.int p4), .val (.int p5), .val (.int (2 : Int32)), .val (.int n.toInt32), .val (.int (((p5.toUInt32 >>> ((4 : Int32) &&& 31).toUInt32).toInt32) &&& (7 : Int32))), .val (.int (((p5.toUInt32 >>> ((7 : Int32) &&& 31).toUInt32).toInt32) &&& (7 : Int32))), .val (.int u.toInt32), .unset, .unset, .unset, .unset] []))
        refine own_fwd (fun tt kt => XS.iconst X104.here hx rfl (hb hby at_82) kt) ?_
        show own_R p.tables e below P (T104.setTop (mkF m 83 #[.val (.int p0), .val (.int p1), .val (.int p2), .val (.int p3), .val (.int p4), .val (.int p5), .val (.int (2 : Int32)), .val (.int n.toInt32), .val (.int (((p5.toUInt32 >>> ((4 : Int32) &&& 31).toUInt32).toInt32) &&& (7 : Int32))), .val (.int (((p5.toUInt32 >>> ((7 : Int32) &&& 31).toUInt32).toInt32) &&& (7 : Int32))), .val (.int u.toInt32), .unset, .unset, .unset, .unset] [(.int (0 : Int32))]))
        exact k
    refine j106 P ?_
    show own_R p.tables e below P (T104.setTop (mkF m 83 #[.val (.int p0), .val (.int p1), .val (.int p2), .val (.int p3), .val (.int p4), .val (.int p5), .val (.int (2 : Int32)), .val (.int n.toInt32), .val (.int (((p5.toUInt32 >>> ((4 : Int32) &&& 31).toUInt32).toInt32) &&& (7 : Int32))), .val (.int (((p5.toUInt32 >>> ((7 : Int32) &&& 31).toUInt32).toInt32) &&& (7 : Int32))), .val (.int u.toInt32), .unset, .unset, .unset, .unset] [(.int (if (1 : Int32) < n.toInt32 then (((u.toInt32 + (1 : Int32)) + ((((p5.toUInt32 >>> ((7 : Int32) &&& 31).toUInt32).toInt32) &&& (7 : Int32)) % (n.toInt32 - (1 : Int32)))) % n.toInt32) else (0 : Int32)))]))
    obtain ⟨vv, hv, bv, cv⟩ := own_v n u bn bu ((p5.toUInt32 >>> ((7 : Int32) &&& 31).toUInt32).toInt32)
    rw [hv]
    show own_R p.tables e below P (T104.setTop (mkF m 83 #[.val (.int p0), .val (.int p1), .val (.int p2), .val (.int p3), .val (.int p4), .val (.int p5), .val (.int (2 : Int32)), .val (.int n.toInt32), .val (.int (((p5.toUInt32 >>> ((4 : Int32) &&& 31).toUInt32).toInt32) &&& (7 : Int32))), .val (.int (((p5.toUInt32 >>> ((7 : Int32) &&& 31).toUInt32).toInt32) &&& (7 : Int32))), .val (.int u.toInt32), .unset, .unset, .unset, .unset] [(.int vv.toInt32)]))
    have lv : vv.toInt32.toInt = (vv : Int) := len_toInt (by omega)
    refine own_fwd (fun tt kt => XS.istore X104.here hx rfl (hb hby at_83) rfl (l' := #[.val (.int p0), .val (.int p1), .val (.int p2), .val (.int p3), .val (.int p4), .val (.int p5), .val (.int (2 : Int32)), .val (.int n.toInt32), .val (.int (((p5.toUInt32 >>> ((4 : Int32) &&& 31).toUInt32).toInt32) &&& (7 : Int32))), .val (.int (((p5.toUInt32 >>> ((7 : Int32) &&& 31).toUInt32).toInt32) &&& (7 : Int32))), .val (.int u.toInt32), .val (.int vv.toInt32), .unset, .unset, .unset]) rfl kt) ?_
    show own_R p.tables e below P (T104.setTop (mkF m 85 #[.val (.int p0), .val (.int p1), .val (.int p2), .val (.int p3), .val (.int p4), .val (.int p5), .val (.int (2 : Int32)), .val (.int n.toInt32), .val (.int (((p5.toUInt32 >>> ((4 : Int32) &&& 31).toUInt32).toInt32) &&& (7 : Int32))), .val (.int (((p5.toUInt32 >>> ((7 : Int32) &&& 31).toUInt32).toInt32) &&& (7 : Int32))), .val (.int u.toInt32), .val (.int vv.toInt32), .unset, .unset, .unset] []))
    refine own_fwd (fun tt kt => XS.iload X104.here hx rfl (hb hby at_85) rfl kt) ?_
    show own_R p.tables e below P (T104.setTop (mkF m 87 #[.val (.int p0), .val (.int p1), .val (.int p2), .val (.int p3), .val (.int p4), .val (.int p5), .val (.int (2 : Int32)), .val (.int n.toInt32), .val (.int (((p5.toUInt32 >>> ((4 : Int32) &&& 31).toUInt32).toInt32) &&& (7 : Int32))), .val (.int (((p5.toUInt32 >>> ((7 : Int32) &&& 31).toUInt32).toInt32) &&& (7 : Int32))), .val (.int u.toInt32), .val (.int vv.toInt32), .unset, .unset, .unset] [(.int (2 : Int32))]))
    have hc107 : ¬ ((2 : Int32) = (0 : Int32)) := (by decide)
    refine own_fwd (fun tt kt => XS.ifYes X104.here hx rfl (pc0 := 87) (pc' := 107) rfl (hb hby at_87) rfl ((if0 _ _).trans (feq hc107).2) (by decide) (by decide) kt) ?_
    show own_R p.tables e below P (T104.setTop (mkF m 107 #[.val (.int p0), .val (.int p1), .val (.int p2), .val (.int p3), .val (.int p4), .val (.int p5), .val (.int (2 : Int32)), .val (.int n.toInt32), .val (.int (((p5.toUInt32 >>> ((4 : Int32) &&& 31).toUInt32).toInt32) &&& (7 : Int32))), .val (.int (((p5.toUInt32 >>> ((7 : Int32) &&& 31).toUInt32).toInt32) &&& (7 : Int32))), .val (.int u.toInt32), .val (.int vv.toInt32), .unset, .unset, .unset] []))
    refine own_fwd (fun tt kt => XS.iload X104.here hx rfl (hb hby at_107) rfl kt) ?_
    show own_R p.tables e below P (T104.setTop (mkF m 109 #[.val (.int p0), .val (.int p1), .val (.int p2), .val (.int p3), .val (.int p4), .val (.int p5), .val (.int (2 : Int32)), .val (.int n.toInt32), .val (.int (((p5.toUInt32 >>> ((4 : Int32) &&& 31).toUInt32).toInt32) &&& (7 : Int32))), .val (.int (((p5.toUInt32 >>> ((7 : Int32) &&& 31).toUInt32).toInt32) &&& (7 : Int32))), .val (.int u.toInt32), .val (.int vv.toInt32), .unset, .unset, .unset] [(.int (2 : Int32))]))
    refine own_fwd (fun tt kt => XS.iconst X104.here hx rfl (hb hby at_109) kt) ?_
    show own_R p.tables e below P (T104.setTop (mkF m 110 #[.val (.int p0), .val (.int p1), .val (.int p2), .val (.int p3), .val (.int p4), .val (.int p5), .val (.int (2 : Int32)), .val (.int n.toInt32), .val (.int (((p5.toUInt32 >>> ((4 : Int32) &&& 31).toUInt32).toInt32) &&& (7 : Int32))), .val (.int (((p5.toUInt32 >>> ((7 : Int32) &&& 31).toUInt32).toInt32) &&& (7 : Int32))), .val (.int u.toInt32), .val (.int vv.toInt32), .unset, .unset, .unset] [(.int (1 : Int32)), (.int (2 : Int32))]))
    have hc108 : ¬ ((2 : Int32) = (1 : Int32)) := (by decide)
    refine own_fwd (fun tt kt => XS.icmpYes X104.here hx rfl (pc0 := 110) (pc' := 143) rfl (hb hby at_110) rfl (feq hc108).2 (by decide) (by decide) kt) ?_
    show own_R p.tables e below P (T104.setTop (mkF m 143 #[.val (.int p0), .val (.int p1), .val (.int p2), .val (.int p3), .val (.int p4), .val (.int p5), .val (.int (2 : Int32)), .val (.int n.toInt32), .val (.int (((p5.toUInt32 >>> ((4 : Int32) &&& 31).toUInt32).toInt32) &&& (7 : Int32))), .val (.int (((p5.toUInt32 >>> ((7 : Int32) &&& 31).toUInt32).toInt32) &&& (7 : Int32))), .val (.int u.toInt32), .val (.int vv.toInt32), .unset, .unset, .unset] []))
    refine own_fwd (fun tt kt => XS.iconst X104.here hx rfl (hb hby at_143) kt) ?_
    show own_R p.tables e below P (T104.setTop (mkF m 144 #[.val (.int p0), .val (.int p1), .val (.int p2), .val (.int p3), .val (.int p4), .val (.int p5), .val (.int (2 : Int32)), .val (.int n.toInt32), .val (.int (((p5.toUInt32 >>> ((4 : Int32) &&& 31).toUInt32).toInt32) &&& (7 : Int32))), .val (.int (((p5.toUInt32 >>> ((7 : Int32) &&& 31).toUInt32).toInt32) &&& (7 : Int32))), .val (.int u.toInt32), .val (.int vv.toInt32), .unset, .unset, .unset] [(.int (5 : Int32))]))
    obtain ⟨T109, h109, b109, g109, X109, e109, E109, A109, B109, st109⟩ := own_newA (n := 5) X104 hx hZ (hw _ (List.mem_of_getElem? (i := 4) rfl)) e104 (z := (5 : Int32)) (by decide) (cap := 5) (by decide) (g := (mkF m 144 #[.val (.int p0), .val (.int p1), .val (.int p2), .val (.int p3), .val (.int p4), .val (.int p5), .val (.int (2 : Int32)), .val (.int n.toInt32), .val (.int (((p5.toUInt32 >>> ((4 : Int32) &&& 31).toUInt32).toInt32) &&& (7 : Int32))), .val (.int (((p5.toUInt32 >>> ((7 : Int32) &&& 31).toUInt32).toInt32) &&& (7 : Int32))), .val (.int u.toInt32), .val (.int vv.toInt32), .unset, .unset, .unset] [(.int (5 : Int32))])) rfl (hb hby at_144) rfl (by decide) (by decide) (by decide) (ad := "[I") (by decide)
    have ge_b109 : n0 ≤ b109 := by rw [g109]; exact Z0
    have sz_b109 : h0.size ≤ b109 := by rw [g109]; exact (Nat.le_refl h0.size)
    have A109_ : own_AI Z h109 b109 .int 5 (fun _ => (0 : Int32)) := A109
    have Z109 : n0 ≤ h109.size := Nat.le_trans Z0 E109.1
    have Y109 : h0.size ≤ h109.size := Nat.le_trans (Nat.le_refl h0.size) E109.1
    refine own_fwd st109 ?_
    show own_R p.tables e below P (T109.setTop (mkF m 146 #[.val (.int p0), .val (.int p1), .val (.int p2), .val (.int p3), .val (.int p4), .val (.int p5), .val (.int (2 : Int32)), .val (.int n.toInt32), .val (.int (((p5.toUInt32 >>> ((4 : Int32) &&& 31).toUInt32).toInt32) &&& (7 : Int32))), .val (.int (((p5.toUInt32 >>> ((7 : Int32) &&& 31).toUInt32).toInt32) &&& (7 : Int32))), .val (.int u.toInt32), .val (.int vv.toInt32), .unset, .unset, .unset] [(.ref b109)]))
    refine own_fwd (fun tt kt => XS.dup X109.here hx rfl (hb hby at_146) rfl rfl kt) ?_
    show own_R p.tables e below P (T109.setTop (mkF m 147 #[.val (.int p0), .val (.int p1), .val (.int p2), .val (.int p3), .val (.int p4), .val (.int p5), .val (.int (2 : Int32)), .val (.int n.toInt32), .val (.int (((p5.toUInt32 >>> ((4 : Int32) &&& 31).toUInt32).toInt32) &&& (7 : Int32))), .val (.int (((p5.toUInt32 >>> ((7 : Int32) &&& 31).toUInt32).toInt32) &&& (7 : Int32))), .val (.int u.toInt32), .val (.int vv.toInt32), .unset, .unset, .unset] [(.ref b109), (.ref b109)]))
    refine own_fwd (fun tt kt => XS.iconst X109.here hx rfl (hb hby at_147) kt) ?_
    show own_R p.tables e below P (T109.setTop (mkF m 148 #[.val (.int p0), .val (.int p1), .val (.int p2), .val (.int p3), .val (.int p4), .val (.int p5), .val (.int (2 : Int32)), .val (.int n.toInt32), .val (.int (((p5.toUInt32 >>> ((4 : Int32) &&& 31).toUInt32).toInt32) &&& (7 : Int32))), .val (.int (((p5.toUInt32 >>> ((7 : Int32) &&& 31).toUInt32).toInt32) &&& (7 : Int32))), .val (.int u.toInt32), .val (.int vv.toInt32), .unset, .unset, .unset] [(.int (0 : Int32)), (.ref b109), (.ref b109)]))
    refine own_fwd (fun tt kt => XS.iloadN X109.here hx rfl (hb hby at_148) rfl kt) ?_
    show own_R p.tables e below P (T109.setTop (mkF m 149 #[.val (.int p0), .val (.int p1), .val (.int p2), .val (.int p3), .val (.int p4), .val (.int p5), .val (.int (2 : Int32)), .val (.int n.toInt32), .val (.int (((p5.toUInt32 >>> ((4 : Int32) &&& 31).toUInt32).toInt32) &&& (7 : Int32))), .val (.int (((p5.toUInt32 >>> ((7 : Int32) &&& 31).toUInt32).toInt32) &&& (7 : Int32))), .val (.int u.toInt32), .val (.int vv.toInt32), .unset, .unset, .unset] [(.int p0), (.int (0 : Int32)), (.ref b109), (.ref b109)]))
    obtain ⟨T110, h110, X110, e110, W110, A110_, st110⟩ := own_stI X109 hx hZ e109 A109_ (j := (0 : Int32)) 0 (by decide) (by decide) (g := (mkF m 149 #[.val (.int p0), .val (.int p1), .val (.int p2), .val (.int p3), .val (.int p4), .val (.int p5), .val (.int (2 : Int32)), .val (.int n.toInt32), .val (.int (((p5.toUInt32 >>> ((4 : Int32) &&& 31).toUInt32).toInt32) &&& (7 : Int32))), .val (.int (((p5.toUInt32 >>> ((7 : Int32) &&& 31).toUInt32).toInt32) &&& (7 : Int32))), .val (.int u.toInt32), .val (.int vv.toInt32), .unset, .unset, .unset] [(.int p0), (.int (0 : Int32)), (.ref b109), (.ref b109)])) rfl rfl (hb hby at_149)
    have B109_x110 := B109.wr W110
    have N110 := Fr.snoc X110 N104 ge_b109
    have Z110 : n0 ≤ h110.size := by rw [W110.size]; exact Z109
    have Y110 : h0.size ≤ h110.size := by rw [W110.size]; exact Y109
    refine own_fwd st110 ?_
    show own_R p.tables e below P (T110.setTop (mkF m 150 #[.val (.int p0), .val (.int p1), .val (.int p2), .val (.int p3), .val (.int p4), .val (.int p5), .val (.int (2 : Int32)), .val (.int n.toInt32), .val (.int (((p5.toUInt32 >>> ((4 : Int32) &&& 31).toUInt32).toInt32) &&& (7 : Int32))), .val (.int (((p5.toUInt32 >>> ((7 : Int32) &&& 31).toUInt32).toInt32) &&& (7 : Int32))), .val (.int u.toInt32), .val (.int vv.toInt32), .unset, .unset, .unset] [(.ref b109)]))
    refine own_fwd (fun tt kt => XS.dup X110.here hx rfl (hb hby at_150) rfl rfl kt) ?_
    show own_R p.tables e below P (T110.setTop (mkF m 151 #[.val (.int p0), .val (.int p1), .val (.int p2), .val (.int p3), .val (.int p4), .val (.int p5), .val (.int (2 : Int32)), .val (.int n.toInt32), .val (.int (((p5.toUInt32 >>> ((4 : Int32) &&& 31).toUInt32).toInt32) &&& (7 : Int32))), .val (.int (((p5.toUInt32 >>> ((7 : Int32) &&& 31).toUInt32).toInt32) &&& (7 : Int32))), .val (.int u.toInt32), .val (.int vv.toInt32), .unset, .unset, .unset] [(.ref b109), (.ref b109)]))
    refine own_fwd (fun tt kt => XS.iconst X110.here hx rfl (hb hby at_151) kt) ?_
    show own_R p.tables e below P (T110.setTop (mkF m 152 #[.val (.int p0), .val (.int p1), .val (.int p2), .val (.int p3), .val (.int p4), .val (.int p5), .val (.int (2 : Int32)), .val (.int n.toInt32), .val (.int (((p5.toUInt32 >>> ((4 : Int32) &&& 31).toUInt32).toInt32) &&& (7 : Int32))), .val (.int (((p5.toUInt32 >>> ((7 : Int32) &&& 31).toUInt32).toInt32) &&& (7 : Int32))), .val (.int u.toInt32), .val (.int vv.toInt32), .unset, .unset, .unset] [(.int (1 : Int32)), (.ref b109), (.ref b109)]))
    refine own_fwd (fun tt kt => XS.iloadN X110.here hx rfl (hb hby at_152) rfl kt) ?_
    show own_R p.tables e below P (T110.setTop (mkF m 153 #[.val (.int p0), .val (.int p1), .val (.int p2), .val (.int p3), .val (.int p4), .val (.int p5), .val (.int (2 : Int32)), .val (.int n.toInt32), .val (.int (((p5.toUInt32 >>> ((4 : Int32) &&& 31).toUInt32).toInt32) &&& (7 : Int32))), .val (.int (((p5.toUInt32 >>> ((7 : Int32) &&& 31).toUInt32).toInt32) &&& (7 : Int32))), .val (.int u.toInt32), .val (.int vv.toInt32), .unset, .unset, .unset] [(.int p1), (.int (1 : Int32)), (.ref b109), (.ref b109)]))
    obtain ⟨T111, h111, X111, e111, W111, A111_, st111⟩ := own_stI X110 hx hZ e110 A110_ (j := (1 : Int32)) 1 (by decide) (by decide) (g := (mkF m 153 #[.val (.int p0), .val (.int p1), .val (.int p2), .val (.int p3), .val (.int p4), .val (.int p5), .val (.int (2 : Int32)), .val (.int n.toInt32), .val (.int (((p5.toUInt32 >>> ((4 : Int32) &&& 31).toUInt32).toInt32) &&& (7 : Int32))), .val (.int (((p5.toUInt32 >>> ((7 : Int32) &&& 31).toUInt32).toInt32) &&& (7 : Int32))), .val (.int u.toInt32), .val (.int vv.toInt32), .unset, .unset, .unset] [(.int p1), (.int (1 : Int32)), (.ref b109), (.ref b109)])) rfl rfl (hb hby at_153)
    have B109_x111 := B109_x110.wr W111
    have N111 := Fr.snoc X111 N110 ge_b109
    have Z111 : n0 ≤ h111.size := by rw [W111.size]; exact Z110
    have Y111 : h0.size ≤ h111.size := by rw [W111.size]; exact Y110
    refine own_fwd st111 ?_
    show own_R p.tables e below P (T111.setTop (mkF m 154 #[.val (.int p0), .val (.int p1), .val (.int p2), .val (.int p3), .val (.int p4), .val (.int p5), .val (.int (2 : Int32)), .val (.int n.toInt32), .val (.int (((p5.toUInt32 >>> ((4 : Int32) &&& 31).toUInt32).toInt32) &&& (7 : Int32))), .val (.int (((p5.toUInt32 >>> ((7 : Int32) &&& 31).toUInt32).toInt32) &&& (7 : Int32))), .val (.int u.toInt32), .val (.int vv.toInt32), .unset, .unset, .unset] [(.ref b109)]))
    refine own_fwd (fun tt kt => XS.dup X111.here hx rfl (hb hby at_154) rfl rfl kt) ?_
    show own_R p.tables e below P (T111.setTop (mkF m 155 #[.val (.int p0), .val (.int p1), .val (.int p2), .val (.int p3), .val (.int p4), .val (.int p5), .val (.int (2 : Int32)), .val (.int n.toInt32), .val (.int (((p5.toUInt32 >>> ((4 : Int32) &&& 31).toUInt32).toInt32) &&& (7 : Int32))), .val (.int (((p5.toUInt32 >>> ((7 : Int32) &&& 31).toUInt32).toInt32) &&& (7 : Int32))), .val (.int u.toInt32), .val (.int vv.toInt32), .unset, .unset, .unset] [(.ref b109), (.ref b109)]))
    refine own_fwd (fun tt kt => XS.iconst X111.here hx rfl (hb hby at_155) kt) ?_
    show own_R p.tables e below P (T111.setTop (mkF m 156 #[.val (.int p0), .val (.int p1), .val (.int p2), .val (.int p3), .val (.int p4), .val (.int p5), .val (.int (2 : Int32)), .val (.int n.toInt32), .val (.int (((p5.toUInt32 >>> ((4 : Int32) &&& 31).toUInt32).toInt32) &&& (7 : Int32))), .val (.int (((p5.toUInt32 >>> ((7 : Int32) &&& 31).toUInt32).toInt32) &&& (7 : Int32))), .val (.int u.toInt32), .val (.int vv.toInt32), .unset, .unset, .unset] [(.int (2 : Int32)), (.ref b109), (.ref b109)]))
    refine own_fwd (fun tt kt => XS.iloadN X111.here hx rfl (hb hby at_156) rfl kt) ?_
    show own_R p.tables e below P (T111.setTop (mkF m 157 #[.val (.int p0), .val (.int p1), .val (.int p2), .val (.int p3), .val (.int p4), .val (.int p5), .val (.int (2 : Int32)), .val (.int n.toInt32), .val (.int (((p5.toUInt32 >>> ((4 : Int32) &&& 31).toUInt32).toInt32) &&& (7 : Int32))), .val (.int (((p5.toUInt32 >>> ((7 : Int32) &&& 31).toUInt32).toInt32) &&& (7 : Int32))), .val (.int u.toInt32), .val (.int vv.toInt32), .unset, .unset, .unset] [(.int p2), (.int (2 : Int32)), (.ref b109), (.ref b109)]))
    obtain ⟨T112, h112, X112, e112, W112, A112_, st112⟩ := own_stI X111 hx hZ e111 A111_ (j := (2 : Int32)) 2 (by decide) (by decide) (g := (mkF m 157 #[.val (.int p0), .val (.int p1), .val (.int p2), .val (.int p3), .val (.int p4), .val (.int p5), .val (.int (2 : Int32)), .val (.int n.toInt32), .val (.int (((p5.toUInt32 >>> ((4 : Int32) &&& 31).toUInt32).toInt32) &&& (7 : Int32))), .val (.int (((p5.toUInt32 >>> ((7 : Int32) &&& 31).toUInt32).toInt32) &&& (7 : Int32))), .val (.int u.toInt32), .val (.int vv.toInt32), .unset, .unset, .unset] [(.int p2), (.int (2 : Int32)), (.ref b109), (.ref b109)])) rfl rfl (hb hby at_157)
    have B109_x112 := B109_x111.wr W112
    have N112 := Fr.snoc X112 N111 ge_b109
    have Z112 : n0 ≤ h112.size := by rw [W112.size]; exact Z111
    have Y112 : h0.size ≤ h112.size := by rw [W112.size]; exact Y111
    refine own_fwd st112 ?_
    show own_R p.tables e below P (T112.setTop (mkF m 158 #[.val (.int p0), .val (.int p1), .val (.int p2), .val (.int p3), .val (.int p4), .val (.int p5), .val (.int (2 : Int32)), .val (.int n.toInt32), .val (.int (((p5.toUInt32 >>> ((4 : Int32) &&& 31).toUInt32).toInt32) &&& (7 : Int32))), .val (.int (((p5.toUInt32 >>> ((7 : Int32) &&& 31).toUInt32).toInt32) &&& (7 : Int32))), .val (.int u.toInt32), .val (.int vv.toInt32), .unset, .unset, .unset] [(.ref b109)]))
    refine own_fwd (fun tt kt => XS.dup X112.here hx rfl (hb hby at_158) rfl rfl kt) ?_
    show own_R p.tables e below P (T112.setTop (mkF m 159 #[.val (.int p0), .val (.int p1), .val (.int p2), .val (.int p3), .val (.int p4), .val (.int p5), .val (.int (2 : Int32)), .val (.int n.toInt32), .val (.int (((p5.toUInt32 >>> ((4 : Int32) &&& 31).toUInt32).toInt32) &&& (7 : Int32))), .val (.int (((p5.toUInt32 >>> ((7 : Int32) &&& 31).toUInt32).toInt32) &&& (7 : Int32))), .val (.int u.toInt32), .val (.int vv.toInt32), .unset, .unset, .unset] [(.ref b109), (.ref b109)]))
    refine own_fwd (fun tt kt => XS.iconst X112.here hx rfl (hb hby at_159) kt) ?_
    show own_R p.tables e below P (T112.setTop (mkF m 160 #[.val (.int p0), .val (.int p1), .val (.int p2), .val (.int p3), .val (.int p4), .val (.int p5), .val (.int (2 : Int32)), .val (.int n.toInt32), .val (.int (((p5.toUInt32 >>> ((4 : Int32) &&& 31).toUInt32).toInt32) &&& (7 : Int32))), .val (.int (((p5.toUInt32 >>> ((7 : Int32) &&& 31).toUInt32).toInt32) &&& (7 : Int32))), .val (.int u.toInt32), .val (.int vv.toInt32), .unset, .unset, .unset] [(.int (3 : Int32)), (.ref b109), (.ref b109)]))
    refine own_fwd (fun tt kt => XS.iloadN X112.here hx rfl (hb hby at_160) rfl kt) ?_
    show own_R p.tables e below P (T112.setTop (mkF m 161 #[.val (.int p0), .val (.int p1), .val (.int p2), .val (.int p3), .val (.int p4), .val (.int p5), .val (.int (2 : Int32)), .val (.int n.toInt32), .val (.int (((p5.toUInt32 >>> ((4 : Int32) &&& 31).toUInt32).toInt32) &&& (7 : Int32))), .val (.int (((p5.toUInt32 >>> ((7 : Int32) &&& 31).toUInt32).toInt32) &&& (7 : Int32))), .val (.int u.toInt32), .val (.int vv.toInt32), .unset, .unset, .unset] [(.int p3), (.int (3 : Int32)), (.ref b109), (.ref b109)]))
    obtain ⟨T113, h113, X113, e113, W113, A113_, st113⟩ := own_stI X112 hx hZ e112 A112_ (j := (3 : Int32)) 3 (by decide) (by decide) (g := (mkF m 161 #[.val (.int p0), .val (.int p1), .val (.int p2), .val (.int p3), .val (.int p4), .val (.int p5), .val (.int (2 : Int32)), .val (.int n.toInt32), .val (.int (((p5.toUInt32 >>> ((4 : Int32) &&& 31).toUInt32).toInt32) &&& (7 : Int32))), .val (.int (((p5.toUInt32 >>> ((7 : Int32) &&& 31).toUInt32).toInt32) &&& (7 : Int32))), .val (.int u.toInt32), .val (.int vv.toInt32), .unset, .unset, .unset] [(.int p3), (.int (3 : Int32)), (.ref b109), (.ref b109)])) rfl rfl (hb hby at_161)
    have B109_x113 := B109_x112.wr W113
    have N113 := Fr.snoc X113 N112 ge_b109
    have Z113 : n0 ≤ h113.size := by rw [W113.size]; exact Z112
    have Y113 : h0.size ≤ h113.size := by rw [W113.size]; exact Y112
    refine own_fwd st113 ?_
    show own_R p.tables e below P (T113.setTop (mkF m 162 #[.val (.int p0), .val (.int p1), .val (.int p2), .val (.int p3), .val (.int p4), .val (.int p5), .val (.int (2 : Int32)), .val (.int n.toInt32), .val (.int (((p5.toUInt32 >>> ((4 : Int32) &&& 31).toUInt32).toInt32) &&& (7 : Int32))), .val (.int (((p5.toUInt32 >>> ((7 : Int32) &&& 31).toUInt32).toInt32) &&& (7 : Int32))), .val (.int u.toInt32), .val (.int vv.toInt32), .unset, .unset, .unset] [(.ref b109)]))
    refine own_fwd (fun tt kt => XS.dup X113.here hx rfl (hb hby at_162) rfl rfl kt) ?_
    show own_R p.tables e below P (T113.setTop (mkF m 163 #[.val (.int p0), .val (.int p1), .val (.int p2), .val (.int p3), .val (.int p4), .val (.int p5), .val (.int (2 : Int32)), .val (.int n.toInt32), .val (.int (((p5.toUInt32 >>> ((4 : Int32) &&& 31).toUInt32).toInt32) &&& (7 : Int32))), .val (.int (((p5.toUInt32 >>> ((7 : Int32) &&& 31).toUInt32).toInt32) &&& (7 : Int32))), .val (.int u.toInt32), .val (.int vv.toInt32), .unset, .unset, .unset] [(.ref b109), (.ref b109)]))
    refine own_fwd (fun tt kt => XS.iconst X113.here hx rfl (hb hby at_163) kt) ?_
    show own_R p.tables e below P (T113.setTop (mkF m 164 #[.val (.int p0), .val (.int p1), .val (.int p2), .val (.int p3), .val (.int p4), .val (.int p5), .val (.int (2 : Int32)), .val (.int n.toInt32), .val (.int (((p5.toUInt32 >>> ((4 : Int32) &&& 31).toUInt32).toInt32) &&& (7 : Int32))), .val (.int (((p5.toUInt32 >>> ((7 : Int32) &&& 31).toUInt32).toInt32) &&& (7 : Int32))), .val (.int u.toInt32), .val (.int vv.toInt32), .unset, .unset, .unset] [(.int (4 : Int32)), (.ref b109), (.ref b109)]))
    refine own_fwd (fun tt kt => XS.iload X113.here hx rfl (hb hby at_164) rfl kt) ?_
    show own_R p.tables e below P (T113.setTop (mkF m 166 #[.val (.int p0), .val (.int p1), .val (.int p2), .val (.int p3), .val (.int p4), .val (.int p5), .val (.int (2 : Int32)), .val (.int n.toInt32), .val (.int (((p5.toUInt32 >>> ((4 : Int32) &&& 31).toUInt32).toInt32) &&& (7 : Int32))), .val (.int (((p5.toUInt32 >>> ((7 : Int32) &&& 31).toUInt32).toInt32) &&& (7 : Int32))), .val (.int u.toInt32), .val (.int vv.toInt32), .unset, .unset, .unset] [(.int p4), (.int (4 : Int32)), (.ref b109), (.ref b109)]))
    obtain ⟨T114, h114, X114, e114, W114, A114_, st114⟩ := own_stI X113 hx hZ e113 A113_ (j := (4 : Int32)) 4 (by decide) (by decide) (g := (mkF m 166 #[.val (.int p0), .val (.int p1), .val (.int p2), .val (.int p3), .val (.int p4), .val (.int p5), .val (.int (2 : Int32)), .val (.int n.toInt32), .val (.int (((p5.toUInt32 >>> ((4 : Int32) &&& 31).toUInt32).toInt32) &&& (7 : Int32))), .val (.int (((p5.toUInt32 >>> ((7 : Int32) &&& 31).toUInt32).toInt32) &&& (7 : Int32))), .val (.int u.toInt32), .val (.int vv.toInt32), .unset, .unset, .unset] [(.int p4), (.int (4 : Int32)), (.ref b109), (.ref b109)])) rfl rfl (hb hby at_166)
    have B109_x114 := B109_x113.wr W114
    have N114 := Fr.snoc X114 N113 ge_b109
    have Z114 : n0 ≤ h114.size := by rw [W114.size]; exact Z113
    have Y114 : h0.size ≤ h114.size := by rw [W114.size]; exact Y113
    refine own_fwd st114 ?_
    show own_R p.tables e below P (T114.setTop (mkF m 167 #[.val (.int p0), .val (.int p1), .val (.int p2), .val (.int p3), .val (.int p4), .val (.int p5), .val (.int (2 : Int32)), .val (.int n.toInt32), .val (.int (((p5.toUInt32 >>> ((4 : Int32) &&& 31).toUInt32).toInt32) &&& (7 : Int32))), .val (.int (((p5.toUInt32 >>> ((7 : Int32) &&& 31).toUInt32).toInt32) &&& (7 : Int32))), .val (.int u.toInt32), .val (.int vv.toInt32), .unset, .unset, .unset] [(.ref b109)]))
    refine own_fwd (fun tt kt => XS.astore X114.here hx rfl (hb hby at_167) rfl rfl (l' := #[.val (.int p0), .val (.int p1), .val (.int p2), .val (.int p3), .val (.int p4), .val (.int p5), .val (.int (2 : Int32)), .val (.int n.toInt32), .val (.int (((p5.toUInt32 >>> ((4 : Int32) &&& 31).toUInt32).toInt32) &&& (7 : Int32))), .val (.int (((p5.toUInt32 >>> ((7 : Int32) &&& 31).toUInt32).toInt32) &&& (7 : Int32))), .val (.int u.toInt32), .val (.int vv.toInt32), .val (.ref b109), .unset, .unset]) rfl kt) ?_
    show own_R p.tables e below P (T114.setTop (mkF m 169 #[.val (.int p0), .val (.int p1), .val (.int p2), .val (.int p3), .val (.int p4), .val (.int p5), .val (.int (2 : Int32)), .val (.int n.toInt32), .val (.int (((p5.toUInt32 >>> ((4 : Int32) &&& 31).toUInt32).toInt32) &&& (7 : Int32))), .val (.int (((p5.toUInt32 >>> ((7 : Int32) &&& 31).toUInt32).toInt32) &&& (7 : Int32))), .val (.int u.toInt32), .val (.int vv.toInt32), .val (.ref b109), .unset, .unset] []))
    refine own_fwd (fun tt kt => XS.iconst X114.here hx rfl (hb hby at_169) kt) ?_
    show own_R p.tables e below P (T114.setTop (mkF m 170 #[.val (.int p0), .val (.int p1), .val (.int p2), .val (.int p3), .val (.int p4), .val (.int p5), .val (.int (2 : Int32)), .val (.int n.toInt32), .val (.int (((p5.toUInt32 >>> ((4 : Int32) &&& 31).toUInt32).toInt32) &&& (7 : Int32))), .val (.int (((p5.toUInt32 >>> ((7 : Int32) &&& 31).toUInt32).toInt32) &&& (7 : Int32))), .val (.int u.toInt32), .val (.int vv.toInt32), .val (.ref b109), .unset, .unset] [(.int (2 : Int32))]))
    obtain ⟨T115, h115, b115, g115, X115, e115, E115, A115, B115, st115⟩ := own_newA (n := 2) X114 hx hZ (hw _ (List.mem_of_getElem? (i := 4) rfl)) e114 (z := (2 : Int32)) (by decide) (cap := 2) (by decide) (g := (mkF m 170 #[.val (.int p0), .val (.int p1), .val (.int p2), .val (.int p3), .val (.int p4), .val (.int p5), .val (.int (2 : Int32)), .val (.int n.toInt32), .val (.int (((p5.toUInt32 >>> ((4 : Int32) &&& 31).toUInt32).toInt32) &&& (7 : Int32))), .val (.int (((p5.toUInt32 >>> ((7 : Int32) &&& 31).toUInt32).toInt32) &&& (7 : Int32))), .val (.int u.toInt32), .val (.int vv.toInt32), .val (.ref b109), .unset, .unset] [(.int (2 : Int32))])) rfl (hb hby at_170) rfl (by decide) (by decide) (by decide) (ad := "[I") (by decide)
    have ne115_b109 : b109 ≠ b115 := Nat.ne_of_lt (by rw [g115]; exact A114_.lt)
    have ge_b115 : n0 ≤ b115 := by rw [g115]; exact Z114
    have sz_b115 : h0.size ≤ b115 := by rw [g115]; exact Y114
    have A114__x115 := A114_.ext E115
    have B109_x115 := B109_x114.ext E115
    have A115_ : own_AI Z h115 b115 .int 2 (fun _ => (0 : Int32)) := A115
    have Z115 : n0 ≤ h115.size := Nat.le_trans Z114 E115.1
    have Y115 : h0.size ≤ h115.size := Nat.le_trans Y114 E115.1
    refine own_fwd st115 ?_
    show own_R p.tables e below P (T115.setTop (mkF m 172 #[.val (.int p0), .val (.int p1), .val (.int p2), .val (.int p3), .val (.int p4), .val (.int p5), .val (.int (2 : Int32)), .val (.int n.toInt32), .val (.int (((p5.toUInt32 >>> ((4 : Int32) &&& 31).toUInt32).toInt32) &&& (7 : Int32))), .val (.int (((p5.toUInt32 >>> ((7 : Int32) &&& 31).toUInt32).toInt32) &&& (7 : Int32))), .val (.int u.toInt32), .val (.int vv.toInt32), .val (.ref b109), .unset, .unset] [(.ref b115)]))
    refine own_fwd (fun tt kt => XS.dup X115.here hx rfl (hb hby at_172) rfl rfl kt) ?_
    show own_R p.tables e below P (T115.setTop (mkF m 173 #[.val (.int p0), .val (.int p1), .val (.int p2), .val (.int p3), .val (.int p4), .val (.int p5), .val (.int (2 : Int32)), .val (.int n.toInt32), .val (.int (((p5.toUInt32 >>> ((4 : Int32) &&& 31).toUInt32).toInt32) &&& (7 : Int32))), .val (.int (((p5.toUInt32 >>> ((7 : Int32) &&& 31).toUInt32).toInt32) &&& (7 : Int32))), .val (.int u.toInt32), .val (.int vv.toInt32), .val (.ref b109), .unset, .unset] [(.ref b115), (.ref b115)]))
    refine own_fwd (fun tt kt => XS.iconst X115.here hx rfl (hb hby at_173) kt) ?_
    show own_R p.tables e below P (T115.setTop (mkF m 174 #[.val (.int p0), .val (.int p1), .val (.int p2), .val (.int p3), .val (.int p4), .val (.int p5), .val (.int (2 : Int32)), .val (.int n.toInt32), .val (.int (((p5.toUInt32 >>> ((4 : Int32) &&& 31).toUInt32).toInt32) &&& (7 : Int32))), .val (.int (((p5.toUInt32 >>> ((7 : Int32) &&& 31).toUInt32).toInt32) &&& (7 : Int32))), .val (.int u.toInt32), .val (.int vv.toInt32), .val (.ref b109), .unset, .unset] [(.int (0 : Int32)), (.ref b115), (.ref b115)]))
    refine own_fwd (fun tt kt => XS.iload X115.here hx rfl (hb hby at_174) rfl kt) ?_
    show own_R p.tables e below P (T115.setTop (mkF m 176 #[.val (.int p0), .val (.int p1), .val (.int p2), .val (.int p3), .val (.int p4), .val (.int p5), .val (.int (2 : Int32)), .val (.int n.toInt32), .val (.int (((p5.toUInt32 >>> ((4 : Int32) &&& 31).toUInt32).toInt32) &&& (7 : Int32))), .val (.int (((p5.toUInt32 >>> ((7 : Int32) &&& 31).toUInt32).toInt32) &&& (7 : Int32))), .val (.int u.toInt32), .val (.int vv.toInt32), .val (.ref b109), .unset, .unset] [(.int u.toInt32), (.int (0 : Int32)), (.ref b115), (.ref b115)]))
    obtain ⟨T116, h116, X116, e116, W116, A116_, st116⟩ := own_stI X115 hx hZ e115 A115_ (j := (0 : Int32)) 0 (by decide) (by decide) (g := (mkF m 176 #[.val (.int p0), .val (.int p1), .val (.int p2), .val (.int p3), .val (.int p4), .val (.int p5), .val (.int (2 : Int32)), .val (.int n.toInt32), .val (.int (((p5.toUInt32 >>> ((4 : Int32) &&& 31).toUInt32).toInt32) &&& (7 : Int32))), .val (.int (((p5.toUInt32 >>> ((7 : Int32) &&& 31).toUInt32).toInt32) &&& (7 : Int32))), .val (.int u.toInt32), .val (.int vv.toInt32), .val (.ref b109), .unset, .unset] [(.int u.toInt32), (.int (0 : Int32)), (.ref b115), (.ref b115)])) rfl rfl (hb hby at_176)
    have A114__x116 := A114__x115.other W116 ne115_b109
    have B109_x116 := B109_x115.wr W116
    have B115_x116 := B115.wr W116
    have N116 := Fr.snoc X116 N114 ge_b115
    have Z116 : n0 ≤ h116.size := by rw [W116.size]; exact Z115
    have Y116 : h0.size ≤ h116.size := by rw [W116.size]; exact Y115
    refine own_fwd st116 ?_
    show own_R p.tables e below P (T116.setTop (mkF m 177 #[.val (.int p0), .val (.int p1), .val (.int p2), .val (.int p3), .val (.int p4), .val (.int p5), .val (.int (2 : Int32)), .val (.int n.toInt32), .val (.int (((p5.toUInt32 >>> ((4 : Int32) &&& 31).toUInt32).toInt32) &&& (7 : Int32))), .val (.int (((p5.toUInt32 >>> ((7 : Int32) &&& 31).toUInt32).toInt32) &&& (7 : Int32))), .val (.int u.toInt32), .val (.int vv.toInt32), .val (.ref b109), .unset, .unset] [(.ref b115)]))
    refine own_fwd (fun tt kt => XS.dup X116.here hx rfl (hb hby at_177) rfl rfl kt) ?_
    show own_R p.tables e below P (T116.setTop (mkF m 178 #[.val (.int p0), .val (.int p1), .val (.int p2), .val (.int p3), .val (.int p4), .val (.int p5), .val (.int (2 : Int32)), .val (.int n.toInt32), .val (.int (((p5.toUInt32 >>> ((4 : Int32) &&& 31).toUInt32).toInt32) &&& (7 : Int32))), .val (.int (((p5.toUInt32 >>> ((7 : Int32) &&& 31).toUInt32).toInt32) &&& (7 : Int32))), .val (.int u.toInt32), .val (.int vv.toInt32), .val (.ref b109), .unset, .unset] [(.ref b115), (.ref b115)]))
    refine own_fwd (fun tt kt => XS.iconst X116.here hx rfl (hb hby at_178) kt) ?_
    show own_R p.tables e below P (T116.setTop (mkF m 179 #[.val (.int p0), .val (.int p1), .val (.int p2), .val (.int p3), .val (.int p4), .val (.int p5), .val (.int (2 : Int32)), .val (.int n.toInt32), .val (.int (((p5.toUInt32 >>> ((4 : Int32) &&& 31).toUInt32).toInt32) &&& (7 : Int32))), .val (.int (((p5.toUInt32 >>> ((7 : Int32) &&& 31).toUInt32).toInt32) &&& (7 : Int32))), .val (.int u.toInt32), .val (.int vv.toInt32), .val (.ref b109), .unset, .unset] [(.int (1 : Int32)), (.ref b115), (.ref b115)]))
    refine own_fwd (fun tt kt => XS.iload X116.here hx rfl (hb hby at_179) rfl kt) ?_
    show own_R p.tables e below P (T116.setTop (mkF m 181 #[.val (.int p0), .val (.int p1), .val (.int p2), .val (.int p3), .val (.int p4), .val (.int p5), .val (.int (2 : Int32)), .val (.int n.toInt32), .val (.int (((p5.toUInt32 >>> ((4 : Int32) &&& 31).toUInt32).toInt32) &&& (7 : Int32))), .val (.int (((p5.toUInt32 >>> ((7 : Int32) &&& 31).toUInt32).toInt32) &&& (7 : Int32))), .val (.int u.toInt32), .val (.int vv.toInt32), .val (.ref b109), .unset, .unset] [(.int vv.toInt32), (.int (1 : Int32)), (.ref b115), (.ref b115)]))
    obtain ⟨T117, h117, X117, e117, W117, A117_, st117⟩ := own_stI X116 hx hZ e116 A116_ (j := (1 : Int32)) 1 (by decide) (by decide) (g := (mkF m 181 #[.val (.int p0), .val (.int p1), .val (.int p2), .val (.int p3), .val (.int p4), .val (.int p5), .val (.int (2 : Int32)), .val (.int n.toInt32), .val (.int (((p5.toUInt32 >>> ((4 : Int32) &&& 31).toUInt32).toInt32) &&& (7 : Int32))), .val (.int (((p5.toUInt32 >>> ((7 : Int32) &&& 31).toUInt32).toInt32) &&& (7 : Int32))), .val (.int u.toInt32), .val (.int vv.toInt32), .val (.ref b109), .unset, .unset] [(.int vv.toInt32), (.int (1 : Int32)), (.ref b115), (.ref b115)])) rfl rfl (hb hby at_181)
    have A114__x117 := A114__x116.other W117 ne115_b109
    have B109_x117 := B109_x116.wr W117
    have B115_x117 := B115_x116.wr W117
    have N117 := Fr.snoc X117 N116 ge_b115
    have Z117 : n0 ≤ h117.size := by rw [W117.size]; exact Z116
    have Y117 : h0.size ≤ h117.size := by rw [W117.size]; exact Y116
    refine own_fwd st117 ?_
    show own_R p.tables e below P (T117.setTop (mkF m 182 #[.val (.int p0), .val (.int p1), .val (.int p2), .val (.int p3), .val (.int p4), .val (.int p5), .val (.int (2 : Int32)), .val (.int n.toInt32), .val (.int (((p5.toUInt32 >>> ((4 : Int32) &&& 31).toUInt32).toInt32) &&& (7 : Int32))), .val (.int (((p5.toUInt32 >>> ((7 : Int32) &&& 31).toUInt32).toInt32) &&& (7 : Int32))), .val (.int u.toInt32), .val (.int vv.toInt32), .val (.ref b109), .unset, .unset] [(.ref b115)]))
    refine own_fwd (fun tt kt => XS.astore X117.here hx rfl (hb hby at_182) rfl rfl (l' := #[.val (.int p0), .val (.int p1), .val (.int p2), .val (.int p3), .val (.int p4), .val (.int p5), .val (.int (2 : Int32)), .val (.int n.toInt32), .val (.int (((p5.toUInt32 >>> ((4 : Int32) &&& 31).toUInt32).toInt32) &&& (7 : Int32))), .val (.int (((p5.toUInt32 >>> ((7 : Int32) &&& 31).toUInt32).toInt32) &&& (7 : Int32))), .val (.int u.toInt32), .val (.int vv.toInt32), .val (.ref b109), .val (.ref b115), .unset]) rfl kt) ?_
    show own_R p.tables e below P (T117.setTop (mkF m 184 #[.val (.int p0), .val (.int p1), .val (.int p2), .val (.int p3), .val (.int p4), .val (.int p5), .val (.int (2 : Int32)), .val (.int n.toInt32), .val (.int (((p5.toUInt32 >>> ((4 : Int32) &&& 31).toUInt32).toInt32) &&& (7 : Int32))), .val (.int (((p5.toUInt32 >>> ((7 : Int32) &&& 31).toUInt32).toInt32) &&& (7 : Int32))), .val (.int u.toInt32), .val (.int vv.toInt32), .val (.ref b109), .val (.ref b115), .unset] []))
    refine own_fwd (fun tt kt => XS.aload X117.here hx rfl (hb hby at_184) rfl rfl kt) ?_
    show own_R p.tables e below P (T117.setTop (mkF m 186 #[.val (.int p0), .val (.int p1), .val (.int p2), .val (.int p3), .val (.int p4), .val (.int p5), .val (.int (2 : Int32)), .val (.int n.toInt32), .val (.int (((p5.toUInt32 >>> ((4 : Int32) &&& 31).toUInt32).toInt32) &&& (7 : Int32))), .val (.int (((p5.toUInt32 >>> ((7 : Int32) &&& 31).toUInt32).toInt32) &&& (7 : Int32))), .val (.int u.toInt32), .val (.int vv.toInt32), .val (.ref b109), .val (.ref b115), .unset] [(.ref b109)]))
    refine own_fwd (fun tt kt => XS.aload X117.here hx rfl (hb hby at_186) rfl rfl kt) ?_
    show own_R p.tables e below P (T117.setTop (mkF m 188 #[.val (.int p0), .val (.int p1), .val (.int p2), .val (.int p3), .val (.int p4), .val (.int p5), .val (.int (2 : Int32)), .val (.int n.toInt32), .val (.int (((p5.toUInt32 >>> ((4 : Int32) &&& 31).toUInt32).toInt32) &&& (7 : Int32))), .val (.int (((p5.toUInt32 >>> ((7 : Int32) &&& 31).toUInt32).toInt32) &&& (7 : Int32))), .val (.int u.toInt32), .val (.int vv.toInt32), .val (.ref b109), .val (.ref b115), .unset] [(.ref b115), (.ref b109)]))
    refine own_fwd (fun tt kt => XS.iload X117.here hx rfl (hb hby at_188) rfl kt) ?_
    show own_R p.tables e below P (T117.setTop (mkF m 190 #[.val (.int p0), .val (.int p1), .val (.int p2), .val (.int p3), .val (.int p4), .val (.int p5), .val (.int (2 : Int32)), .val (.int n.toInt32), .val (.int (((p5.toUInt32 >>> ((4 : Int32) &&& 31).toUInt32).toInt32) &&& (7 : Int32))), .val (.int (((p5.toUInt32 >>> ((7 : Int32) &&& 31).toUInt32).toInt32) &&& (7 : Int32))), .val (.int u.toInt32), .val (.int vv.toInt32), .val (.ref b109), .val (.ref b115), .unset] [(.int n.toInt32), (.ref b115), (.ref b109)]))
    obtain ⟨_, _, ⟨T118, L118, k118, n118⟩, -, X118, ⟨Lc118, hQ118, l118, y118, z118⟩, st118⟩ := Jvm.LawKit.callS X117 hx (y := (⟨"com/example/tracefold/tracefold/PlaceProgram", "moved", "([I[II)[I"⟩ : MethodName)) hown (mvT hZ (hw _ (List.mem_of_getElem? (i := 5) rfl))) (mvT hZ (hw _ (List.mem_of_getElem? (i := 6) rfl))) (mvT hZ (hw _ (List.mem_of_getElem? (i := 7) rfl))) (mvT hZ (hw _ (List.mem_of_getElem? (i := 8) rfl))) (by decide) (backOf (W := 0) (own_rmmv2 l Z a0 hw [] b109 b115 n.toInt32 n (own_upd (own_upd (own_upd (own_upd (own_upd (fun _ => (0 : Int32)) 0 p0) 1 p1) 2 p2) 3 p3) 4 p4) (own_upd (own_upd (fun _ => (0 : Int32)) 0 u.toInt32) 1 vv.toInt32) u vv h117 n0 Z117 A114__x117 A117_ ln bn lu (bu (by omega)) lv (bv (by omega)).1) hZ (hw _ (List.mem_of_getElem? (i := 8) rfl)) (hw _ (List.mem_of_getElem? (i := 7) rfl)) (by decide) (by decide)) (g := (mkF m 190 #[.val (.int p0), .val (.int p1), .val (.int p2), .val (.int p3), .val (.int p4), .val (.int p5), .val (.int (2 : Int32)), .val (.int n.toInt32), .val (.int (((p5.toUInt32 >>> ((4 : Int32) &&& 31).toUInt32).toInt32) &&& (7 : Int32))), .val (.int (((p5.toUInt32 >>> ((7 : Int32) &&& 31).toUInt32).toInt32) &&& (7 : Int32))), .val (.int u.toInt32), .val (.int vv.toInt32), .val (.ref b109), .val (.ref b115), .unset] [(.int n.toInt32), (.ref b115), (.ref b109)])) rfl (by rw [hml]; rfl) (argsL := [(.ref b109), (.ref b115), (.int n.toInt32)]) (rest := []) (lenOf own_pd2 rfl) rfl (by show 2 * 0 + _ ≤ _; exact Nat.le_of_eq rfl) (hb hby at_190) (fun _ _ => ⟨rfl, e117, (by decide : 2 + 1 ≤ _), (by decide : 7 + 7 ≤ _)⟩)
    dsimp only [Pt.U, Pt.locs, Pt.cells, Pt.slots] at X118 l118 y118 z118 st118 hQ118
    subst l118 y118 z118
    obtain ⟨h118, e118⟩ : ∃ z, T118.heap = z := ⟨_, rfl⟩
    rw [e118] at hQ118
    obtain ⟨o118, hq118, N118q, ge_o118, K118, A118_⟩ := hQ118
    subst hq118
    have N118 := Fr.app N117 N118q
    have A114__x118 := A114__x117.keep K118 nin0
    have B109_x118 := B109_x117.keep K118
    have A117__x118 := A117_.keep K118 nin0
    have B115_x118 := B115_x117.keep K118
    have Z118 : n0 ≤ h118.size := Nat.le_trans Z117 K118.1
    have Y118 : h0.size ≤ h118.size := Nat.le_trans Y117 K118.1
    have A118_ : own_AI Z h118 o118 .int (1 + 2 * n) (own_upd (own_upd (own_upd (own_upd (own_upd (fun _ => (0 : Int32)) 0 p0) (1 + u) p1) (1 + n + u) p3) (1 + vv) p2) (1 + n + vv) p4) := A118_
    refine own_fwd st118 ?_
    show own_R p.tables e below P (T118.setTop (mkF m 193 #[.val (.int p0), .val (.int p1), .val (.int p2), .val (.int p3), .val (.int p4), .val (.int p5), .val (.int (2 : Int32)), .val (.int n.toInt32), .val (.int (((p5.toUInt32 >>> ((4 : Int32) &&& 31).toUInt32).toInt32) &&& (7 : Int32))), .val (.int (((p5.toUInt32 >>> ((7 : Int32) &&& 31).toUInt32).toInt32) &&& (7 : Int32))), .val (.int u.toInt32), .val (.int vv.toInt32), .val (.ref b109), .val (.ref b115), .unset] [(.ref o118)]))
    refine own_fwd (fun tt kt => XS.astore X118.here hx rfl (hb hby at_193) rfl rfl (l' := #[.val (.int p0), .val (.int p1), .val (.int p2), .val (.int p3), .val (.int p4), .val (.int p5), .val (.int (2 : Int32)), .val (.int n.toInt32), .val (.int (((p5.toUInt32 >>> ((4 : Int32) &&& 31).toUInt32).toInt32) &&& (7 : Int32))), .val (.int (((p5.toUInt32 >>> ((7 : Int32) &&& 31).toUInt32).toInt32) &&& (7 : Int32))), .val (.int u.toInt32), .val (.int vv.toInt32), .val (.ref b109), .val (.ref b115), .val (.ref o118)]) rfl kt) ?_
    show own_R p.tables e below P (T118.setTop (mkF m 195 #[.val (.int p0), .val (.int p1), .val (.int p2), .val (.int p3), .val (.int p4), .val (.int p5), .val (.int (2 : Int32)), .val (.int n.toInt32), .val (.int (((p5.toUInt32 >>> ((4 : Int32) &&& 31).toUInt32).toInt32) &&& (7 : Int32))), .val (.int (((p5.toUInt32 >>> ((7 : Int32) &&& 31).toUInt32).toInt32) &&& (7 : Int32))), .val (.int u.toInt32), .val (.int vv.toInt32), .val (.ref b109), .val (.ref b115), .val (.ref o118)] []))
    refine own_fwd (fun tt kt => XS.aload X118.here hx rfl (hb hby at_195) rfl rfl kt) ?_
    show own_R p.tables e below P (T118.setTop (mkF m 197 #[.val (.int p0), .val (.int p1), .val (.int p2), .val (.int p3), .val (.int p4), .val (.int p5), .val (.int (2 : Int32)), .val (.int n.toInt32), .val (.int (((p5.toUInt32 >>> ((4 : Int32) &&& 31).toUInt32).toInt32) &&& (7 : Int32))), .val (.int (((p5.toUInt32 >>> ((7 : Int32) &&& 31).toUInt32).toInt32) &&& (7 : Int32))), .val (.int u.toInt32), .val (.int vv.toInt32), .val (.ref b109), .val (.ref b115), .val (.ref o118)] [(.ref o118)]))
    refine own_fwd (fun tt kt => XS.ifnullNo X118.here hx rfl (hb hby at_197) rfl kt) ?_
    show own_R p.tables e below P (T118.setTop (mkF m 200 #[.val (.int p0), .val (.int p1), .val (.int p2), .val (.int p3), .val (.int p4), .val (.int p5), .val (.int (2 : Int32)), .val (.int n.toInt32), .val (.int (((p5.toUInt32 >>> ((4 : Int32) &&& 31).toUInt32).toInt32) &&& (7 : Int32))), .val (.int (((p5.toUInt32 >>> ((7 : Int32) &&& 31).toUInt32).toInt32) &&& (7 : Int32))), .val (.int u.toInt32), .val (.int vv.toInt32), .val (.ref b109), .val (.ref b115), .val (.ref o118)] []))
    refine own_fwd (fun tt kt => XS.aload X118.here hx rfl (hb hby at_200) rfl rfl kt) ?_
    show own_R p.tables e below P (T118.setTop (mkF m 202 #[.val (.int p0), .val (.int p1), .val (.int p2), .val (.int p3), .val (.int p4), .val (.int p5), .val (.int (2 : Int32)), .val (.int n.toInt32), .val (.int (((p5.toUInt32 >>> ((4 : Int32) &&& 31).toUInt32).toInt32) &&& (7 : Int32))), .val (.int (((p5.toUInt32 >>> ((7 : Int32) &&& 31).toUInt32).toInt32) &&& (7 : Int32))), .val (.int u.toInt32), .val (.int vv.toInt32), .val (.ref b109), .val (.ref b115), .val (.ref o118)] [(.ref o118)]))
    refine own_fwd (own_len X118 hx hZ e118 A118_ ((1 : Int32) + ((2 : Int32) * n.toInt32)) (own_12n n bn _ ln) (g := (mkF m 202 #[.val (.int p0), .val (.int p1), .val (.int p2), .val (.int p3), .val (.int p4), .val (.int p5), .val (.int (2 : Int32)), .val (.int n.toInt32), .val (.int (((p5.toUInt32 >>> ((4 : Int32) &&& 31).toUInt32).toInt32) &&& (7 : Int32))), .val (.int (((p5.toUInt32 >>> ((7 : Int32) &&& 31).toUInt32).toInt32) &&& (7 : Int32))), .val (.int u.toInt32), .val (.int vv.toInt32), .val (.ref b109), .val (.ref b115), .val (.ref o118)] [(.ref o118)])) rfl rfl (hb hby at_202)) ?_
    show own_R p.tables e below P (T118.setTop (mkF m 203 #[.val (.int p0), .val (.int p1), .val (.int p2), .val (.int p3), .val (.int p4), .val (.int p5), .val (.int (2 : Int32)), .val (.int n.toInt32), .val (.int (((p5.toUInt32 >>> ((4 : Int32) &&& 31).toUInt32).toInt32) &&& (7 : Int32))), .val (.int (((p5.toUInt32 >>> ((7 : Int32) &&& 31).toUInt32).toInt32) &&& (7 : Int32))), .val (.int u.toInt32), .val (.int vv.toInt32), .val (.ref b109), .val (.ref b115), .val (.ref o118)] [(.int ((1 : Int32) + ((2 : Int32) * n.toInt32)))]))
    refine own_fwd (fun tt kt => XS.iconst X118.here hx rfl (hb hby at_203) kt) ?_
    show own_R p.tables e below P (T118.setTop (mkF m 204 #[.val (.int p0), .val (.int p1), .val (.int p2), .val (.int p3), .val (.int p4), .val (.int p5), .val (.int (2 : Int32)), .val (.int n.toInt32), .val (.int (((p5.toUInt32 >>> ((4 : Int32) &&& 31).toUInt32).toInt32) &&& (7 : Int32))), .val (.int (((p5.toUInt32 >>> ((7 : Int32) &&& 31).toUInt32).toInt32) &&& (7 : Int32))), .val (.int u.toInt32), .val (.int vv.toInt32), .val (.ref b109), .val (.ref b115), .val (.ref o118)] [(.int (1 : Int32)), (.int ((1 : Int32) + ((2 : Int32) * n.toInt32)))]))
    refine own_fwd (fun tt kt => XS.iconst X118.here hx rfl (hb hby at_204) kt) ?_
    show own_R p.tables e below P (T118.setTop (mkF m 205 #[.val (.int p0), .val (.int p1), .val (.int p2), .val (.int p3), .val (.int p4), .val (.int p5), .val (.int (2 : Int32)), .val (.int n.toInt32), .val (.int (((p5.toUInt32 >>> ((4 : Int32) &&& 31).toUInt32).toInt32) &&& (7 : Int32))), .val (.int (((p5.toUInt32 >>> ((7 : Int32) &&& 31).toUInt32).toInt32) &&& (7 : Int32))), .val (.int u.toInt32), .val (.int vv.toInt32), .val (.ref b109), .val (.ref b115), .val (.ref o118)] [(.int (2 : Int32)), (.int (1 : Int32)), (.int ((1 : Int32) + ((2 : Int32) * n.toInt32)))]))
    refine own_fwd (fun tt kt => XS.iload X118.here hx rfl (hb hby at_205) rfl kt) ?_
    show own_R p.tables e below P (T118.setTop (mkF m 207 #[.val (.int p0), .val (.int p1), .val (.int p2), .val (.int p3), .val (.int p4), .val (.int p5), .val (.int (2 : Int32)), .val (.int n.toInt32), .val (.int (((p5.toUInt32 >>> ((4 : Int32) &&& 31).toUInt32).toInt32) &&& (7 : Int32))), .val (.int (((p5.toUInt32 >>> ((7 : Int32) &&& 31).toUInt32).toInt32) &&& (7 : Int32))), .val (.int u.toInt32), .val (.int vv.toInt32), .val (.ref b109), .val (.ref b115), .val (.ref o118)] [(.int n.toInt32), (.int (2 : Int32)), (.int (1 : Int32)), (.int ((1 : Int32) + ((2 : Int32) * n.toInt32)))]))
    refine own_fwd (fun tt kt => XS.imul X118.here hx rfl (hb hby at_207) rfl kt) ?_
    show own_R p.tables e below P (T118.setTop (mkF m 208 #[.val (.int p0), .val (.int p1), .val (.int p2), .val (.int p3), .val (.int p4), .val (.int p5), .val (.int (2 : Int32)), .val (.int n.toInt32), .val (.int (((p5.toUInt32 >>> ((4 : Int32) &&& 31).toUInt32).toInt32) &&& (7 : Int32))), .val (.int (((p5.toUInt32 >>> ((7 : Int32) &&& 31).toUInt32).toInt32) &&& (7 : Int32))), .val (.int u.toInt32), .val (.int vv.toInt32), .val (.ref b109), .val (.ref b115), .val (.ref o118)] [(.int ((2 : Int32) * n.toInt32)), (.int (1 : Int32)), (.int ((1 : Int32) + ((2 : Int32) * n.toInt32)))]))
    refine own_fwd (fun tt kt => XS.iadd X118.here hx rfl (hb hby at_208) rfl kt) ?_
    show own_R p.tables e below P (T118.setTop (mkF m 209 #[.val (.int p0), .val (.int p1), .val (.int p2), .val (.int p3), .val (.int p4), .val (.int p5), .val (.int (2 : Int32)), .val (.int n.toInt32), .val (.int (((p5.toUInt32 >>> ((4 : Int32) &&& 31).toUInt32).toInt32) &&& (7 : Int32))), .val (.int (((p5.toUInt32 >>> ((7 : Int32) &&& 31).toUInt32).toInt32) &&& (7 : Int32))), .val (.int u.toInt32), .val (.int vv.toInt32), .val (.ref b109), .val (.ref b115), .val (.ref o118)] [(.int ((1 : Int32) + ((2 : Int32) * n.toInt32))), (.int ((1 : Int32) + ((2 : Int32) * n.toInt32)))]))
    have hc119 : ((1 : Int32) + ((2 : Int32) * n.toInt32)) = ((1 : Int32) + ((2 : Int32) * n.toInt32)) := rfl
    refine own_fwd (fun tt kt => XS.icmpYes X118.here hx rfl (pc0 := 209) (pc' := 214) rfl (hb hby at_209) rfl (teq hc119).1 (by decide) (by decide) kt) ?_
    show own_R p.tables e below P (T118.setTop (mkF m 214 #[.val (.int p0), .val (.int p1), .val (.int p2), .val (.int p3), .val (.int p4), .val (.int p5), .val (.int (2 : Int32)), .val (.int n.toInt32), .val (.int (((p5.toUInt32 >>> ((4 : Int32) &&& 31).toUInt32).toInt32) &&& (7 : Int32))), .val (.int (((p5.toUInt32 >>> ((7 : Int32) &&& 31).toUInt32).toInt32) &&& (7 : Int32))), .val (.int u.toInt32), .val (.int vv.toInt32), .val (.ref b109), .val (.ref b115), .val (.ref o118)] []))
    refine own_fwd (fun tt kt => XS.aload X118.here hx rfl (hb hby at_214) rfl rfl kt) ?_
    show own_R p.tables e below P (T118.setTop (mkF m 216 #[.val (.int p0), .val (.int p1), .val (.int p2), .val (.int p3), .val (.int p4), .val (.int p5), .val (.int (2 : Int32)), .val (.int n.toInt32), .val (.int (((p5.toUInt32 >>> ((4 : Int32) &&& 31).toUInt32).toInt32) &&& (7 : Int32))), .val (.int (((p5.toUInt32 >>> ((7 : Int32) &&& 31).toUInt32).toInt32) &&& (7 : Int32))), .val (.int u.toInt32), .val (.int vv.toInt32), .val (.ref b109), .val (.ref b115), .val (.ref o118)] [(.ref o118)]))
    refine own_fwd (fun tt kt => XS.iconst X118.here hx rfl (hb hby at_216) kt) ?_
    show own_R p.tables e below P (T118.setTop (mkF m 217 #[.val (.int p0), .val (.int p1), .val (.int p2), .val (.int p3), .val (.int p4), .val (.int p5), .val (.int (2 : Int32)), .val (.int n.toInt32), .val (.int (((p5.toUInt32 >>> ((4 : Int32) &&& 31).toUInt32).toInt32) &&& (7 : Int32))), .val (.int (((p5.toUInt32 >>> ((7 : Int32) &&& 31).toUInt32).toInt32) &&& (7 : Int32))), .val (.int u.toInt32), .val (.int vv.toInt32), .val (.ref b109), .val (.ref b115), .val (.ref o118)] [(.int (0 : Int32)), (.ref o118)]))
    refine own_fwd (own_ldI X118 hx hZ e118 A118_ (j := (0 : Int32)) 0 (by decide) (by omega) (g := (mkF m 217 #[.val (.int p0), .val (.int p1), .val (.int p2), .val (.int p3), .val (.int p4), .val (.int p5), .val (.int (2 : Int32)), .val (.int n.toInt32), .val (.int (((p5.toUInt32 >>> ((4 : Int32) &&& 31).toUInt32).toInt32) &&& (7 : Int32))), .val (.int (((p5.toUInt32 >>> ((7 : Int32) &&& 31).toUInt32).toInt32) &&& (7 : Int32))), .val (.int u.toInt32), .val (.int vv.toInt32), .val (.ref b109), .val (.ref b115), .val (.ref o118)] [(.int (0 : Int32)), (.ref o118)])) rfl rfl (hb hby at_217)) ?_
    show own_R p.tables e below P (T118.setTop (mkF m 218 #[.val (.int p0), .val (.int p1), .val (.int p2), .val (.int p3), .val (.int p4), .val (.int p5), .val (.int (2 : Int32)), .val (.int n.toInt32), .val (.int (((p5.toUInt32 >>> ((4 : Int32) &&& 31).toUInt32).toInt32) &&& (7 : Int32))), .val (.int (((p5.toUInt32 >>> ((7 : Int32) &&& 31).toUInt32).toInt32) &&& (7 : Int32))), .val (.int u.toInt32), .val (.int vv.toInt32), .val (.ref b109), .val (.ref b115), .val (.ref o118)] [(.int ((own_upd (own_upd (own_upd (own_upd (own_upd (fun _ => (0 : Int32)) 0 p0) (1 + u) p1) (1 + n + u) p3) (1 + vv) p2) (1 + n + vv) p4) 0))]))
    have hv120 : ((own_upd (own_upd (own_upd (own_upd (own_upd (fun _ => (0 : Int32)) 0 p0) (1 + u) p1) (1 + n + u) p3) (1 + vv) p2) (1 + n + vv) p4) 0) = p0 := by simp only [own_upd]; rw [if_neg (by omega), if_neg (by omega), if_neg (by omega), if_neg (by omega)]; rfl
    rw [hv120]
    show own_R p.tables e below P (T118.setTop (mkF m 218 #[.val (.int p0), .val (.int p1), .val (.int p2), .val (.int p3), .val (.int p4), .val (.int p5), .val (.int (2 : Int32)), .val (.int n.toInt32), .val (.int (((p5.toUInt32 >>> ((4 : Int32) &&& 31).toUInt32).toInt32) &&& (7 : Int32))), .val (.int (((p5.toUInt32 >>> ((7 : Int32) &&& 31).toUInt32).toInt32) &&& (7 : Int32))), .val (.int u.toInt32), .val (.int vv.toInt32), .val (.ref b109), .val (.ref b115), .val (.ref o118)] [(.int p0)]))
    refine own_fwd (fun tt kt => XS.iloadN X118.here hx rfl (hb hby at_218) rfl kt) ?_
    show own_R p.tables e below P (T118.setTop (mkF m 219 #[.val (.int p0), .val (.int p1), .val (.int p2), .val (.int p3), .val (.int p4), .val (.int p5), .val (.int (2 : Int32)), .val (.int n.toInt32), .val (.int (((p5.toUInt32 >>> ((4 : Int32) &&& 31).toUInt32).toInt32) &&& (7 : Int32))), .val (.int (((p5.toUInt32 >>> ((7 : Int32) &&& 31).toUInt32).toInt32) &&& (7 : Int32))), .val (.int u.toInt32), .val (.int vv.toInt32), .val (.ref b109), .val (.ref b115), .val (.ref o118)] [(.int p0), (.int p0)]))
    have hc121 : p0 = p0 := rfl
    refine own_fwd (fun tt kt => XS.icmpYes X118.here hx rfl (pc0 := 219) (pc' := 224) rfl (hb hby at_219) rfl (teq hc121).1 (by decide) (by decide) kt) ?_
    show own_R p.tables e below P (T118.setTop (mkF m 224 #[.val (.int p0), .val (.int p1), .val (.int p2), .val (.int p3), .val (.int p4), .val (.int p5), .val (.int (2 : Int32)), .val (.int n.toInt32), .val (.int (((p5.toUInt32 >>> ((4 : Int32) &&& 31).toUInt32).toInt32) &&& (7 : Int32))), .val (.int (((p5.toUInt32 >>> ((7 : Int32) &&& 31).toUInt32).toInt32) &&& (7 : Int32))), .val (.int u.toInt32), .val (.int vv.toInt32), .val (.ref b109), .val (.ref b115), .val (.ref o118)] []))
    refine own_fwd (fun tt kt => XS.aload X118.here hx rfl (hb hby at_224) rfl rfl kt) ?_
    show own_R p.tables e below P (T118.setTop (mkF m 226 #[.val (.int p0), .val (.int p1), .val (.int p2), .val (.int p3), .val (.int p4), .val (.int p5), .val (.int (2 : Int32)), .val (.int n.toInt32), .val (.int (((p5.toUInt32 >>> ((4 : Int32) &&& 31).toUInt32).toInt32) &&& (7 : Int32))), .val (.int (((p5.toUInt32 >>> ((7 : Int32) &&& 31).toUInt32).toInt32) &&& (7 : Int32))), .val (.int u.toInt32), .val (.int vv.toInt32), .val (.ref b109), .val (.ref b115), .val (.ref o118)] [(.ref o118)]))
    refine own_fwd (fun tt kt => XS.iload X118.here hx rfl (hb hby at_226) rfl kt) ?_
    show own_R p.tables e below P (T118.setTop (mkF m 228 #[.val (.int p0), .val (.int p1), .val (.int p2), .val (.int p3), .val (.int p4), .val (.int p5), .val (.int (2 : Int32)), .val (.int n.toInt32), .val (.int (((p5.toUInt32 >>> ((4 : Int32) &&& 31).toUInt32).toInt32) &&& (7 : Int32))), .val (.int (((p5.toUInt32 >>> ((7 : Int32) &&& 31).toUInt32).toInt32) &&& (7 : Int32))), .val (.int u.toInt32), .val (.int vv.toInt32), .val (.ref b109), .val (.ref b115), .val (.ref o118)] [(.int n.toInt32), (.ref o118)]))
    refine own_fwd (fun tt kt => XS.iconst X118.here hx rfl (hb hby at_228) kt) ?_
    show own_R p.tables e below P (T118.setTop (mkF m 229 #[.val (.int p0), .val (.int p1), .val (.int p2), .val (.int p3), .val (.int p4), .val (.int p5), .val (.int (2 : Int32)), .val (.int n.toInt32), .val (.int (((p5.toUInt32 >>> ((4 : Int32) &&& 31).toUInt32).toInt32) &&& (7 : Int32))), .val (.int (((p5.toUInt32 >>> ((7 : Int32) &&& 31).toUInt32).toInt32) &&& (7 : Int32))), .val (.int u.toInt32), .val (.int vv.toInt32), .val (.ref b109), .val (.ref b115), .val (.ref o118)] [(.int (0 : Int32)), (.int n.toInt32), (.ref o118)]))
    refine own_fwd (fun tt kt => XS.iload X118.here hx rfl (hb hby at_229) rfl kt) ?_
    show own_R p.tables e below P (T118.setTop (mkF m 231 #[.val (.int p0), .val (.int p1), .val (.int p2), .val (.int p3), .val (.int p4), .val (.int p5), .val (.int (2 : Int32)), .val (.int n.toInt32), .val (.int (((p5.toUInt32 >>> ((4 : Int32) &&& 31).toUInt32).toInt32) &&& (7 : Int32))), .val (.int (((p5.toUInt32 >>> ((7 : Int32) &&& 31).toUInt32).toInt32) &&& (7 : Int32))), .val (.int u.toInt32), .val (.int vv.toInt32), .val (.ref b109), .val (.ref b115), .val (.ref o118)] [(.int (2 : Int32)), (.int (0 : Int32)), (.int n.toInt32), (.ref o118)]))
    refine own_fwd (fun tt kt => XS.iload X118.here hx rfl (hb hby at_231) rfl kt) ?_
    show own_R p.tables e below P (T118.setTop (mkF m 233 #[.val (.int p0), .val (.int p1), .val (.int p2), .val (.int p3), .val (.int p4), .val (.int p5), .val (.int (2 : Int32)), .val (.int n.toInt32), .val (.int (((p5.toUInt32 >>> ((4 : Int32) &&& 31).toUInt32).toInt32) &&& (7 : Int32))), .val (.int (((p5.toUInt32 >>> ((7 : Int32) &&& 31).toUInt32).toInt32) &&& (7 : Int32))), .val (.int u.toInt32), .val (.int vv.toInt32), .val (.ref b109), .val (.ref b115), .val (.ref o118)] [(.int u.toInt32), (.int (2 : Int32)), (.int (0 : Int32)), (.int n.toInt32), (.ref o118)]))
    refine own_fwd (fun tt kt => XS.iload X118.here hx rfl (hb hby at_233) rfl kt) ?_
    show own_R p.tables e below P (T118.setTop (mkF m 235 #[.val (.int p0), .val (.int p1), .val (.int p2), .val (.int p3), .val (.int p4), .val (.int p5), .val (.int (2 : Int32)), .val (.int n.toInt32), .val (.int (((p5.toUInt32 >>> ((4 : Int32) &&& 31).toUInt32).toInt32) &&& (7 : Int32))), .val (.int (((p5.toUInt32 >>> ((7 : Int32) &&& 31).toUInt32).toInt32) &&& (7 : Int32))), .val (.int u.toInt32), .val (.int vv.toInt32), .val (.ref b109), .val (.ref b115), .val (.ref o118)] [(.int vv.toInt32), (.int u.toInt32), (.int (2 : Int32)), (.int (0 : Int32)), (.int n.toInt32), (.ref o118)]))
    refine own_fwd (fun tt kt => XS.iloadN X118.here hx rfl (hb hby at_235) rfl kt) ?_
    show own_R p.tables e below P (T118.setTop (mkF m 236 #[.val (.int p0), .val (.int p1), .val (.int p2), .val (.int p3), .val (.int p4), .val (.int p5), .val (.int (2 : Int32)), .val (.int n.toInt32), .val (.int (((p5.toUInt32 >>> ((4 : Int32) &&& 31).toUInt32).toInt32) &&& (7 : Int32))), .val (.int (((p5.toUInt32 >>> ((7 : Int32) &&& 31).toUInt32).toInt32) &&& (7 : Int32))), .val (.int u.toInt32), .val (.int vv.toInt32), .val (.ref b109), .val (.ref b115), .val (.ref o118)] [(.int p1), (.int vv.toInt32), (.int u.toInt32), (.int (2 : Int32)), (.int (0 : Int32)), (.int n.toInt32), (.ref o118)]))
    refine own_fwd (fun tt kt => XS.iloadN X118.here hx rfl (hb hby at_236) rfl kt) ?_
    show own_R p.tables e below P (T118.setTop (mkF m 237 #[.val (.int p0), .val (.int p1), .val (.int p2), .val (.int p3), .val (.int p4), .val (.int p5), .val (.int (2 : Int32)), .val (.int n.toInt32), .val (.int (((p5.toUInt32 >>> ((4 : Int32) &&& 31).toUInt32).toInt32) &&& (7 : Int32))), .val (.int (((p5.toUInt32 >>> ((7 : Int32) &&& 31).toUInt32).toInt32) &&& (7 : Int32))), .val (.int u.toInt32), .val (.int vv.toInt32), .val (.ref b109), .val (.ref b115), .val (.ref o118)] [(.int p2), (.int p1), (.int vv.toInt32), (.int u.toInt32), (.int (2 : Int32)), (.int (0 : Int32)), (.int n.toInt32), (.ref o118)]))
    refine own_fwd (fun tt kt => XS.iloadN X118.here hx rfl (hb hby at_237) rfl kt) ?_
    show own_R p.tables e below P (T118.setTop (mkF m 238 #[.val (.int p0), .val (.int p1), .val (.int p2), .val (.int p3), .val (.int p4), .val (.int p5), .val (.int (2 : Int32)), .val (.int n.toInt32), .val (.int (((p5.toUInt32 >>> ((4 : Int32) &&& 31).toUInt32).toInt32) &&& (7 : Int32))), .val (.int (((p5.toUInt32 >>> ((7 : Int32) &&& 31).toUInt32).toInt32) &&& (7 : Int32))), .val (.int u.toInt32), .val (.int vv.toInt32), .val (.ref b109), .val (.ref b115), .val (.ref o118)] [(.int p3), (.int p2), (.int p1), (.int vv.toInt32), (.int u.toInt32), (.int (2 : Int32)), (.int (0 : Int32)), (.int n.toInt32), (.ref o118)]))
    refine own_fwd (fun tt kt => XS.iload X118.here hx rfl (hb hby at_238) rfl kt) ?_
    show own_R p.tables e below P (T118.setTop (mkF m 240 #[.val (.int p0), .val (.int p1), .val (.int p2), .val (.int p3), .val (.int p4), .val (.int p5), .val (.int (2 : Int32)), .val (.int n.toInt32), .val (.int (((p5.toUInt32 >>> ((4 : Int32) &&& 31).toUInt32).toInt32) &&& (7 : Int32))), .val (.int (((p5.toUInt32 >>> ((7 : Int32) &&& 31).toUInt32).toInt32) &&& (7 : Int32))), .val (.int u.toInt32), .val (.int vv.toInt32), .val (.ref b109), .val (.ref b115), .val (.ref o118)] [(.int p4), (.int p3), (.int p2), (.int p1), (.int vv.toInt32), (.int u.toInt32), (.int (2 : Int32)), (.int (0 : Int32)), (.int n.toInt32), (.ref o118)]))
    have sl122a : 0 < n → (own_upd (own_upd (own_upd (own_upd (own_upd (fun _ => (0 : Int32)) 0 p0) (1 + u) p1) (1 + n + u) p3) (1 + vv) p2) (1 + n + vv) p4) (1 + 0) = own_exp (0 : Int32) (2 : Int32) u.toInt32 vv.toInt32 p1 p2 := by
      intro q
      rw [own_e2 (i := 0) rfl lu lv]; simp only [own_upd]
      have b1 := bu (by omega)
      have b2 := bv (by omega)
      repeat (first | rfl | omega | (split <;> try omega))
    have sl122b : 0 < n → (own_upd (own_upd (own_upd (own_upd (own_upd (fun _ => (0 : Int32)) 0 p0) (1 + u) p1) (1 + n + u) p3) (1 + vv) p2) (1 + n + vv) p4) (1 + n + 0) = own_exp (0 : Int32) (2 : Int32) u.toInt32 vv.toInt32 p3 p4 := by
      intro q
      rw [own_e2 (i := 0) rfl lu lv]; simp only [own_upd]
      have b1 := bu (by omega)
      have b2 := bv (by omega)
      repeat (first | rfl | omega | (split <;> try omega))
    obtain ⟨_, _, ⟨T123, L123, k123, n123⟩, -, X123, ⟨Lc123, hQ123, l123, y123, z123⟩, st123⟩ := Jvm.LawKit.callS X118 hx (y := (⟨"com/example/tracefold/tracefold/PlaceProgramMovedPinLaw", "slot", "([IIIIIIIIII)Z"⟩ : MethodName)) hown (mvT hZ (hw _ (List.mem_of_getElem? (i := 9) rfl))) (mvT hZ (hw _ (List.mem_of_getElem? (i := 10) rfl))) (mvT hZ (hw _ (List.mem_of_getElem? (i := 11) rfl))) (mvT hZ (hw _ (List.mem_of_getElem? (i := 12) rfl))) (by decide) (backOf (W := 0) (own_rm3 l Z a0 hw [] o118 n.toInt32 (0 : Int32) (2 : Int32) u.toInt32 vv.toInt32 p1 p2 p3 p4 n 0 (own_upd (own_upd (own_upd (own_upd (own_upd (fun _ => (0 : Int32)) 0 p0) (1 + u) p1) (1 + n + u) p3) (1 + vv) p2) (1 + n + vv) p4) h118 n0 Z118 A118_ ln rfl bn (by omega) sl122a sl122b) hZ (hw _ (List.mem_of_getElem? (i := 12) rfl)) (hw _ (List.mem_of_getElem? (i := 11) rfl)) (by decide) (by decide)) (g := (mkF m 240 #[.val (.int p0), .val (.int p1), .val (.int p2), .val (.int p3), .val (.int p4), .val (.int p5), .val (.int (2 : Int32)), .val (.int n.toInt32), .val (.int (((p5.toUInt32 >>> ((4 : Int32) &&& 31).toUInt32).toInt32) &&& (7 : Int32))), .val (.int (((p5.toUInt32 >>> ((7 : Int32) &&& 31).toUInt32).toInt32) &&& (7 : Int32))), .val (.int u.toInt32), .val (.int vv.toInt32), .val (.ref b109), .val (.ref b115), .val (.ref o118)] [(.int p4), (.int p3), (.int p2), (.int p1), (.int vv.toInt32), (.int u.toInt32), (.int (2 : Int32)), (.int (0 : Int32)), (.int n.toInt32), (.ref o118)])) rfl (by rw [hml]; rfl) (argsL := [(.ref o118), (.int n.toInt32), (.int (0 : Int32)), (.int (2 : Int32)), (.int u.toInt32), (.int vv.toInt32), (.int p1), (.int p2), (.int p3), (.int p4)]) (rest := []) (lenOf own_pd3 rfl) rfl (by show 2 * 0 + _ ≤ _; exact Nat.le_of_eq rfl) (hb hby at_240) (fun _ _ => ⟨rfl, e118, (by decide : 3 + 0 ≤ _), (by decide : 14 + 0 ≤ _)⟩)
    dsimp only [Pt.U, Pt.locs, Pt.cells, Pt.slots] at X123 l123 y123 z123 st123 hQ123
    subst l123 y123 z123
    obtain ⟨h123, e123⟩ : ∃ z, T123.heap = z := ⟨_, rfl⟩
    rw [e123] at hQ123
    obtain ⟨hq123, N123q, q123⟩ := hQ123
    rw [q123] at e123
    subst hq123
    have N123 := Fr.app N118 N123q
    refine own_fwd st123 ?_
    show own_R p.tables e below P (T123.setTop (mkF m 243 #[.val (.int p0), .val (.int p1), .val (.int p2), .val (.int p3), .val (.int p4), .val (.int p5), .val (.int (2 : Int32)), .val (.int n.toInt32), .val (.int (((p5.toUInt32 >>> ((4 : Int32) &&& 31).toUInt32).toInt32) &&& (7 : Int32))), .val (.int (((p5.toUInt32 >>> ((7 : Int32) &&& 31).toUInt32).toInt32) &&& (7 : Int32))), .val (.int u.toInt32), .val (.int vv.toInt32), .val (.ref b109), .val (.ref b115), .val (.ref o118)] [(.int (1 : Int32))]))
    have hc124 : ¬ ((1 : Int32) = (0 : Int32)) := (by decide)
    refine own_fwd (fun tt kt => XS.ifNo X123.here hx rfl (hb hby at_243) rfl ((if0 _ _).trans (feq hc124).1) kt) ?_
    show own_R p.tables e below P (T123.setTop (mkF m 246 #[.val (.int p0), .val (.int p1), .val (.int p2), .val (.int p3), .val (.int p4), .val (.int p5), .val (.int (2 : Int32)), .val (.int n.toInt32), .val (.int (((p5.toUInt32 >>> ((4 : Int32) &&& 31).toUInt32).toInt32) &&& (7 : Int32))), .val (.int (((p5.toUInt32 >>> ((7 : Int32) &&& 31).toUInt32).toInt32) &&& (7 : Int32))), .val (.int u.toInt32), .val (.int vv.toInt32), .val (.ref b109), .val (.ref b115), .val (.ref o118)] []))
    refine own_fwd (fun tt kt => XS.aload X123.here hx rfl (hb hby at_246) rfl rfl kt) ?_
    show own_R p.tables e below P (T123.setTop (mkF m 248 #[.val (.int p0), .val (.int p1), .val (.int p2), .val (.int p3), .val (.int p4), .val (.int p5), .val (.int (2 : Int32)), .val (.int n.toInt32), .val (.int (((p5.toUInt32 >>> ((4 : Int32) &&& 31).toUInt32).toInt32) &&& (7 : Int32))), .val (.int (((p5.toUInt32 >>> ((7 : Int32) &&& 31).toUInt32).toInt32) &&& (7 : Int32))), .val (.int u.toInt32), .val (.int vv.toInt32), .val (.ref b109), .val (.ref b115), .val (.ref o118)] [(.ref o118)]))
    refine own_fwd (fun tt kt => XS.iload X123.here hx rfl (hb hby at_248) rfl kt) ?_
    show own_R p.tables e below P (T123.setTop (mkF m 250 #[.val (.int p0), .val (.int p1), .val (.int p2), .val (.int p3), .val (.int p4), .val (.int p5), .val (.int (2 : Int32)), .val (.int n.toInt32), .val (.int (((p5.toUInt32 >>> ((4 : Int32) &&& 31).toUInt32).toInt32) &&& (7 : Int32))), .val (.int (((p5.toUInt32 >>> ((7 : Int32) &&& 31).toUInt32).toInt32) &&& (7 : Int32))), .val (.int u.toInt32), .val (.int vv.toInt32), .val (.ref b109), .val (.ref b115), .val (.ref o118)] [(.int n.toInt32), (.ref o118)]))
    refine own_fwd (fun tt kt => XS.iconst X123.here hx rfl (hb hby at_250) kt) ?_
    show own_R p.tables e below P (T123.setTop (mkF m 251 #[.val (.int p0), .val (.int p1), .val (.int p2), .val (.int p3), .val (.int p4), .val (.int p5), .val (.int (2 : Int32)), .val (.int n.toInt32), .val (.int (((p5.toUInt32 >>> ((4 : Int32) &&& 31).toUInt32).toInt32) &&& (7 : Int32))), .val (.int (((p5.toUInt32 >>> ((7 : Int32) &&& 31).toUInt32).toInt32) &&& (7 : Int32))), .val (.int u.toInt32), .val (.int vv.toInt32), .val (.ref b109), .val (.ref b115), .val (.ref o118)] [(.int (1 : Int32)), (.int n.toInt32), (.ref o118)]))
    refine own_fwd (fun tt kt => XS.iload X123.here hx rfl (hb hby at_251) rfl kt) ?_
    show own_R p.tables e below P (T123.setTop (mkF m 253 #[.val (.int p0), .val (.int p1), .val (.int p2), .val (.int p3), .val (.int p4), .val (.int p5), .val (.int (2 : Int32)), .val (.int n.toInt32), .val (.int (((p5.toUInt32 >>> ((4 : Int32) &&& 31).toUInt32).toInt32) &&& (7 : Int32))), .val (.int (((p5.toUInt32 >>> ((7 : Int32) &&& 31).toUInt32).toInt32) &&& (7 : Int32))), .val (.int u.toInt32), .val (.int vv.toInt32), .val (.ref b109), .val (.ref b115), .val (.ref o118)] [(.int (2 : Int32)), (.int (1 : Int32)), (.int n.toInt32), (.ref o118)]))
    refine own_fwd (fun tt kt => XS.iload X123.here hx rfl (hb hby at_253) rfl kt) ?_
    show own_R p.tables e below P (T123.setTop (mkF m 255 #[.val (.int p0), .val (.int p1), .val (.int p2), .val (.int p3), .val (.int p4), .val (.int p5), .val (.int (2 : Int32)), .val (.int n.toInt32), .val (.int (((p5.toUInt32 >>> ((4 : Int32) &&& 31).toUInt32).toInt32) &&& (7 : Int32))), .val (.int (((p5.toUInt32 >>> ((7 : Int32) &&& 31).toUInt32).toInt32) &&& (7 : Int32))), .val (.int u.toInt32), .val (.int vv.toInt32), .val (.ref b109), .val (.ref b115), .val (.ref o118)] [(.int u.toInt32), (.int (2 : Int32)), (.int (1 : Int32)), (.int n.toInt32), (.ref o118)]))
    refine own_fwd (fun tt kt => XS.iload X123.here hx rfl (hb hby at_255) rfl kt) ?_
    show own_R p.tables e below P (T123.setTop (mkF m 257 #[.val (.int p0), .val (.int p1), .val (.int p2), .val (.int p3), .val (.int p4), .val (.int p5), .val (.int (2 : Int32)), .val (.int n.toInt32), .val (.int (((p5.toUInt32 >>> ((4 : Int32) &&& 31).toUInt32).toInt32) &&& (7 : Int32))), .val (.int (((p5.toUInt32 >>> ((7 : Int32) &&& 31).toUInt32).toInt32) &&& (7 : Int32))), .val (.int u.toInt32), .val (.int vv.toInt32), .val (.ref b109), .val (.ref b115), .val (.ref o118)] [(.int vv.toInt32), (.int u.toInt32), (.int (2 : Int32)), (.int (1 : Int32)), (.int n.toInt32), (.ref o118)]))
    refine own_fwd (fun tt kt => XS.iloadN X123.here hx rfl (hb hby at_257) rfl kt) ?_
    show own_R p.tables e below P (T123.setTop (mkF m 258 #[.val (.int p0), .val (.int p1), .val (.int p2), .val (.int p3), .val (.int p4), .val (.int p5), .val (.int (2 : Int32)), .val (.int n.toInt32), .val (.int (((p5.toUInt32 >>> ((4 : Int32) &&& 31).toUInt32).toInt32) &&& (7 : Int32))), .val (.int (((p5.toUInt32 >>> ((7 : Int32) &&& 31).toUInt32).toInt32) &&& (7 : Int32))), .val (.int u.toInt32), .val (.int vv.toInt32), .val (.ref b109), .val (.ref b115), .val (.ref o118)] [(.int p1), (.int vv.toInt32), (.int u.toInt32), (.int (2 : Int32)), (.int (1 : Int32)), (.int n.toInt32), (.ref o118)]))
    refine own_fwd (fun tt kt => XS.iloadN X123.here hx rfl (hb hby at_258) rfl kt) ?_
    show own_R p.tables e below P (T123.setTop (mkF m 259 #[.val (.int p0), .val (.int p1), .val (.int p2), .val (.int p3), .val (.int p4), .val (.int p5), .val (.int (2 : Int32)), .val (.int n.toInt32), .val (.int (((p5.toUInt32 >>> ((4 : Int32) &&& 31).toUInt32).toInt32) &&& (7 : Int32))), .val (.int (((p5.toUInt32 >>> ((7 : Int32) &&& 31).toUInt32).toInt32) &&& (7 : Int32))), .val (.int u.toInt32), .val (.int vv.toInt32), .val (.ref b109), .val (.ref b115), .val (.ref o118)] [(.int p2), (.int p1), (.int vv.toInt32), (.int u.toInt32), (.int (2 : Int32)), (.int (1 : Int32)), (.int n.toInt32), (.ref o118)]))
    refine own_fwd (fun tt kt => XS.iloadN X123.here hx rfl (hb hby at_259) rfl kt) ?_
    show own_R p.tables e below P (T123.setTop (mkF m 260 #[.val (.int p0), .val (.int p1), .val (.int p2), .val (.int p3), .val (.int p4), .val (.int p5), .val (.int (2 : Int32)), .val (.int n.toInt32), .val (.int (((p5.toUInt32 >>> ((4 : Int32) &&& 31).toUInt32).toInt32) &&& (7 : Int32))), .val (.int (((p5.toUInt32 >>> ((7 : Int32) &&& 31).toUInt32).toInt32) &&& (7 : Int32))), .val (.int u.toInt32), .val (.int vv.toInt32), .val (.ref b109), .val (.ref b115), .val (.ref o118)] [(.int p3), (.int p2), (.int p1), (.int vv.toInt32), (.int u.toInt32), (.int (2 : Int32)), (.int (1 : Int32)), (.int n.toInt32), (.ref o118)]))
    refine own_fwd (fun tt kt => XS.iload X123.here hx rfl (hb hby at_260) rfl kt) ?_
    show own_R p.tables e below P (T123.setTop (mkF m 262 #[.val (.int p0), .val (.int p1), .val (.int p2), .val (.int p3), .val (.int p4), .val (.int p5), .val (.int (2 : Int32)), .val (.int n.toInt32), .val (.int (((p5.toUInt32 >>> ((4 : Int32) &&& 31).toUInt32).toInt32) &&& (7 : Int32))), .val (.int (((p5.toUInt32 >>> ((7 : Int32) &&& 31).toUInt32).toInt32) &&& (7 : Int32))), .val (.int u.toInt32), .val (.int vv.toInt32), .val (.ref b109), .val (.ref b115), .val (.ref o118)] [(.int p4), (.int p3), (.int p2), (.int p1), (.int vv.toInt32), (.int u.toInt32), (.int (2 : Int32)), (.int (1 : Int32)), (.int n.toInt32), (.ref o118)]))
    have sl125a : 1 < n → (own_upd (own_upd (own_upd (own_upd (own_upd (fun _ => (0 : Int32)) 0 p0) (1 + u) p1) (1 + n + u) p3) (1 + vv) p2) (1 + n + vv) p4) (1 + 1) = own_exp (1 : Int32) (2 : Int32) u.toInt32 vv.toInt32 p1 p2 := by
      intro q
      rw [own_e2 (i := 1) rfl lu lv]; simp only [own_upd]
      have b1 := bu (by omega)
      have b2 := bv (by omega)
      repeat (first | rfl | omega | (split <;> try omega))
    have sl125b : 1 < n → (own_upd (own_upd (own_upd (own_upd (own_upd (fun _ => (0 : Int32)) 0 p0) (1 + u) p1) (1 + n + u) p3) (1 + vv) p2) (1 + n + vv) p4) (1 + n + 1) = own_exp (1 : Int32) (2 : Int32) u.toInt32 vv.toInt32 p3 p4 := by
      intro q
      rw [own_e2 (i := 1) rfl lu lv]; simp only [own_upd]
      have b1 := bu (by omega)
      have b2 := bv (by omega)
      repeat (first | rfl | omega | (split <;> try omega))
    obtain ⟨_, _, ⟨T126, L126, k126, n126⟩, -, X126, ⟨Lc126, hQ126, l126, y126, z126⟩, st126⟩ := Jvm.LawKit.callS X123 hx (y := (⟨"com/example/tracefold/tracefold/PlaceProgramMovedPinLaw", "slot", "([IIIIIIIIII)Z"⟩ : MethodName)) hown (mvT hZ (hw _ (List.mem_of_getElem? (i := 9) rfl))) (mvT hZ (hw _ (List.mem_of_getElem? (i := 10) rfl))) (mvT hZ (hw _ (List.mem_of_getElem? (i := 11) rfl))) (mvT hZ (hw _ (List.mem_of_getElem? (i := 12) rfl))) (by decide) (backOf (W := 0) (own_rm3 l Z a0 hw [] o118 n.toInt32 (1 : Int32) (2 : Int32) u.toInt32 vv.toInt32 p1 p2 p3 p4 n 1 (own_upd (own_upd (own_upd (own_upd (own_upd (fun _ => (0 : Int32)) 0 p0) (1 + u) p1) (1 + n + u) p3) (1 + vv) p2) (1 + n + vv) p4) h118 n0 Z118 A118_ ln rfl bn (by omega) sl125a sl125b) hZ (hw _ (List.mem_of_getElem? (i := 12) rfl)) (hw _ (List.mem_of_getElem? (i := 11) rfl)) (by decide) (by decide)) (g := (mkF m 262 #[.val (.int p0), .val (.int p1), .val (.int p2), .val (.int p3), .val (.int p4), .val (.int p5), .val (.int (2 : Int32)), .val (.int n.toInt32), .val (.int (((p5.toUInt32 >>> ((4 : Int32) &&& 31).toUInt32).toInt32) &&& (7 : Int32))), .val (.int (((p5.toUInt32 >>> ((7 : Int32) &&& 31).toUInt32).toInt32) &&& (7 : Int32))), .val (.int u.toInt32), .val (.int vv.toInt32), .val (.ref b109), .val (.ref b115), .val (.ref o118)] [(.int p4), (.int p3), (.int p2), (.int p1), (.int vv.toInt32), (.int u.toInt32), (.int (2 : Int32)), (.int (1 : Int32)), (.int n.toInt32), (.ref o118)])) rfl (by rw [hml]; rfl) (argsL := [(.ref o118), (.int n.toInt32), (.int (1 : Int32)), (.int (2 : Int32)), (.int u.toInt32), (.int vv.toInt32), (.int p1), (.int p2), (.int p3), (.int p4)]) (rest := []) (lenOf own_pd3 rfl) rfl (by show 2 * 0 + _ ≤ _; exact Nat.le_of_eq rfl) (hb hby at_262) (fun _ _ => ⟨rfl, e123, (by decide : 3 + 0 ≤ _), (by decide : 14 + 0 ≤ _)⟩)
    dsimp only [Pt.U, Pt.locs, Pt.cells, Pt.slots] at X126 l126 y126 z126 st126 hQ126
    subst l126 y126 z126
    obtain ⟨h126, e126⟩ : ∃ z, T126.heap = z := ⟨_, rfl⟩
    rw [e126] at hQ126
    obtain ⟨hq126, N126q, q126⟩ := hQ126
    rw [q126] at e126
    subst hq126
    have N126 := Fr.app N123 N126q
    refine own_fwd st126 ?_
    show own_R p.tables e below P (T126.setTop (mkF m 265 #[.val (.int p0), .val (.int p1), .val (.int p2), .val (.int p3), .val (.int p4), .val (.int p5), .val (.int (2 : Int32)), .val (.int n.toInt32), .val (.int (((p5.toUInt32 >>> ((4 : Int32) &&& 31).toUInt32).toInt32) &&& (7 : Int32))), .val (.int (((p5.toUInt32 >>> ((7 : Int32) &&& 31).toUInt32).toInt32) &&& (7 : Int32))), .val (.int u.toInt32), .val (.int vv.toInt32), .val (.ref b109), .val (.ref b115), .val (.ref o118)] [(.int (1 : Int32))]))
    have hc127 : ¬ ((1 : Int32) = (0 : Int32)) := (by decide)
    refine own_fwd (fun tt kt => XS.ifNo X126.here hx rfl (hb hby at_265) rfl ((if0 _ _).trans (feq hc127).1) kt) ?_
    show own_R p.tables e below P (T126.setTop (mkF m 268 #[.val (.int p0), .val (.int p1), .val (.int p2), .val (.int p3), .val (.int p4), .val (.int p5), .val (.int (2 : Int32)), .val (.int n.toInt32), .val (.int (((p5.toUInt32 >>> ((4 : Int32) &&& 31).toUInt32).toInt32) &&& (7 : Int32))), .val (.int (((p5.toUInt32 >>> ((7 : Int32) &&& 31).toUInt32).toInt32) &&& (7 : Int32))), .val (.int u.toInt32), .val (.int vv.toInt32), .val (.ref b109), .val (.ref b115), .val (.ref o118)] []))
    refine own_fwd (fun tt kt => XS.aload X126.here hx rfl (hb hby at_268) rfl rfl kt) ?_
    show own_R p.tables e below P (T126.setTop (mkF m 270 #[.val (.int p0), .val (.int p1), .val (.int p2), .val (.int p3), .val (.int p4), .val (.int p5), .val (.int (2 : Int32)), .val (.int n.toInt32), .val (.int (((p5.toUInt32 >>> ((4 : Int32) &&& 31).toUInt32).toInt32) &&& (7 : Int32))), .val (.int (((p5.toUInt32 >>> ((7 : Int32) &&& 31).toUInt32).toInt32) &&& (7 : Int32))), .val (.int u.toInt32), .val (.int vv.toInt32), .val (.ref b109), .val (.ref b115), .val (.ref o118)] [(.ref o118)]))
    refine own_fwd (fun tt kt => XS.iload X126.here hx rfl (hb hby at_270) rfl kt) ?_
    show own_R p.tables e below P (T126.setTop (mkF m 272 #[.val (.int p0), .val (.int p1), .val (.int p2), .val (.int p3), .val (.int p4), .val (.int p5), .val (.int (2 : Int32)), .val (.int n.toInt32), .val (.int (((p5.toUInt32 >>> ((4 : Int32) &&& 31).toUInt32).toInt32) &&& (7 : Int32))), .val (.int (((p5.toUInt32 >>> ((7 : Int32) &&& 31).toUInt32).toInt32) &&& (7 : Int32))), .val (.int u.toInt32), .val (.int vv.toInt32), .val (.ref b109), .val (.ref b115), .val (.ref o118)] [(.int n.toInt32), (.ref o118)]))
    refine own_fwd (fun tt kt => XS.iconst X126.here hx rfl (hb hby at_272) kt) ?_
    show own_R p.tables e below P (T126.setTop (mkF m 273 #[.val (.int p0), .val (.int p1), .val (.int p2), .val (.int p3), .val (.int p4), .val (.int p5), .val (.int (2 : Int32)), .val (.int n.toInt32), .val (.int (((p5.toUInt32 >>> ((4 : Int32) &&& 31).toUInt32).toInt32) &&& (7 : Int32))), .val (.int (((p5.toUInt32 >>> ((7 : Int32) &&& 31).toUInt32).toInt32) &&& (7 : Int32))), .val (.int u.toInt32), .val (.int vv.toInt32), .val (.ref b109), .val (.ref b115), .val (.ref o118)] [(.int (2 : Int32)), (.int n.toInt32), (.ref o118)]))
    refine own_fwd (fun tt kt => XS.iload X126.here hx rfl (hb hby at_273) rfl kt) ?_
    show own_R p.tables e below P (T126.setTop (mkF m 275 #[.val (.int p0), .val (.int p1), .val (.int p2), .val (.int p3), .val (.int p4), .val (.int p5), .val (.int (2 : Int32)), .val (.int n.toInt32), .val (.int (((p5.toUInt32 >>> ((4 : Int32) &&& 31).toUInt32).toInt32) &&& (7 : Int32))), .val (.int (((p5.toUInt32 >>> ((7 : Int32) &&& 31).toUInt32).toInt32) &&& (7 : Int32))), .val (.int u.toInt32), .val (.int vv.toInt32), .val (.ref b109), .val (.ref b115), .val (.ref o118)] [(.int (2 : Int32)), (.int (2 : Int32)), (.int n.toInt32), (.ref o118)]))
    refine own_fwd (fun tt kt => XS.iload X126.here hx rfl (hb hby at_275) rfl kt) ?_
    show own_R p.tables e below P (T126.setTop (mkF m 277 #[.val (.int p0), .val (.int p1), .val (.int p2), .val (.int p3), .val (.int p4), .val (.int p5), .val (.int (2 : Int32)), .val (.int n.toInt32), .val (.int (((p5.toUInt32 >>> ((4 : Int32) &&& 31).toUInt32).toInt32) &&& (7 : Int32))), .val (.int (((p5.toUInt32 >>> ((7 : Int32) &&& 31).toUInt32).toInt32) &&& (7 : Int32))), .val (.int u.toInt32), .val (.int vv.toInt32), .val (.ref b109), .val (.ref b115), .val (.ref o118)] [(.int u.toInt32), (.int (2 : Int32)), (.int (2 : Int32)), (.int n.toInt32), (.ref o118)]))
    refine own_fwd (fun tt kt => XS.iload X126.here hx rfl (hb hby at_277) rfl kt) ?_
    show own_R p.tables e below P (T126.setTop (mkF m 279 #[.val (.int p0), .val (.int p1), .val (.int p2), .val (.int p3), .val (.int p4), .val (.int p5), .val (.int (2 : Int32)), .val (.int n.toInt32), .val (.int (((p5.toUInt32 >>> ((4 : Int32) &&& 31).toUInt32).toInt32) &&& (7 : Int32))), .val (.int (((p5.toUInt32 >>> ((7 : Int32) &&& 31).toUInt32).toInt32) &&& (7 : Int32))), .val (.int u.toInt32), .val (.int vv.toInt32), .val (.ref b109), .val (.ref b115), .val (.ref o118)] [(.int vv.toInt32), (.int u.toInt32), (.int (2 : Int32)), (.int (2 : Int32)), (.int n.toInt32), (.ref o118)]))
    refine own_fwd (fun tt kt => XS.iloadN X126.here hx rfl (hb hby at_279) rfl kt) ?_
    show own_R p.tables e below P (T126.setTop (mkF m 280 #[.val (.int p0), .val (.int p1), .val (.int p2), .val (.int p3), .val (.int p4), .val (.int p5), .val (.int (2 : Int32)), .val (.int n.toInt32), .val (.int (((p5.toUInt32 >>> ((4 : Int32) &&& 31).toUInt32).toInt32) &&& (7 : Int32))), .val (.int (((p5.toUInt32 >>> ((7 : Int32) &&& 31).toUInt32).toInt32) &&& (7 : Int32))), .val (.int u.toInt32), .val (.int vv.toInt32), .val (.ref b109), .val (.ref b115), .val (.ref o118)] [(.int p1), (.int vv.toInt32), (.int u.toInt32), (.int (2 : Int32)), (.int (2 : Int32)), (.int n.toInt32), (.ref o118)]))
    refine own_fwd (fun tt kt => XS.iloadN X126.here hx rfl (hb hby at_280) rfl kt) ?_
    show own_R p.tables e below P (T126.setTop (mkF m 281 #[.val (.int p0), .val (.int p1), .val (.int p2), .val (.int p3), .val (.int p4), .val (.int p5), .val (.int (2 : Int32)), .val (.int n.toInt32), .val (.int (((p5.toUInt32 >>> ((4 : Int32) &&& 31).toUInt32).toInt32) &&& (7 : Int32))), .val (.int (((p5.toUInt32 >>> ((7 : Int32) &&& 31).toUInt32).toInt32) &&& (7 : Int32))), .val (.int u.toInt32), .val (.int vv.toInt32), .val (.ref b109), .val (.ref b115), .val (.ref o118)] [(.int p2), (.int p1), (.int vv.toInt32), (.int u.toInt32), (.int (2 : Int32)), (.int (2 : Int32)), (.int n.toInt32), (.ref o118)]))
    refine own_fwd (fun tt kt => XS.iloadN X126.here hx rfl (hb hby at_281) rfl kt) ?_
    show own_R p.tables e below P (T126.setTop (mkF m 282 #[.val (.int p0), .val (.int p1), .val (.int p2), .val (.int p3), .val (.int p4), .val (.int p5), .val (.int (2 : Int32)), .val (.int n.toInt32), .val (.int (((p5.toUInt32 >>> ((4 : Int32) &&& 31).toUInt32).toInt32) &&& (7 : Int32))), .val (.int (((p5.toUInt32 >>> ((7 : Int32) &&& 31).toUInt32).toInt32) &&& (7 : Int32))), .val (.int u.toInt32), .val (.int vv.toInt32), .val (.ref b109), .val (.ref b115), .val (.ref o118)] [(.int p3), (.int p2), (.int p1), (.int vv.toInt32), (.int u.toInt32), (.int (2 : Int32)), (.int (2 : Int32)), (.int n.toInt32), (.ref o118)]))
    refine own_fwd (fun tt kt => XS.iload X126.here hx rfl (hb hby at_282) rfl kt) ?_
    show own_R p.tables e below P (T126.setTop (mkF m 284 #[.val (.int p0), .val (.int p1), .val (.int p2), .val (.int p3), .val (.int p4), .val (.int p5), .val (.int (2 : Int32)), .val (.int n.toInt32), .val (.int (((p5.toUInt32 >>> ((4 : Int32) &&& 31).toUInt32).toInt32) &&& (7 : Int32))), .val (.int (((p5.toUInt32 >>> ((7 : Int32) &&& 31).toUInt32).toInt32) &&& (7 : Int32))), .val (.int u.toInt32), .val (.int vv.toInt32), .val (.ref b109), .val (.ref b115), .val (.ref o118)] [(.int p4), (.int p3), (.int p2), (.int p1), (.int vv.toInt32), (.int u.toInt32), (.int (2 : Int32)), (.int (2 : Int32)), (.int n.toInt32), (.ref o118)]))
    have sl128a : 2 < n → (own_upd (own_upd (own_upd (own_upd (own_upd (fun _ => (0 : Int32)) 0 p0) (1 + u) p1) (1 + n + u) p3) (1 + vv) p2) (1 + n + vv) p4) (1 + 2) = own_exp (2 : Int32) (2 : Int32) u.toInt32 vv.toInt32 p1 p2 := by
      intro q
      rw [own_e2 (i := 2) rfl lu lv]; simp only [own_upd]
      have b1 := bu (by omega)
      have b2 := bv (by omega)
      repeat (first | rfl | omega | (split <;> try omega))
    have sl128b : 2 < n → (own_upd (own_upd (own_upd (own_upd (own_upd (fun _ => (0 : Int32)) 0 p0) (1 + u) p1) (1 + n + u) p3) (1 + vv) p2) (1 + n + vv) p4) (1 + n + 2) = own_exp (2 : Int32) (2 : Int32) u.toInt32 vv.toInt32 p3 p4 := by
      intro q
      rw [own_e2 (i := 2) rfl lu lv]; simp only [own_upd]
      have b1 := bu (by omega)
      have b2 := bv (by omega)
      repeat (first | rfl | omega | (split <;> try omega))
    obtain ⟨_, _, ⟨T129, L129, k129, n129⟩, -, X129, ⟨Lc129, hQ129, l129, y129, z129⟩, st129⟩ := Jvm.LawKit.callS X126 hx (y := (⟨"com/example/tracefold/tracefold/PlaceProgramMovedPinLaw", "slot", "([IIIIIIIIII)Z"⟩ : MethodName)) hown (mvT hZ (hw _ (List.mem_of_getElem? (i := 9) rfl))) (mvT hZ (hw _ (List.mem_of_getElem? (i := 10) rfl))) (mvT hZ (hw _ (List.mem_of_getElem? (i := 11) rfl))) (mvT hZ (hw _ (List.mem_of_getElem? (i := 12) rfl))) (by decide) (backOf (W := 0) (own_rm3 l Z a0 hw [] o118 n.toInt32 (2 : Int32) (2 : Int32) u.toInt32 vv.toInt32 p1 p2 p3 p4 n 2 (own_upd (own_upd (own_upd (own_upd (own_upd (fun _ => (0 : Int32)) 0 p0) (1 + u) p1) (1 + n + u) p3) (1 + vv) p2) (1 + n + vv) p4) h118 n0 Z118 A118_ ln rfl bn (by omega) sl128a sl128b) hZ (hw _ (List.mem_of_getElem? (i := 12) rfl)) (hw _ (List.mem_of_getElem? (i := 11) rfl)) (by decide) (by decide)) (g := (mkF m 284 #[.val (.int p0), .val (.int p1), .val (.int p2), .val (.int p3), .val (.int p4), .val (.int p5), .val (.int (2 : Int32)), .val (.int n.toInt32), .val (.int (((p5.toUInt32 >>> ((4 : Int32) &&& 31).toUInt32).toInt32) &&& (7 : Int32))), .val (.int (((p5.toUInt32 >>> ((7 : Int32) &&& 31).toUInt32).toInt32) &&& (7 : Int32))), .val (.int u.toInt32), .val (.int vv.toInt32), .val (.ref b109), .val (.ref b115), .val (.ref o118)] [(.int p4), (.int p3), (.int p2), (.int p1), (.int vv.toInt32), (.int u.toInt32), (.int (2 : Int32)), (.int (2 : Int32)), (.int n.toInt32), (.ref o118)])) rfl (by rw [hml]; rfl) (argsL := [(.ref o118), (.int n.toInt32), (.int (2 : Int32)), (.int (2 : Int32)), (.int u.toInt32), (.int vv.toInt32), (.int p1), (.int p2), (.int p3), (.int p4)]) (rest := []) (lenOf own_pd3 rfl) rfl (by show 2 * 0 + _ ≤ _; exact Nat.le_of_eq rfl) (hb hby at_284) (fun _ _ => ⟨rfl, e126, (by decide : 3 + 0 ≤ _), (by decide : 14 + 0 ≤ _)⟩)
    dsimp only [Pt.U, Pt.locs, Pt.cells, Pt.slots] at X129 l129 y129 z129 st129 hQ129
    subst l129 y129 z129
    obtain ⟨h129, e129⟩ : ∃ z, T129.heap = z := ⟨_, rfl⟩
    rw [e129] at hQ129
    obtain ⟨hq129, N129q, q129⟩ := hQ129
    rw [q129] at e129
    subst hq129
    have N129 := Fr.app N126 N129q
    refine own_fwd st129 ?_
    show own_R p.tables e below P (T129.setTop (mkF m 287 #[.val (.int p0), .val (.int p1), .val (.int p2), .val (.int p3), .val (.int p4), .val (.int p5), .val (.int (2 : Int32)), .val (.int n.toInt32), .val (.int (((p5.toUInt32 >>> ((4 : Int32) &&& 31).toUInt32).toInt32) &&& (7 : Int32))), .val (.int (((p5.toUInt32 >>> ((7 : Int32) &&& 31).toUInt32).toInt32) &&& (7 : Int32))), .val (.int u.toInt32), .val (.int vv.toInt32), .val (.ref b109), .val (.ref b115), .val (.ref o118)] [(.int (1 : Int32))]))
    have hc130 : ¬ ((1 : Int32) = (0 : Int32)) := (by decide)
    refine own_fwd (fun tt kt => XS.ifNo X129.here hx rfl (hb hby at_287) rfl ((if0 _ _).trans (feq hc130).1) kt) ?_
    show own_R p.tables e below P (T129.setTop (mkF m 290 #[.val (.int p0), .val (.int p1), .val (.int p2), .val (.int p3), .val (.int p4), .val (.int p5), .val (.int (2 : Int32)), .val (.int n.toInt32), .val (.int (((p5.toUInt32 >>> ((4 : Int32) &&& 31).toUInt32).toInt32) &&& (7 : Int32))), .val (.int (((p5.toUInt32 >>> ((7 : Int32) &&& 31).toUInt32).toInt32) &&& (7 : Int32))), .val (.int u.toInt32), .val (.int vv.toInt32), .val (.ref b109), .val (.ref b115), .val (.ref o118)] []))
    refine own_fwd (fun tt kt => XS.iconst X129.here hx rfl (hb hby at_290) kt) ?_
    show own_R p.tables e below P (T129.setTop (mkF m 291 #[.val (.int p0), .val (.int p1), .val (.int p2), .val (.int p3), .val (.int p4), .val (.int p5), .val (.int (2 : Int32)), .val (.int n.toInt32), .val (.int (((p5.toUInt32 >>> ((4 : Int32) &&& 31).toUInt32).toInt32) &&& (7 : Int32))), .val (.int (((p5.toUInt32 >>> ((7 : Int32) &&& 31).toUInt32).toInt32) &&& (7 : Int32))), .val (.int u.toInt32), .val (.int vv.toInt32), .val (.ref b109), .val (.ref b115), .val (.ref o118)] [(.int (1 : Int32))]))
    refine own_fwd (fun tt kt => XS.goto X129.here hx rfl (pc0 := 291) (pc' := 295) rfl (hb hby at_291) (by decide) (by decide) kt) ?_
    show own_R p.tables e below P (T129.setTop (mkF m 295 #[.val (.int p0), .val (.int p1), .val (.int p2), .val (.int p3), .val (.int p4), .val (.int p5), .val (.int (2 : Int32)), .val (.int n.toInt32), .val (.int (((p5.toUInt32 >>> ((4 : Int32) &&& 31).toUInt32).toInt32) &&& (7 : Int32))), .val (.int (((p5.toUInt32 >>> ((7 : Int32) &&& 31).toUInt32).toInt32) &&& (7 : Int32))), .val (.int u.toInt32), .val (.int vv.toInt32), .val (.ref b109), .val (.ref b115), .val (.ref o118)] [(.int (1 : Int32))]))
    obtain ⟨fs131, hr131, hrun131, hended131, hW131, hsame131⟩ := X129.leave (v := some (.int (1 : Int32))) (fun h => by rw [Bd.returns] at h; cases h)
    refine ⟨_, _, X129.ireturnOut hx (w := (1 : Int32)) Bd.returns rfl (by simp) (hb hby at_295) hr131, fin _ _ ⟨hrun131, hended131, _, _, rfl, ?_, ⟨_, rfl⟩, hW131, hsame131.mono (by decide) (by decide)⟩⟩
    show own_Qlaw Z p0 p1 p2 p3 p4 p5 h0 n0 _ T129.heap _
    rw [e129]
    exact ⟨rfl, N129⟩
set_option maxRecDepth 65536 in
set_option maxHeartbeats 40000000 in
theorem own_comes {Post : Tables → Env → Array Value → State → Outcome → State → Prop} (hpost : ∀ tb e args s v u, (limb_1_1.after args s (.returned v) u = true ∧ limb_1_2.after args s (.returned v) u = true ∧ True) → FrameEnd s (.returned v) u (Jvm.fieldLocs frame_1_writes args s ++ Jvm.arrayLocs frame_1_arrays args s ++ Jvm.staticLocs frame_1_statics s) 16 128 → Post tb e args s (.returned v) u) :
    ArmFor flags0 classFile x code maxLocals ret World_1 tables_1 room_1 Calls_1 rest_1 Pre_1 Post := by
  intro l hfl _ _ p e ha hc hk s m args below hf hA hF happ hP
  obtain ⟨hcalls, hrest, hpre⟩ := hP
  obtain ⟨-, -, -, hnamed, -, -, -, hat⟩ := (Spec.applies_iff hf).mp happ
  obtain ⟨hg, hn⟩ := and_e (Cond.before_iff.mp (show (Jvm.Cond.and given_1 narrow_1).before args s = true from hpre))
  obtain ⟨g1, g2⟩ := and_e hg
  obtain ⟨g3, g4⟩ := and_e g2
  obtain ⟨g5, g6⟩ := and_e g4
  obtain ⟨g7, g8⟩ := and_e g6
  obtain ⟨g9, g10⟩ := and_e g8
  obtain ⟨g11, g12⟩ := and_e g10
  obtain ⟨w0, w1, w2, w3, w4, w5, rfl⟩ : ∃ w0 w1 w2 w3 w4 w5 : Value, args = #[w0, w1, w2, w3, w4, w5] := by
    have hs : args.size = 6 := by simpa [Cond.value, given_1] using g1
    obtain ⟨L⟩ := args
    match L, hs with
    | [w0, w1, w2, w3, w4, w5], _ => exact ⟨w0, w1, w2, w3, w4, w5, rfl⟩
  have hw := fun d (hd : d ∈ tables_1) => atoms_spec (ws := Jvm.Cond.code x code maxLocals ret :: tables_1) hat d (List.mem_cons_of_mem _ hd)
  obtain ⟨i0, ei0⟩ := is_v g3
  obtain rfl : w0 = (.int i0) := Option.some.inj ei0
  obtain ⟨i1, ei1⟩ := is_v g5
  obtain rfl : w1 = (.int i1) := Option.some.inj ei1
  obtain ⟨i2, ei2⟩ := is_v g7
  obtain rfl : w2 = (.int i2) := Option.some.inj ei2
  obtain ⟨i3, ei3⟩ := is_v g9
  obtain rfl : w3 = (.int i3) := Option.some.inj ei3
  obtain ⟨i4, ei4⟩ := is_v g11
  obtain rfl : w4 = (.int i4) := Option.some.inj ei4
  obtain ⟨i5, ei5⟩ := is_v g12
  obtain rfl : w5 = (.int i5) := Option.some.inj ei5
  obtain ⟨n, o, h1, h2, h3, _, L, rfl, ⟨rfl, N⟩, hq⟩ := own_rmlaw l s _ hw tables_1 i0 i1 i2 i3 i4 i5 s.heap s.heap.size (Nat.le_refl _) p e ha hc hk s m _ below hf ((Spec.applies_iff_loose hf).mp happ).1 ⟨rfl, State.Warmed39.refl s, rfl⟩ trivial
  refine ⟨n, _, h1, h2, h3, hpost _ _ _ _ _ _ ⟨Cond.after_iff.mpr rfl, Cond.after_iff.mpr (eq_i res_at (Term.int_eval (1)) rfl), trivial⟩ ⟨hq.1, hq.2.1, (hq.2.2.sift fun y hy => Or.inr (N y hy)).mono (by decide) (by decide)⟩⟩
theorem main_1_1 : Claimed_1_1 := own_comes fun _ _ _ _ _ _ h hF => ⟨h.1, hF⟩
theorem main_1_2 : Claimed_1_2 := own_comes fun _ _ _ _ _ _ h hF => ⟨h.2.1, hF⟩
end Jvm.Pilot.@@N@@
namespace Jvm.Pilot.@@N@@
open Jvm Jvm.ClassFile Sem Op Lib Jvm.Free Jvm.Stand Jvm.Pilot.@@N@@.Jvm.D
/-! MADE BY PROGRAM (witnessworld.py) out of the Statement's table words and the real class files: 10 classes; the members and pool entries that the words name. The judged class is class 1, her method 1. -/
namespace start1
open Jvm.ClassFile
def u (s : String) : CpInfo := .utf8 (stringToUtf16 s)
/-- a pool by its gaps: so many unusable entries, then the entry; so many at the end -/
def gap : Nat → List CpInfo → List CpInfo
  | 0, r => r
  | n + 1, r => .unusable :: gap n r
def poolList (es : List (Nat × CpInfo)) (last : Nat) : List CpInfo := es.foldr (fun e r => gap e.1 (e.2 :: r)) (gap last [])
def pool (es : List (Nat × CpInfo)) (last : Nat) : Array CpInfo := ⟨poolList es last⟩
def fileOf (pool : Array CpInfo) (this : Nat) (attrs : Array Attribute := #[]) (ms : Array MethodInfo := #[]) (fl : Nat := 33) (sup : Nat := 0) (ifs : Array Nat := #[]) (fds : Array FieldInfo := #[]) : ClassFile where
  minorVersion := 0
  majorVersion := 65
  constantPool := pool
  accessFlags := fl
  thisClass := this
  superClass := sup
  interfaces := ifs
  fields := fds
  methods := ms
  attributes := attrs
def plain (name : String) (sup : Option ClassId) : Class where
  name := name
  kind := .ordinary
  loader := none
  accessFlags := 33
  super := sup
  interfaces := #[]
  cf := none
  fields := #[]
  methods := #[]
  instanceTypes := #[]
  staticTypes := #[]
  resolved := #[]
  callSites := []
  init := .initialized
  statics := none
  mirror := none

def pool0 : Array CpInfo := pool [(5, u "<init>"), (0, u "()V"), (1, .class_ 10), (1, u "java/lang/Object")] 113

def k0m0 : Method := { name := "<init>", desc := "()V", sig := { parameters := [], returnType := none }, accessFlags := 1, code := none }
/-- java/lang/Object -/
def k0 : Class := { plain "java/lang/Object" none with
  accessFlags := 33
  interfaces := #[]
  cf := some (fileOf pool0 8 #[] #[{ accessFlags := 1, nameIndex := 5, descriptorIndex := 6, attributes := #[] }] 33 0 #[] #[])
  fields := #[]
  methods := #[k0m0]
  instanceTypes := #[]
  staticTypes := #[]
  resolved := Array.replicate 124 none
  statics := none }

def pool1 : Array CpInfo := pool [(2, .class_ 4), (1, u "java/lang/Object"), (0, u "<init>"), (0, u "()V"), (0, .methodref 8 9), (0, .class_ 10), (0, .nameAndType 11 12), (0, u "java/lang/Math"), (0, u "min"), (0, u "(II)I"), (0, .methodref 14 15), (0, .class_ 16), (0, .nameAndType 17 18), (0, u "com/example/tracefold/tracefold/PlaceProgram"), (0, u "moved"), (0, u "([I[II)[I"), (0, .methodref 20 21), (0, .class_ 22), (0, .nameAndType 23 24), (0, u "com/example/tracefold/tracefold/PlaceProgramMovedPinLaw"), (0, u "slot"), (0, u "([IIIIIIIIII)Z"), (0, .methodref 20 26), (0, .nameAndType 27 28), (0, u "expected"), (0, u "(IIIIII)I"), (2, u "law"), (0, u "(IIIIII)Z")] 5

def k1m0 : Method := { name := "<init>", desc := "()V", sig := { parameters := [], returnType := none }, accessFlags := 1, code := none }
def k1c1 : Code := { maxStack := 10, maxLocals := 15, code := code, exceptionTable := #[], attributes := #[] }
def k1m1 : Method := { name := "law", desc := "(IIIIII)Z", sig := { parameters := [.int, .int, .int, .int, .int, .int], returnType := some .boolean }, accessFlags := 9, code := some k1c1 }
def k1c2 : Code := { maxStack := 2, maxLocals := 6, code := method_3_code, exceptionTable := #[], attributes := #[] }
def k1m2 : Method := { name := "expected", desc := "(IIIIII)I", sig := { parameters := [.int, .int, .int, .int, .int, .int], returnType := some .int }, accessFlags := 10, code := some k1c2 }
def k1c3 : Code := { maxStack := 7, maxLocals := 10, code := method_4_code, exceptionTable := #[], attributes := #[] }
def k1m3 : Method := { name := "slot", desc := "([IIIIIIIIII)Z", sig := { parameters := [(.array .int), .int, .int, .int, .int, .int, .int, .int, .int, .int], returnType := some .boolean }, accessFlags := 10, code := some k1c3 }
/-- com/example/tracefold/tracefold/PlaceProgramMovedPinLaw -/
def k1 : Class := { plain "com/example/tracefold/tracefold/PlaceProgramMovedPinLaw" (some 0) with
  accessFlags := 49
  interfaces := #[]
  cf := some (fileOf pool1 20 #[] #[{ accessFlags := 1, nameIndex := 5, descriptorIndex := 6, attributes := #[] }, { accessFlags := 9, nameIndex := 31, descriptorIndex := 32, attributes := #[] }, { accessFlags := 10, nameIndex := 27, descriptorIndex := 28, attributes := #[] }, { accessFlags := 10, nameIndex := 23, descriptorIndex := 24, attributes := #[] }] 49 2 #[] #[])
  fields := #[]
  methods := #[k1m0, k1m1, k1m2, k1m3]
  instanceTypes := #[]
  staticTypes := #[]
  resolved := Array.replicate 38 none
  statics := none }

def pool2 : Array CpInfo := pool [(1, .class_ 2), (0, u "java/lang/Math"), (1, .class_ 6), (1, u "java/lang/Object"), (0, u "<init>"), (0, u "()V"), (89, .class_ 100), (1, u "java/lang/Math$RandomNumberGeneratorHolder"), (71, u "negativeZeroFloatBits"), (0, u "J"), (2, u "negativeZeroDoubleBits"), (24, u "min"), (43, u "$assertionsDisabled"), (0, u "Z"), (88, u "(II)I"), (2, u "twoToTheDoubleScaleDown"), (0, u "D"), (4, u "twoToTheDoubleScaleUp"), (9, u "E"), (3, u "PI"), (2, u "TAU"), (2, u "DEGREES_TO_RADIANS"), (0, u "RADIANS_TO_DEGREES")] 94

def k2m0 : Method := { name := "<init>", desc := "()V", sig := { parameters := [], returnType := none }, accessFlags := 2, code := none }
def k2c1 : Code := { maxStack := 2, maxLocals := 2, code := jdk_29_method_69_code, exceptionTable := #[], attributes := #[] }
def k2m1 : Method := { name := "min", desc := "(II)I", sig := { parameters := [.int, .int], returnType := some .int }, accessFlags := 9, code := some k2c1 }
/-- java/lang/Math -/
def k2 : Class := { plain "java/lang/Math" (some 0) with
  accessFlags := 49
  interfaces := #[]
  cf := some (fileOf pool2 1 #[.nestMembers #[98]] #[{ accessFlags := 2, nameIndex := 7, descriptorIndex := 8, attributes := #[] }, { accessFlags := 9, nameIndex := 201, descriptorIndex := 335, attributes := #[] }] 49 4 #[] #[{ accessFlags := 25, nameIndex := 354, descriptorIndex := 339, attributes := #[] }, { accessFlags := 25, nameIndex := 358, descriptorIndex := 339, attributes := #[] }, { accessFlags := 25, nameIndex := 361, descriptorIndex := 339, attributes := #[] }, { accessFlags := 26, nameIndex := 364, descriptorIndex := 339, attributes := #[] }, { accessFlags := 26, nameIndex := 365, descriptorIndex := 339, attributes := #[] }, { accessFlags := 26, nameIndex := 172, descriptorIndex := 173, attributes := #[] }, { accessFlags := 26, nameIndex := 176, descriptorIndex := 173, attributes := #[] }, { accessFlags := 8, nameIndex := 344, descriptorIndex := 339, attributes := #[] }, { accessFlags := 8, nameIndex := 338, descriptorIndex := 339, attributes := #[] }, { accessFlags := 4120, nameIndex := 245, descriptorIndex := 246, attributes := #[] }])
  fields := #[{ name := "E", type := .double, accessFlags := 25, slot := 0, constantValue := 0 }, { name := "PI", type := .double, accessFlags := 25, slot := 1, constantValue := 0 }, { name := "TAU", type := .double, accessFlags := 25, slot := 2, constantValue := 0 }, { name := "DEGREES_TO_RADIANS", type := .double, accessFlags := 26, slot := 3, constantValue := 0 }, { name := "RADIANS_TO_DEGREES", type := .double, accessFlags := 26, slot := 4, constantValue := 0 }, { name := "negativeZeroFloatBits", type := .long, accessFlags := 26, slot := 5, constantValue := 0 }, { name := "negativeZeroDoubleBits", type := .long, accessFlags := 26, slot := 6, constantValue := 0 }, { name := "twoToTheDoubleScaleUp", type := .double, accessFlags := 8, slot := 7, constantValue := 0 }, { name := "twoToTheDoubleScaleDown", type := .double, accessFlags := 8, slot := 8, constantValue := 0 }, { name := "$assertionsDisabled", type := .boolean, accessFlags := 4120, slot := 9, constantValue := 0 }]
  methods := #[k2m0, k2m1]
  instanceTypes := #[]
  staticTypes := #[.double, .double, .double, .double, .double, .long, .long, .double, .double, .boolean]
  resolved := Array.replicate 460 none
  statics := none }

def pool3 : Array CpInfo := pool [(2, .class_ 4), (1, u "java/lang/Object"), (6, .class_ 13), (1, u "com/example/tracefold/tracefold/PlaceProgram"), (0, u "effects"), (0, u "Ljava/util/List;"), (5, u "together"), (0, u "Lcom/example/tracefold/tracefold/Conflicts;"), (2, u "graph"), (0, u "Lcom/example/tracefold/tracefold/LogGraph;"), (14, u "activityCount"), (0, u "I"), (12, u "scratch"), (0, u "Ljava/lang/ThreadLocal;"), (3, u "chainScratch"), (2, u "steps"), (3, u "Lcom/example/tracefold/tracefold/Steps;"), (0, .class_ 69), (0, u "com/example/tracefold/tracefold/PlaceProgram$ReadSteps"), (2, u "taking"), (0, u "[Lcom/example/tracefold/tracefold/PlaceProgram$ReadSteps;"), (25, u "every"), (0, u "Lcom/example/tracefold/tracefold/PlaceProgram$ReadSteps;"), (4, u "[[J"), (2, u "forms"), (7, u "unsolvedBy"), (0, u "Ljava/util/concurrent/atomic/AtomicReferenceArray;"), (112, .class_ 231), (0, u "com/example/tracefold/tracefold/PlaceProgram$Program"), (31, .class_ 264), (0, u "com/example/tracefold/tracefold/PlaceProgram$WholePlace"), (14, .class_ 280), (0, u "com/example/tracefold/tracefold/PlaceProgram$Reading"), (255, u "moved"), (0, u "([I[II)[I")] 98

def k3c0 : Code := { maxStack := 5, maxLocals := 5, code := prog_51_method_29_code, exceptionTable := #[], attributes := #[] }
def k3m0 : Method := { name := "moved", desc := "([I[II)[I", sig := { parameters := [(.array .int), (.array .int), .int], returnType := some (.array .int) }, accessFlags := 8, code := some k3c0 }
/-- com/example/tracefold/tracefold/PlaceProgram -/
def k3 : Class := { plain "com/example/tracefold/tracefold/PlaceProgram" (some 0) with
  accessFlags := 48
  interfaces := #[]
  cf := some (fileOf pool3 11 #[.nestMembers #[263, 230, 279, 68]] #[{ accessFlags := 8, nameIndex := 536, descriptorIndex := 537, attributes := #[] }] 48 2 #[] #[{ accessFlags := 18, nameIndex := 25, descriptorIndex := 26, attributes := #[] }, { accessFlags := 18, nameIndex := 41, descriptorIndex := 42, attributes := #[] }, { accessFlags := 18, nameIndex := 63, descriptorIndex := 67, attributes := #[] }, { accessFlags := 18, nameIndex := 14, descriptorIndex := 15, attributes := #[] }, { accessFlags := 18, nameIndex := 116, descriptorIndex := 117, attributes := #[] }, { accessFlags := 18, nameIndex := 21, descriptorIndex := 22, attributes := #[] }, { accessFlags := 18, nameIndex := 108, descriptorIndex := 105, attributes := #[] }, { accessFlags := 18, nameIndex := 72, descriptorIndex := 73, attributes := #[] }, { accessFlags := 18, nameIndex := 99, descriptorIndex := 100, attributes := #[] }, { accessFlags := 18, nameIndex := 55, descriptorIndex := 56, attributes := #[] }, { accessFlags := 18, nameIndex := 60, descriptorIndex := 56, attributes := #[] }])
  fields := #[{ name := "graph", type := (.object "com/example/tracefold/tracefold/LogGraph"), accessFlags := 18, slot := 0, constantValue := 0 }, { name := "activityCount", type := .int, accessFlags := 18, slot := 1, constantValue := 0 }, { name := "steps", type := (.object "com/example/tracefold/tracefold/Steps"), accessFlags := 18, slot := 2, constantValue := 0 }, { name := "effects", type := (.object "java/util/List"), accessFlags := 18, slot := 3, constantValue := 0 }, { name := "unsolvedBy", type := (.object "java/util/concurrent/atomic/AtomicReferenceArray"), accessFlags := 18, slot := 4, constantValue := 0 }, { name := "together", type := (.object "com/example/tracefold/tracefold/Conflicts"), accessFlags := 18, slot := 5, constantValue := 0 }, { name := "forms", type := (.array (.array .long)), accessFlags := 18, slot := 6, constantValue := 0 }, { name := "taking", type := (.array (.object "com/example/tracefold/tracefold/PlaceProgram$ReadSteps")), accessFlags := 18, slot := 7, constantValue := 0 }, { name := "every", type := (.object "com/example/tracefold/tracefold/PlaceProgram$ReadSteps"), accessFlags := 18, slot := 8, constantValue := 0 }, { name := "scratch", type := (.object "java/lang/ThreadLocal"), accessFlags := 18, slot := 9, constantValue := 0 }, { name := "chainScratch", type := (.object "java/lang/ThreadLocal"), accessFlags := 18, slot := 10, constantValue := 0 }]
  methods := #[k3m0]
  instanceTypes := #[(.object "com/example/tracefold/tracefold/LogGraph"), .int, (.object "com/example/tracefold/tracefold/Steps"), (.object "java/util/List"), (.object "java/util/concurrent/atomic/AtomicReferenceArray"), (.object "com/example/tracefold/tracefold/Conflicts"), (.array (.array .long)), (.array (.object "com/example/tracefold/tracefold/PlaceProgram$ReadSteps")), (.object "com/example/tracefold/tracefold/PlaceProgram$ReadSteps"), (.object "java/lang/ThreadLocal"), (.object "java/lang/ThreadLocal")]
  staticTypes := #[]
  resolved := Array.replicate 636 none
  statics := none }

def pool4 : Array CpInfo := pool [(1, u "java/lang/Cloneable"), (0, .class_ 1), (0, u "java/lang/Object"), (0, .class_ 3)] 3

/-- java/lang/Cloneable -/
def k4 : Class := { plain "java/lang/Cloneable" (some 0) with
  accessFlags := 1537
  interfaces := #[]
  cf := some (fileOf pool4 2 #[] #[] 1537 4 #[] #[])
  fields := #[]
  methods := #[]
  instanceTypes := #[]
  staticTypes := #[]
  resolved := Array.replicate 8 none
  statics := none }

def pool5 : Array CpInfo := pool [(1, u "java/io/Serializable"), (0, .class_ 1), (0, u "java/lang/Object"), (0, .class_ 3)] 3

/-- java/io/Serializable -/
def k5 : Class := { plain "java/io/Serializable" (some 0) with
  accessFlags := 1537
  interfaces := #[]
  cf := some (fileOf pool5 2 #[] #[] 1537 4 #[] #[])
  fields := #[]
  methods := #[]
  instanceTypes := #[]
  staticTypes := #[]
  resolved := Array.replicate 8 none
  statics := none }

/-- the primitive byte -/
def k6 : Class := { plain "byte" none with kind := .primitive 'B', accessFlags := 0x411 }
/-- [B -/
def k7 : Class := { plain "[B" (some 0) with kind := .array 6 .byte, interfaces := #[4, 5], accessFlags := 1041 }

/-- the primitive int -/
def k8 : Class := { plain "int" none with kind := .primitive 'I', accessFlags := 0x411 }
/-- [I -/
def k9 : Class := { plain "[I" (some 0) with kind := .array 8 .int, interfaces := #[4, 5], accessFlags := 1041 }

def heap : Heap := #[]
def classes : Array Class := #[k0, k1, k2, k3, k4, k5, k6, k7, k8, k9]
def interned : List (Array UInt16 × Addr) := []
def slotsUsed : Nat := 0
def theMethod : MethodId := ⟨1, 1⟩
def args0 : Array Value := #[.int 2, .int 5, .int 9, .int 3, .int 4, .int 11]
def aboutOver (below : List Frame) : State where
  vm := { classes := classes, interned := interned.toArray }
  heap := heap
  slotsUsed := slotsUsed
  threads := #[{ frames := .invoking theMethod args0 :: below }]
def below0 : List Frame := [.native { method := ⟨0, 0⟩, args := #[] }]
def about1 : State := aboutOver below0
def p0 : Program := .bare "" "" ""
def e0 : Env := launch0.env 0 0 0
theorem w_frames : about1.frames = Frame.invoking theMethod args0 :: below0 := rfl
set_option maxRecDepth 65536 in
theorem w_args : argsFit about1.vm theMethod args0 = true := by decide +kernel
set_option maxRecDepth 65536 in
theorem w_heap : heapFits about1 = true := by decide +kernel
set_option maxRecDepth 65536 in
theorem w_runnable : about1.curStatus? = some .runnable := by decide +kernel
set_option maxRecDepth 65536 in
theorem w_alone : about1.alone = true := by decide +kernel
set_option maxRecDepth 65536 in
theorem w_named : about1.methodNamed? x = some theMethod := by decide +kernel
set_option maxRecDepth 65536 in
theorem w_hears : about1.hears theMethod below0 = true := by decide +kernel
set_option maxRecDepth 65536 in
theorem w_ripe : about1.ripe theMethod args0 below0 = true := by decide +kernel
theorem w_running : about1.status = .running := rfl
set_option maxRecDepth 65536 in
theorem w_room : about1.hasRoom e0.platform room_1 = true :=
  launch0.hasRoom_least _ room_1 (by decide +kernel) (by decide +kernel) (by decide +kernel) (by decide +kernel) (by decide +kernel) (by decide +kernel)
theorem allAtoms_all (ts : List Jvm.Cond) (a : Array Jvm.Value) (st : Jvm.State) : (allAtoms ts).before a st = ts.all (fun c => c.before a st) := by
  induction ts with
  | nil => rfl
  | cons c t ih =>
    show (Jvm.Cond.and c (allAtoms t)).before a st = _
    rw [Jvm.Cond.before_and, ih, List.all_cons]
def words1 : List Jvm.Cond := Jvm.Cond.code x code maxLocals ret :: tables_1
/-- a 'code' word, met by the world's own term for the bytes: nothing is compared byte by byte -/
theorem code_word {y : MethodName} {bytes : ByteArray} {mx : Nat} {rt : Option FieldType} {a : Array Value} {s : State} {m : MethodId} {meth : Method} {c : Code} (h1 : s.methodNamed? y = some m) (h2 : s.vm.method? m = some meth) (h3 : meth.code = some c) (h4 : c.code = bytes)
    (h5 : (c.maxLocals == mx && c.exceptionTable.isEmpty && decide (c.maxStack ≤ mostOperands) && decide (meth.sig.returnType = rt) && !meth.locks && decide (parseMethodDescriptor y.desc = some meth.sig)) = true) : (Jvm.Cond.code y bytes mx rt).before a s = true := by
  simp only [Bool.and_eq_true, beq_iff_eq, Bool.not_eq_true', decide_eq_true_eq] at h5
  obtain ⟨⟨⟨⟨⟨g1, g2⟩, g3⟩, g4⟩, g5⟩, g6⟩ := h5
  simp [Cond.before, Cond.holds, Cond.value, h1, h2, h3, h4, g1, g2, g3, g4, g5, g6]
def isCode : Jvm.Cond → Bool
  | .code _ _ _ _ => true
  | _ => false
theorem all_split {L : List Jvm.Cond} {P : Jvm.Cond → Bool} (h1 : L.all (fun c => isCode c || P c) = true) (h2 : ∀ c ∈ L.filter isCode, P c = true) : L.all P = true := by
  refine List.all_eq_true.mpr fun c hc => ?_
  have h := List.all_eq_true.mp h1 c hc
  rcases Bool.eq_false_or_eq_true (isCode c) with hi | hi
  · exact h2 c (List.mem_filter.mpr ⟨hc, hi⟩)
  · simpa [hi] using h
set_option maxRecDepth 65536 in
theorem w_c0 : (Jvm.Cond.code x code maxLocals ret).before args0 about1 = true := code_word (m := ⟨1, 1⟩) (meth := k1m1) (c := k1c1) (by decide +kernel) rfl rfl rfl (by decide +kernel)
set_option maxRecDepth 65536 in
theorem w_c1 : (Jvm.Cond.code ({ cls := "java/lang/Math", name := "min", desc := "(II)I" } : Jvm.MethodName) jdk_29_method_69_code (2 : Nat) (Option.some Jvm.ClassFile.FieldType.int)).before args0 about1 = true := code_word (m := ⟨2, 1⟩) (meth := k2m1) (c := k2c1) (by decide +kernel) rfl rfl rfl (by decide +kernel)
set_option maxRecDepth 65536 in
theorem w_c2 : (Jvm.Cond.code ({ cls := "com/example/tracefold/tracefold/PlaceProgram", name := "moved", desc := "([I[II)[I" } : Jvm.MethodName) prog_51_method_29_code (5 : Nat) (Option.some (Jvm.ClassFile.FieldType.array Jvm.ClassFile.FieldType.int))).before args0 about1 = true := code_word (m := ⟨3, 0⟩) (meth := k3m0) (c := k3c0) (by decide +kernel) rfl rfl rfl (by decide +kernel)
set_option maxRecDepth 65536 in
theorem w_c3 : (Jvm.Cond.code ({ cls := "com/example/tracefold/tracefold/PlaceProgramMovedPinLaw", name := "slot", desc := "([IIIIIIIIII)Z" } : Jvm.MethodName) method_4_code (10 : Nat) (Option.some Jvm.ClassFile.FieldType.boolean)).before args0 about1 = true := code_word (m := ⟨1, 3⟩) (meth := k1m3) (c := k1c3) (by decide +kernel) rfl rfl rfl (by decide +kernel)
set_option maxRecDepth 65536 in
theorem w_c4 : (Jvm.Cond.code ({ cls := "com/example/tracefold/tracefold/PlaceProgramMovedPinLaw", name := "expected", desc := "(IIIIII)I" } : Jvm.MethodName) method_3_code (6 : Nat) (Option.some Jvm.ClassFile.FieldType.int)).before args0 about1 = true := code_word (m := ⟨1, 2⟩) (meth := k1m2) (c := k1c2) (by decide +kernel) rfl rfl rfl (by decide +kernel)
def codes1 : List Jvm.Cond := [Jvm.Cond.code x code maxLocals ret, Jvm.Cond.code ({ cls := "java/lang/Math", name := "min", desc := "(II)I" } : Jvm.MethodName) jdk_29_method_69_code (2 : Nat) (Option.some Jvm.ClassFile.FieldType.int), Jvm.Cond.code ({ cls := "com/example/tracefold/tracefold/PlaceProgram", name := "moved", desc := "([I[II)[I" } : Jvm.MethodName) prog_51_method_29_code (5 : Nat) (Option.some (Jvm.ClassFile.FieldType.array Jvm.ClassFile.FieldType.int)), Jvm.Cond.code ({ cls := "com/example/tracefold/tracefold/PlaceProgramMovedPinLaw", name := "slot", desc := "([IIIIIIIIII)Z" } : Jvm.MethodName) method_4_code (10 : Nat) (Option.some Jvm.ClassFile.FieldType.boolean), Jvm.Cond.code ({ cls := "com/example/tracefold/tracefold/PlaceProgramMovedPinLaw", name := "expected", desc := "(IIIIII)I" } : Jvm.MethodName) method_3_code (6 : Nat) (Option.some Jvm.ClassFile.FieldType.int)]
set_option maxRecDepth 65536 in
theorem codes_eq : words1.filter isCode = codes1 := rfl
theorem w_codes : ∀ c ∈ words1.filter isCode, c.before args0 about1 = true := by
  rw [codes_eq]
  intro c hc
  simp only [codes1, List.mem_cons, List.not_mem_nil, or_false] at hc
  rcases hc with rfl | rfl | rfl | rfl | rfl
  · exact w_c0
  · exact w_c1
  · exact w_c2
  · exact w_c3
  · exact w_c4
set_option maxRecDepth 65536 in
theorem w_t1 : words1.all (fun c => isCode c || c.before args0 about1) = true := by decide +kernel
theorem w_tables : (allAtoms (Jvm.Cond.code x code maxLocals ret :: tables_1)).before args0 about1 = true := by
  rw [allAtoms_all]
  show words1.all (fun c => c.before args0 about1) = true
  refine all_split ?_ w_codes
  rw [w_t1]
set_option maxRecDepth 65536 in
theorem w_case : (Jvm.Cond.and given_1 narrow_1).before args0 about1 = true := by decide +kernel
theorem w_applies : (headSpec (Jvm.Cond.code x code maxLocals ret :: tables_1) room_1).applies x e0.platform about1 = true :=
  (Spec.applies_iff w_frames).mpr ⟨w_running, w_runnable, w_alone, w_named, w_hears, w_ripe, w_room, w_tables⟩
theorem atStart : AtStart classFile x code maxLocals ret World_1 tables_1 room_1 Calls_1 rest_1 Pre_1 launch0 p0 e0 about1 theMethod args0 below0 :=
  ⟨lists_1, trivial, launch0.admits_env _ _ _, launch0.least_env, fairChoices_fair.cas, fairChoices_fair.clock, w_frames, w_args, w_heap, w_applies, trivial, trivial, w_case⟩
end start1
theorem witness_1 : WitnessClaimed_1 := ⟨start1.p0, start1.e0, start1.about1, start1.theMethod, start1.args0, start1.below0, start1.atStart⟩
end Jvm.Pilot.@@N@@

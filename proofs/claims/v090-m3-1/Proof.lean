import JvmDerived
import JvmDerived.Pilot.@@N@@Statement
import JvmDerived.Pilot.@@N@@Code
set_option linter.unusedVariables false
set_option linter.unusedSimpArgs false
namespace Jvm.Pilot.@@N@@
open Jvm Jvm.ClassFile Sem Op Lib Jvm.Free Jvm.Stand Jvm.LawKit Jvm.RoadKit Bundle Jvm.Pilot.@@N@@.Jvm.D
/-! own layer: forward walking in continuation style, arrays as functions -/
def own_R (tb : Tables) (e : Env) (below : List Frame) (P : State → Outcome → Prop) (st : State) : Prop := ∃ t o, Steps tb e below st t ∧ P t o
theorem own_fwd {tb : Tables} {e : Env} {below : List Frame} {P : State → Outcome → Prop} {st st' : State} (k : ∀ t, Steps tb e below st' t → Steps tb e below st t) (h : own_R tb e below P st') : own_R tb e below P st := by
  obtain ⟨t, o, h1, h2⟩ := h; exact ⟨t, o, k t h1, h2⟩
theorem own_trn {tb : Tables} {e : Env} {below : List Frame} {P : State → Outcome → Prop} {st st' : State} (k : Steps tb e below st st') (h : own_R tb e below P st') : own_R tb e below P st := own_fwd (fun _ q => k.trans q) h
theorem own_nm {tb : Tables} {e : Env} {below : List Frame} {P : State → Outcome → Prop} {st : State} (h : ∀ P' : State → Outcome → Prop, (∀ t o, P t o → P' t o) → own_R tb e below P' st) : own_R tb e below P st := h P fun _ _ q => q
/-- an array, n long, place i holds f i -/
def own_AV (Z : State) (h : Heap) (a : Addr) (ty : FieldType) (n : Nat) (f : Nat → Value) : Prop := ∃ c : Cell, Arr Z h a c ty ∧ c.slots.size = n ∧ n < 2 ^ 31 ∧ ∀ i, i < n → c.slots[i]? = some (f i)
abbrev own_AI (Z : State) (h : Heap) (a : Addr) (ty : FieldType) (n : Nat) (f : Nat → Int32) : Prop := own_AV Z h a ty n fun i => .int (f i)
abbrev own_AJ (Z : State) (h : Heap) (a : Addr) (n : Nat) (f : Nat → Int64) : Prop := own_AV Z h a .long n fun i => .long (f i)
def own_upd {α : Type} (f : Nat → α) (i : Nat) (x : α) : Nat → α := fun k => if k = i then x else f k
theorem own_upd_hit {α : Type} (f : Nat → α) (i : Nat) (x : α) : own_upd f i x i = x := if_pos rfl
theorem own_upd_miss {α : Type} (f : Nat → α) {i k : Nat} (x : α) (q : k ≠ i) : own_upd f i x k = f k := if_neg q
section Own
variable {p : Program} {l : Launch} {e : Env} {R : Room} {s : State} {m : MethodId} {args : Array Value} {below : List Frame} {meth : Method} {c : Code} {T : State} {locs : List Loc} {cells slots : Nat} {Z : State} {a0 : Array Value} {h h' : Heap} {a b : Addr} {ty : FieldType} {n : Nat} {f : Nat → Value} {v : Value} {sl : Nat}
theorem own_AV.lt (F : own_AV Z h a ty n f) : a < h.size := by obtain ⟨c, A, -⟩ := F; exact A.lt
theorem own_AV.bd (F : own_AV Z h a ty n f) : n < 2 ^ 31 := by obtain ⟨c, A, -, q, -⟩ := F; exact q
theorem own_AV.ext (F : own_AV Z h a ty n f) (E : Ext h h') : own_AV Z h' a ty n f := by obtain ⟨c, A, r⟩ := F; exact ⟨c, A.ext E, r⟩
theorem own_AV.other (F : own_AV Z h b ty n f) (W : Wr h h' a sl v) (q : b ≠ a) : own_AV Z h' b ty n f := by obtain ⟨c, A, r⟩ := F; exact ⟨c, A.other W q, r⟩
theorem own_AV.keep {ws : List Addr} (F : own_AV Z h a ty n f) (K : Keep h h' ws) (q : a ∉ ws) : own_AV Z h' a ty n f := by obtain ⟨c, A, r⟩ := F; exact ⟨c, ⟨K.2.1 a c A.1 q, A.2⟩, r⟩
theorem own_AV.cong {f' : Nat → Value} (F : own_AV Z h a ty n f) (q : ∀ i, i < n → f' i = f i) : own_AV Z h a ty n f' := by obtain ⟨c, A, r1, r2, r3⟩ := F; exact ⟨c, A, r1, r2, fun i hi => by rw [q i hi]; exact r3 i hi⟩
theorem own_clamp {j : Int32} {i : Nat} (hj : j.toInt = (i : Int)) : j.toNatClampNeg = i ∧ ¬ j < 0 := by
  have q0 : (0 : Int32).toInt = 0 := rfl
  exact ⟨by unfold Int32.toNatClampNeg; omega, by rw [Int32.lt_iff_toInt_lt]; omega⟩
theorem own_inb {cl : Cell} {j : Int32} {i : Nat} (hj : j.toInt = (i : Int)) (S : cl.slots.size = n) (hi : i < n) : ¬ (j < 0 ∨ cl.slots.size ≤ j.toNatClampNeg) := by
  obtain ⟨q1, q2⟩ := own_clamp hj
  rw [q1]; rintro (q | q)
  · exact q2 q
  · omega
theorem own_AV.new {k : ClassId} {z : Int32} (A : Arr Z h a (newA k ty z) ty) (hz : z.toInt = (n : Int)) : own_AV Z h a ty n (fun _ => defaultValue ty) := by
  obtain ⟨q1, q2⟩ := own_clamp hz
  have hb := z.toInt_lt
  refine ⟨_, A, by rw [sz_new]; exact q1, by omega, fun i hi => ?_⟩
  simp [newA, q1, hi]
theorem own_ldI (X : Stand p l e R s m args below meth c T locs cells slots) (hx : p.tables.exec = Jvm.exec) (hZ : Z.Warmed39 s.vm) (eT : T.heap = h) (F : own_AV Z h a .int n f) {j : Int32} (i : Nat) (hj : j.toInt = (i : Int)) (hi : i < n) {g : JFrame} (hg : g.method = m) {rest : List Value} (hs : g.stack = .int j :: .ref a :: rest) (hd : decode c.code g.pc = .ok (.iaload, 1)) :
    ∀ t, Steps p.tables e below (T.setTop { g with pc := g.pc + 1, stack := f i :: rest }) t → Steps p.tables e below (T.setTop g) t := fun t k => by
  obtain ⟨cl, A, S, -, H⟩ := F
  exact X.iaload hx (by rw [eT]; exact A.1) (State.isArrayOf_alike hZ.alike A.2.1) A.2.2 (own_inb hj S hi) (by rw [(own_clamp hj).1]; exact H i hi) hg hs hd t k
theorem own_ldS (X : Stand p l e R s m args below meth c T locs cells slots) (hx : p.tables.exec = Jvm.exec) (hZ : Z.Warmed39 s.vm) (eT : T.heap = h) (F : own_AV Z h a .short n f) {j : Int32} (i : Nat) (hj : j.toInt = (i : Int)) (hi : i < n) {g : JFrame} (hg : g.method = m) {rest : List Value} (hs : g.stack = .int j :: .ref a :: rest) (hd : decode c.code g.pc = .ok (.saload, 1)) :
    ∀ t, Steps p.tables e below (T.setTop { g with pc := g.pc + 1, stack := f i :: rest }) t → Steps p.tables e below (T.setTop g) t := fun t k => by
  obtain ⟨cl, A, S, -, H⟩ := F
  exact X.saload hx (by rw [eT]; exact A.1) (State.isArrayOf_alike hZ.alike A.2.1) A.2.2 (own_inb hj S hi) (by rw [(own_clamp hj).1]; exact H i hi) hg hs hd t k
theorem own_ldC (X : Stand p l e R s m args below meth c T locs cells slots) (hx : p.tables.exec = Jvm.exec) (hZ : Z.Warmed39 s.vm) (eT : T.heap = h) (F : own_AV Z h a .char n f) {j : Int32} (i : Nat) (hj : j.toInt = (i : Int)) (hi : i < n) {g : JFrame} (hg : g.method = m) {rest : List Value} (hs : g.stack = .int j :: .ref a :: rest) (hd : decode c.code g.pc = .ok (.caload, 1)) :
    ∀ t, Steps p.tables e below (T.setTop { g with pc := g.pc + 1, stack := f i :: rest }) t → Steps p.tables e below (T.setTop g) t := fun t k => by
  obtain ⟨cl, A, S, -, H⟩ := F
  exact X.caload hx (by rw [eT]; exact A.1) (State.isArrayOf_alike hZ.alike A.2.1) A.2.2 (own_inb hj S hi) (by rw [(own_clamp hj).1]; exact H i hi) hg hs hd t k
theorem own_ldJ (X : Stand p l e R s m args below meth c T locs cells slots) (hx : p.tables.exec = Jvm.exec) (hZ : Z.Warmed39 s.vm) (eT : T.heap = h) (F : own_AV Z h a .long n f) {j : Int32} (i : Nat) (hj : j.toInt = (i : Int)) (hi : i < n) {g : JFrame} (hg : g.method = m) {rest : List Value} (hs : g.stack = .int j :: .ref a :: rest) (hd : decode c.code g.pc = .ok (.laload, 1)) :
    ∀ t, Steps p.tables e below (T.setTop { g with pc := g.pc + 1, stack := f i :: rest }) t → Steps p.tables e below (T.setTop g) t := fun t k => by
  obtain ⟨cl, A, S, -, H⟩ := F
  exact X.laload hx (by rw [eT]; exact A.1) (State.isArrayOf_alike hZ.alike A.2.1) A.2.2 (own_inb hj S hi) (by rw [(own_clamp hj).1]; exact H i hi) hg hs hd t k
theorem own_len (X : Stand p l e R s m args below meth c T locs cells slots) (hx : p.tables.exec = Jvm.exec) (hZ : Z.Warmed39 s.vm) (eT : T.heap = h) (F : own_AV Z h a ty n f) (z : Int32) (hz : z.toInt = (n : Int)) {g : JFrame} (hg : g.method = m) {rest : List Value} (hs : g.stack = .ref a :: rest) (hd : decode c.code g.pc = .ok (.arraylength, 1)) :
    ∀ t, Steps p.tables e below (T.setTop { g with pc := g.pc + 1, stack := .int z :: rest }) t → Steps p.tables e below (T.setTop g) t := fun t k => by
  obtain ⟨cl, A, S, q, H⟩ := F
  have e1 : cl.slots.size.toInt32 = z := by
    rw [S]; apply Int32.toInt_inj.mp; rw [hz]; exact len_toInt q
  refine X.arraylength hx (by rw [eT]; exact A.1) (State.isArrayOf_alike hZ.alike A.2.1) hg hs hd t ?_
  rw [e1]; exact k
theorem own_AV.set {h' : Heap} {cl : Cell} {j : Int32} {i : Nat} {w : Value} (A : Arr Z h a cl ty) (S : cl.slots.size = n) (q : n < 2 ^ 31) (H : ∀ i, i < n → cl.slots[i]? = some (f i)) (hj : j.toInt = (i : Int)) (hi : i < n) (W : Wr h h' a j.toNatClampNeg w) : own_AV Z h' a ty n (own_upd f i w) := by
  rw [(own_clamp hj).1] at W
  refine ⟨_, A.same W, by rw [sz_set]; exact S, q, fun k hk => ?_⟩
  by_cases e : k = i
  · subst e; rw [own_upd_hit]; simp [Cell.setSlot, S, hi]
  · rw [own_upd_miss _ _ e]; simp only [Cell.setSlot]; rw [Array.getElem?_setIfInBounds_ne (Ne.symm e)]; exact H k hk
theorem own_stI {g0 : Nat → Int32} (X : Stand p l e R s m args below meth c T locs cells slots) (hx : p.tables.exec = Jvm.exec) (hZ : Z.Warmed39 s.vm) (eT : T.heap = h) (F : own_AI Z h a .int n g0) {j x : Int32} (i : Nat) (hj : j.toInt = (i : Int)) (hi : i < n) {g : JFrame} (hg : g.method = m) {rest : List Value} (hs : g.stack = .int x :: .int j :: .ref a :: rest) (hd : decode c.code g.pc = .ok (.iastore, 1)) :
    ∃ T' h', Stand p l e R s m args below meth c T' (locs ++ [⟨a, j.toNatClampNeg⟩]) cells slots ∧ T'.heap = h' ∧ Wr h h' a j.toNatClampNeg (.int x) ∧ own_AI Z h' a .int n (own_upd g0 i x) ∧ ∀ t, Steps p.tables e below (T'.setTop { g with pc := g.pc + 1, stack := rest }) t → Steps p.tables e below (T.setTop g) t := by
  obtain ⟨cl, A, S, q, H⟩ := F
  obtain ⟨T', h', X', e', W, st⟩ := stI X hx hZ eT A (own_inb hj S hi) hg hs hd
  exact ⟨T', h', X', e', W, (own_AV.set A S q H hj hi W).cong fun k _ => by simp only [own_upd]; split <;> rfl, st⟩
theorem own_stS {g0 : Nat → Int32} (X : Stand p l e R s m args below meth c T locs cells slots) (hx : p.tables.exec = Jvm.exec) (hZ : Z.Warmed39 s.vm) (eT : T.heap = h) (F : own_AI Z h a .short n g0) {j x : Int32} (i : Nat) (hj : j.toInt = (i : Int)) (hi : i < n) {g : JFrame} (hg : g.method = m) {rest : List Value} (hs : g.stack = .int x :: .int j :: .ref a :: rest) (hd : decode c.code g.pc = .ok (.sastore, 1)) :
    ∃ T' h', Stand p l e R s m args below meth c T' (locs ++ [⟨a, j.toNatClampNeg⟩]) cells slots ∧ T'.heap = h' ∧ Wr h h' a j.toNatClampNeg (.int (nar .short x)) ∧ own_AI Z h' a .short n (own_upd g0 i (nar .short x)) ∧ ∀ t, Steps p.tables e below (T'.setTop { g with pc := g.pc + 1, stack := rest }) t → Steps p.tables e below (T.setTop g) t := by
  obtain ⟨cl, A, S, q, H⟩ := F
  obtain ⟨T', h', X', e', W, st⟩ := stS X hx hZ eT A (own_inb hj S hi) hg hs hd
  exact ⟨T', h', X', e', W, (own_AV.set A S q H hj hi W).cong fun k _ => by simp only [own_upd]; split <;> rfl, st⟩
theorem own_stC {g0 : Nat → Int32} (X : Stand p l e R s m args below meth c T locs cells slots) (hx : p.tables.exec = Jvm.exec) (hZ : Z.Warmed39 s.vm) (eT : T.heap = h) (F : own_AI Z h a .char n g0) {j x : Int32} (i : Nat) (hj : j.toInt = (i : Int)) (hi : i < n) {g : JFrame} (hg : g.method = m) {rest : List Value} (hs : g.stack = .int x :: .int j :: .ref a :: rest) (hd : decode c.code g.pc = .ok (.castore, 1)) :
    ∃ T' h', Stand p l e R s m args below meth c T' (locs ++ [⟨a, j.toNatClampNeg⟩]) cells slots ∧ T'.heap = h' ∧ Wr h h' a j.toNatClampNeg (.int (nar .char x)) ∧ own_AI Z h' a .char n (own_upd g0 i (nar .char x)) ∧ ∀ t, Steps p.tables e below (T'.setTop { g with pc := g.pc + 1, stack := rest }) t → Steps p.tables e below (T.setTop g) t := by
  obtain ⟨cl, A, S, q, H⟩ := F
  obtain ⟨T', h', X', e', W, st⟩ := stC X hx hZ eT A (own_inb hj S hi) hg hs hd
  exact ⟨T', h', X', e', W, (own_AV.set A S q H hj hi W).cong fun k _ => by simp only [own_upd]; split <;> rfl, st⟩
theorem own_stJ {g0 : Nat → Int64} (X : Stand p l e R s m args below meth c T locs cells slots) (hx : p.tables.exec = Jvm.exec) (hZ : Z.Warmed39 s.vm) (eT : T.heap = h) (F : own_AJ Z h a n g0) {j : Int32} {x : Int64} (i : Nat) (hj : j.toInt = (i : Int)) (hi : i < n) {g : JFrame} (hg : g.method = m) {rest : List Value} (hs : g.stack = .long x :: .int j :: .ref a :: rest) (hd : decode c.code g.pc = .ok (.lastore, 1)) :
    ∃ T' h', Stand p l e R s m args below meth c T' (locs ++ [⟨a, j.toNatClampNeg⟩]) cells slots ∧ T'.heap = h' ∧ Wr h h' a j.toNatClampNeg (.long x) ∧ own_AJ Z h' a n (own_upd g0 i x) ∧ ∀ t, Steps p.tables e below (T'.setTop { g with pc := g.pc + 1, stack := rest }) t → Steps p.tables e below (T.setTop g) t := by
  obtain ⟨cl, A, S, q, H⟩ := F
  obtain ⟨T', h', X', e', W, st⟩ := stJ X hx hZ eT A (own_inb hj S hi) hg hs hd
  exact ⟨T', h', X', e', W, (own_AV.set A S q H hj hi W).cong fun k _ => by simp only [own_upd]; split <;> rfl, st⟩
theorem own_newA (X : Stand p l e R s m args below meth c T locs cells slots) (hx : p.tables.exec = Jvm.exec) (hZ : Z.Warmed39 s.vm) {aty : ArrayType} (w : (Cond.arrayClass (newarray.typeOf aty)).before a0 Z = true) (eT : T.heap = h) {z : Int32} (hz : z.toInt = (n : Int)) {cap : Nat} (hcap : n ≤ cap) {g : JFrame} (hg : g.method = m) (hd : decode c.code g.pc = .ok (.newarray aty, 2)) {rest : List Value} (hs : g.stack = .int z :: rest)
    (hb : cap * 8 ≤ 536870912) (hc : cells + 1 ≤ R.cells) (hl : slots + cap ≤ R.slots) {ad : String} (had : "[" ++ (newarray.typeOf aty).toString = ad) :
    ∃ T' h' b, b = h.size ∧ Stand p l e R s m args below meth c T' locs (cells + 1) (slots + cap) ∧ T'.heap = h' ∧ Ext h h' ∧ own_AV Z h' b (newarray.typeOf aty) n (fun _ => defaultValue (newarray.typeOf aty)) ∧ Exa Z h' b ad ∧
      ∀ t, Steps p.tables e below (T'.setTop { g with pc := g.pc + 2, stack := .ref b :: rest }) t → Steps p.tables e below (T.setTop g) t := by
  obtain ⟨q1, q2⟩ := own_clamp hz
  obtain ⟨T', h', k, X', e', E, A, Ea, st⟩ := newPE X hx hZ w eT hg hd hs q2 (by rw [q1]; exact hcap) hb hc hl had
  exact ⟨T', h', _, rfl, X', e', E, own_AV.new A hz, Ea, st⟩
end Own
def own_two {α : Type} (x y : α) : Nat → α
  | 0 => x
  | _ => y
theorem own_two_0 {α : Type} (x y : α) : own_two x y 0 = x := rfl
theorem own_two_1 {α : Type} (x y : α) : own_two x y 1 = y := rfl
theorem own_nlt {i n : Nat} (hi : i < n) (hn : n < 2 ^ 31) : i.toInt32 < n.toInt32 := by
  rw [Int32.lt_iff_toInt_lt, len_toInt hn, len_toInt (by omega)]; omega
theorem own_nge {i n : Nat} (hi : n ≤ i) (hn : i < 2 ^ 31) : ¬ i.toInt32 < n.toInt32 := by
  rw [Int32.lt_iff_toInt_lt, len_toInt hn, len_toInt (by omega)]; omega
theorem own_nsucc {i : Nat} (hn : i + 1 < 2 ^ 31) : i.toInt32 + (1 : Int32) = (i + 1).toInt32 := by
  have e1 : (1 : Int32).toInt = 1 := rfl
  have h1 := c_iadd i.toInt32 1
  have h2 := rng32 (i.toInt32 + 1)
  rw [← Int32.toInt_inj, len_toInt hn]
  rw [len_toInt (by omega), e1] at h1
  omega
theorem own_and3 (x : Int32) : (x &&& (3 : Int32)) = 0 ∨ (x &&& (3 : Int32)) = 1 ∨ (x &&& (3 : Int32)) = 2 ∨ (x &&& (3 : Int32)) = 3 := by
  have h := c_mask x 3 2 (by decide) (by decide)
  have e : ((2 ^ 2 : Nat) : Int) = 4 := by decide
  rw [e] at h
  have e0 : (0 : Int32).toInt = 0 := rfl
  have e1 : (1 : Int32).toInt = 1 := rfl
  have e2 : (2 : Int32).toInt = 2 := rfl
  have e3 : (3 : Int32).toInt = 3 := rfl
  simp only [← Int32.toInt_inj]
  omega
def own_h (v : Int32) : Int32 := ((((v.toInt64) * (-7046029254386353131 : Int64)).toUInt64 >>> ((57 : Int32) &&& 0x3f).toInt64.toUInt64).toInt64).toInt32
def own_bit (v k : Int32) : Int64 := if (own_h v >>> ((6 : Int32) &&& 31)) = k then ((1 : Int64) <<< (own_h v &&& 0x3f).toInt64) else (0 : Int64)
def own_single (a b : Int64) : Prop := (a = 0 ∨ b = 0) ∧ ¬ (a ||| b) = 0 ∧ ((a ||| b) &&& ((a ||| b) - (1 : Int64))) = 0
theorem own_h_rng (v : Int32) : 0 ≤ (own_h v).toInt ∧ (own_h v).toInt < 128 := by
  unfold own_h
  have h1 := c_lushr ((v.toInt64) * (-7046029254386353131 : Int64)) 57 57 (by decide) (by decide)
  have h2 := c_l2i ((((v.toInt64) * (-7046029254386353131 : Int64)).toUInt64 >>> ((57 : Int32) &&& 0x3f).toInt64.toUInt64).toInt64)
  generalize ((((v.toInt64) * (-7046029254386353131 : Int64)).toUInt64 >>> ((57 : Int32) &&& 0x3f).toInt64.toUInt64).toInt64) = y at h1 h2 ⊢
  have r := rng32 y.toInt32
  have e : ((2 ^ 57 : Nat) : Int) = 144115188075855872 := by decide
  rw [e] at h1
  omega
theorem own_pow : ∀ k : Fin 64, ¬ ((1 : Int64) <<< (Int64.ofInt k.1)) = 0 ∧ (((1 : Int64) <<< (Int64.ofInt k.1)) &&& (((1 : Int64) <<< (Int64.ofInt k.1)) - 1)) = 0 := by decide
theorem own_pow' (v : Int32) : ¬ ((1 : Int64) <<< (own_h v &&& 0x3f).toInt64) = 0 ∧ (((1 : Int64) <<< (own_h v &&& 0x3f).toInt64) &&& (((1 : Int64) <<< (own_h v &&& 0x3f).toInt64) - 1)) = 0 := by
  have h1 := c_mask (own_h v) 0x3f 6 (by decide) (by decide)
  have e : ((2 ^ 6 : Nat) : Int) = 64 := by decide
  rw [e] at h1
  have h2 := c_i2l (own_h v &&& 0x3f)
  have hk : ((own_h v).toInt % 64).toNat < 64 := by omega
  have q := own_pow ⟨((own_h v).toInt % 64).toNat, hk⟩
  have e2 : (own_h v &&& 0x3f).toInt64 = Int64.ofInt (((own_h v).toInt % 64).toNat : Nat) := by
    rw [← Int64.toInt_inj, h2, h1, Int64.toInt_ofInt_of_le (by omega) (by omega)]; omega
  rw [e2]; exact q
theorem own_single_bit (v : Int32) : own_single (own_bit v (0 : Int32)) (own_bit v (1 : Int32)) := by
  obtain ⟨h1, h2⟩ := own_h_rng v
  have h3 := c_ishr (own_h v) 6 6 (by decide)
  have e : ((2 ^ 6 : Nat) : Int) = 64 := by decide
  rw [e] at h3
  have e0 : (0 : Int32).toInt = 0 := rfl
  have e1 : (1 : Int32).toInt = 1 := rfl
  obtain ⟨p1, p2⟩ := own_pow' v
  by_cases c0 : (own_h v >>> ((6 : Int32) &&& 31)) = 0
  · have c1 : ¬ (own_h v >>> ((6 : Int32) &&& 31)) = 1 := by rw [c0]; decide
    simp only [own_single, own_bit, if_pos c0, if_neg c1, Int64.or_zero]
    exact ⟨Or.inr trivial, p1, p2⟩
  · have c1 : (own_h v >>> ((6 : Int32) &&& 31)) = 1 := by
      rw [← Int32.toInt_inj] at c0 ⊢; omega
    simp only [own_single, own_bit, if_neg c0, if_pos c1, Int64.zero_or]
    exact ⟨Or.inl trivial, p1, p2⟩
theorem own_d2_0 : decode prog_8_method_5_code 0 = .ok (.iload_n 0, 1) := by decide +kernel
theorem own_d2_1 : decode prog_8_method_5_code 1 = .ok (.i2l, 1) := by decide +kernel
theorem own_d2_2 : decode prog_8_method_5_code 2 = .ok (.ldc2_w 74, 3) := by decide +kernel
theorem own_d2_5 : decode prog_8_method_5_code 5 = .ok (.lmul, 1) := by decide +kernel
theorem own_d2_6 : decode prog_8_method_5_code 6 = .ok (.bipush 57, 2) := by decide +kernel
theorem own_d2_8 : decode prog_8_method_5_code 8 = .ok (.lushr, 1) := by decide +kernel
theorem own_d2_9 : decode prog_8_method_5_code 9 = .ok (.l2i, 1) := by decide +kernel
theorem own_d2_10 : decode prog_8_method_5_code 10 = .ok (.istore_n 2, 1) := by decide +kernel
theorem own_d2_11 : decode prog_8_method_5_code 11 = .ok (.iload_n 2, 1) := by decide +kernel
theorem own_d2_12 : decode prog_8_method_5_code 12 = .ok (.bipush 6, 2) := by decide +kernel
theorem own_d2_14 : decode prog_8_method_5_code 14 = .ok (.ishr, 1) := by decide +kernel
theorem own_d2_15 : decode prog_8_method_5_code 15 = .ok (.iload_n 1, 1) := by decide +kernel
theorem own_d2_16 : decode prog_8_method_5_code 16 = .ok (.if_icmp .ne 9, 3) := by decide +kernel
theorem own_d2_19 : decode prog_8_method_5_code 19 = .ok (.lconst 1, 1) := by decide +kernel
theorem own_d2_20 : decode prog_8_method_5_code 20 = .ok (.iload_n 2, 1) := by decide +kernel
theorem own_d2_21 : decode prog_8_method_5_code 21 = .ok (.lshl, 1) := by decide +kernel
theorem own_d2_22 : decode prog_8_method_5_code 22 = .ok (.goto 4, 3) := by decide +kernel
theorem own_d2_25 : decode prog_8_method_5_code 25 = .ok (.lconst 0, 1) := by decide +kernel
theorem own_d2_26 : decode prog_8_method_5_code 26 = .ok (.lreturn, 1) := by decide +kernel
theorem own_pn0 : plainName "com/example/tracefold/tracefold/Conflicts" = true := by first | (simp [plainName, overriddenIn]; done) | decide +kernel
theorem own_ef2 (m : MethodId) (p1 : Int32) (p2 : Int32) : entryFrame m #[(.int p1), (.int p2)] 3 = mkF m 0 #[.val (.int p1), .val (.int p2), .unset] [] := by first | (simp [entryFrame, mkF, argsToLocals, Value.category]; done) | rfl
def own_Q2 (Z : State) (p1 p2 : Int32) (h0 : Heap) (n0 : Nat) (v : Option Value) (h : Heap) (L : List Loc) : Prop := v = some (.long (own_bit p1 p2)) ∧ Fr n0 L ∧ h = h0
set_option maxRecDepth 65536 in
set_option maxHeartbeats 40000000 in
theorem own_rm2 (l : Launch) (Z : State) (a0 : Array Value) (hw : ∀ d ∈ tables_1, d.before a0 Z = true) (ws : List Jvm.Cond) (p1 p2 : Int32) (h0 : Heap) (n0 : Nat) (Z0 : n0 ≤ h0.size) :
    MetFree l (⟨"com/example/tracefold/tracefold/Conflicts", "bit", "(II)J"⟩ : MethodName) (head1 (Jvm.Cond.code (⟨"com/example/tracefold/tracefold/Conflicts", "bit", "(II)J"⟩ : MethodName) prog_8_method_5_code 3 (some .long) :: ws) ({ frames := 0, cells := 0, slots := 0, locals := 0 } : Room)) (fun a U => a = #[(.int p1), (.int p2)] ∧ Z.Warmed39 U.vm ∧ U.heap = h0) (fun _ _ _ _ _ => True) (fun _ U o U' => ∃ v L, o = .returned v ∧ own_Q2 Z p1 p2 h0 n0 v U'.heap L ∧ FrameEnd U o U' L ({ frames := 0, cells := 0, slots := 0, locals := 0 } : Room).cells ({ frames := 0, cells := 0, slots := 0, locals := 0 } : Room).slots) := by
  refine MetFree.of_bodySF (plainFor_of_name own_pn0) hisR ?_
  intro p e s m args below meth c s₁ Bd hml0 hP hK
  obtain ⟨rfl, hZ, hh⟩ := hP
  have hx := Bd.exec
  have hby := Bd.bytes
  have hml : c.maxLocals = 3 := hml0
  have hown : s.vm.findClass "com/example/tracefold/tracefold/Conflicts" = some m.cls := findClass_of_methodNamed Bd.named
  have hnm := (name_of_methodNamed Bd.named Bd.method).1
  have X0 : Stand p l e ({ frames := 0, cells := 0, slots := 0, locals := 0 } : Room) s m #[(.int p1), (.int p2)] below meth c s₁ [] 0 0 := Stand.of_body Bd
  have e0 : s₁.heap = h0 := by rw [← hh, Bd.state]; rfl
  have N0 := Fr.nil n0
  refine own_nm (st := s₁.setTop (entryFrame m #[(.int p1), (.int p2)] 3)) fun P fin => ?_
  refine own_fwd (fun t k => castTop (own_ef2 m p1 p2) k) ?_
  show own_R p.tables e below P (s₁.setTop (mkF m 0 #[.val (.int p1), .val (.int p2), .unset] []))
  refine own_fwd (fun t k => XS.iloadN X0.here hx rfl (hb hby own_d2_0) rfl k) ?_
  show own_R p.tables e below P (s₁.setTop (mkF m 1 #[.val (.int p1), .val (.int p2), .unset] [(.int p1)]))
  refine own_fwd (fun t k => XS.i2l X0.here hx rfl (hb hby own_d2_1) rfl k) ?_
  show own_R p.tables e below P (s₁.setTop (mkF m 2 #[.val (.int p1), .val (.int p2), .unset] [(.long (p1.toInt64))]))
  refine own_fwd (fun t k => X0.ldc2Long hx hown (mvT hZ (hw _ (List.mem_of_getElem? (i := 8) rfl))) (g := (mkF m 2 #[.val (.int p1), .val (.int p2), .unset] [(.long (p1.toInt64))])) rfl (hb hby own_d2_2) t k) ?_
  show own_R p.tables e below P (s₁.setTop (mkF m 5 #[.val (.int p1), .val (.int p2), .unset] [(.long (-7046029254386353131 : Int64)), (.long (p1.toInt64))]))
  refine own_fwd (fun t k => XS.lmul X0.here hx rfl (hb hby own_d2_5) rfl k) ?_
  show own_R p.tables e below P (s₁.setTop (mkF m 6 #[.val (.int p1), .val (.int p2), .unset] [(.long ((p1.toInt64) * (-7046029254386353131 : Int64)))]))
  refine own_fwd (fun t k => XS.bipush X0.here hx rfl (hb hby own_d2_6) k) ?_
  show own_R p.tables e below P (s₁.setTop (mkF m 8 #[.val (.int p1), .val (.int p2), .unset] [(.int (57 : Int32)), (.long ((p1.toInt64) * (-7046029254386353131 : Int64)))]))
  refine own_fwd (fun t k => XS.lushr X0.here hx rfl (hb hby own_d2_8) rfl k) ?_
  show own_R p.tables e below P (s₁.setTop (mkF m 9 #[.val (.int p1), .val (.int p2), .unset] [(.long ((((p1.toInt64) * (-7046029254386353131 : Int64)).toUInt64 >>> ((57 : Int32) &&& 0x3f).toInt64.toUInt64).toInt64))]))
  refine own_fwd (fun t k => XS.l2i X0.here hx rfl (hb hby own_d2_9) rfl k) ?_
  show own_R p.tables e below P (s₁.setTop (mkF m 10 #[.val (.int p1), .val (.int p2), .unset] [(.int (((((p1.toInt64) * (-7046029254386353131 : Int64)).toUInt64 >>> ((57 : Int32) &&& 0x3f).toInt64.toUInt64).toInt64).toInt32))]))
  refine own_fwd (fun t k => XS.istoreN X0.here hx rfl (hb hby own_d2_10) rfl (l' := #[.val (.int p1), .val (.int p2), .val (.int (((((p1.toInt64) * (-7046029254386353131 : Int64)).toUInt64 >>> ((57 : Int32) &&& 0x3f).toInt64.toUInt64).toInt64).toInt32))]) rfl k) ?_
  show own_R p.tables e below P (s₁.setTop (mkF m 11 #[.val (.int p1), .val (.int p2), .val (.int (((((p1.toInt64) * (-7046029254386353131 : Int64)).toUInt64 >>> ((57 : Int32) &&& 0x3f).toInt64.toUInt64).toInt64).toInt32))] []))
  refine own_fwd (fun t k => XS.iloadN X0.here hx rfl (hb hby own_d2_11) rfl k) ?_
  show own_R p.tables e below P (s₁.setTop (mkF m 12 #[.val (.int p1), .val (.int p2), .val (.int (((((p1.toInt64) * (-7046029254386353131 : Int64)).toUInt64 >>> ((57 : Int32) &&& 0x3f).toInt64.toUInt64).toInt64).toInt32))] [(.int (((((p1.toInt64) * (-7046029254386353131 : Int64)).toUInt64 >>> ((57 : Int32) &&& 0x3f).toInt64.toUInt64).toInt64).toInt32))]))
  refine own_fwd (fun t k => XS.bipush X0.here hx rfl (hb hby own_d2_12) k) ?_
  show own_R p.tables e below P (s₁.setTop (mkF m 14 #[.val (.int p1), .val (.int p2), .val (.int (((((p1.toInt64) * (-7046029254386353131 : Int64)).toUInt64 >>> ((57 : Int32) &&& 0x3f).toInt64.toUInt64).toInt64).toInt32))] [(.int (6 : Int32)), (.int (((((p1.toInt64) * (-7046029254386353131 : Int64)).toUInt64 >>> ((57 : Int32) &&& 0x3f).toInt64.toUInt64).toInt64).toInt32))]))
  refine own_fwd (fun t k => XS.ishr X0.here hx rfl (hb hby own_d2_14) rfl k) ?_
  show own_R p.tables e below P (s₁.setTop (mkF m 15 #[.val (.int p1), .val (.int p2), .val (.int (((((p1.toInt64) * (-7046029254386353131 : Int64)).toUInt64 >>> ((57 : Int32) &&& 0x3f).toInt64.toUInt64).toInt64).toInt32))] [(.int ((((((p1.toInt64) * (-7046029254386353131 : Int64)).toUInt64 >>> ((57 : Int32) &&& 0x3f).toInt64.toUInt64).toInt64).toInt32) >>> ((6 : Int32) &&& 31)))]))
  refine own_fwd (fun t k => XS.iloadN X0.here hx rfl (hb hby own_d2_15) rfl k) ?_
  show own_R p.tables e below P (s₁.setTop (mkF m 16 #[.val (.int p1), .val (.int p2), .val (.int (((((p1.toInt64) * (-7046029254386353131 : Int64)).toUInt64 >>> ((57 : Int32) &&& 0x3f).toInt64.toUInt64).toInt64).toInt32))] [(.int p2), (.int ((((((p1.toInt64) * (-7046029254386353131 : Int64)).toUInt64 >>> ((57 : Int32) &&& 0x3f).toInt64.toUInt64).toInt64).toInt32) >>> ((6 : Int32) &&& 31)))]))
  by_cases hc1 : ((((((p1.toInt64) * (-7046029254386353131 : Int64)).toUInt64 >>> ((57 : Int32) &&& 0x3f).toInt64.toUInt64).toInt64).toInt32) >>> ((6 : Int32) &&& 31)) = p2
  · refine own_fwd (fun t k => XS.icmpNo X0.here hx rfl (hb hby own_d2_16) rfl (teq hc1).2 k) ?_
    show own_R p.tables e below P (s₁.setTop (mkF m 19 #[.val (.int p1), .val (.int p2), .val (.int (((((p1.toInt64) * (-7046029254386353131 : Int64)).toUInt64 >>> ((57 : Int32) &&& 0x3f).toInt64.toUInt64).toInt64).toInt32))] []))
    refine own_fwd (fun t k => XS.lconst X0.here hx rfl (hb hby own_d2_19) k) ?_
    show own_R p.tables e below P (s₁.setTop (mkF m 20 #[.val (.int p1), .val (.int p2), .val (.int (((((p1.toInt64) * (-7046029254386353131 : Int64)).toUInt64 >>> ((57 : Int32) &&& 0x3f).toInt64.toUInt64).toInt64).toInt32))] [(.long (1 : Int64))]))
    refine own_fwd (fun t k => XS.iloadN X0.here hx rfl (hb hby own_d2_20) rfl k) ?_
    show own_R p.tables e below P (s₁.setTop (mkF m 21 #[.val (.int p1), .val (.int p2), .val (.int (((((p1.toInt64) * (-7046029254386353131 : Int64)).toUInt64 >>> ((57 : Int32) &&& 0x3f).toInt64.toUInt64).toInt64).toInt32))] [(.int (((((p1.toInt64) * (-7046029254386353131 : Int64)).toUInt64 >>> ((57 : Int32) &&& 0x3f).toInt64.toUInt64).toInt64).toInt32)), (.long (1 : Int64))]))
    refine own_fwd (fun t k => XS.lshl X0.here hx rfl (hb hby own_d2_21) rfl k) ?_
    show own_R p.tables e below P (s₁.setTop (mkF m 22 #[.val (.int p1), .val (.int p2), .val (.int (((((p1.toInt64) * (-7046029254386353131 : Int64)).toUInt64 >>> ((57 : Int32) &&& 0x3f).toInt64.toUInt64).toInt64).toInt32))] [(.long ((1 : Int64) <<< ((((((p1.toInt64) * (-7046029254386353131 : Int64)).toUInt64 >>> ((57 : Int32) &&& 0x3f).toInt64.toUInt64).toInt64).toInt32) &&& 0x3f).toInt64))]))
    refine own_fwd (fun t k => XS.goto X0.here hx rfl (pc0 := 22) (pc' := 26) rfl (hb hby own_d2_22) (by decide) (by decide) k) ?_
    show own_R p.tables e below P (s₁.setTop (mkF m 26 #[.val (.int p1), .val (.int p2), .val (.int (((((p1.toInt64) * (-7046029254386353131 : Int64)).toUInt64 >>> ((57 : Int32) &&& 0x3f).toInt64.toUInt64).toInt64).toInt32))] [(.long ((1 : Int64) <<< ((((((p1.toInt64) * (-7046029254386353131 : Int64)).toUInt64 >>> ((57 : Int32) &&& 0x3f).toInt64.toUInt64).toInt64).toInt32) &&& 0x3f).toInt64))]))
    obtain ⟨fs2, hr2, hrun2, hended2, hW2, hsame2⟩ := X0.leave (v := some (.long ((1 : Int64) <<< ((((((p1.toInt64) * (-7046029254386353131 : Int64)).toUInt64 >>> ((57 : Int32) &&& 0x3f).toInt64.toUInt64).toInt64).toInt32) &&& 0x3f).toInt64))) (fun h => by rw [Bd.returns] at h; cases h)
    refine ⟨_, _, X0.lreturnOut hx Bd.returns (hb hby own_d2_26) hr2, fin _ _ ⟨hrun2, hended2, _, _, rfl, ?_, ⟨_, rfl⟩, hW2, hsame2.mono (by decide) (by decide)⟩⟩
    show own_Q2 Z p1 p2 h0 n0 _ s₁.heap _
    rw [e0]
    exact ⟨by unfold own_bit; rw [if_pos (show ((own_h p1 >>> ((6 : Int32) &&& 31)) = p2) from hc1)]; rfl, N0, rfl⟩
  · refine own_fwd (fun t k => XS.icmpYes X0.here hx rfl (pc0 := 16) (pc' := 25) rfl (hb hby own_d2_16) rfl (feq hc1).2 (by decide) (by decide) k) ?_
    show own_R p.tables e below P (s₁.setTop (mkF m 25 #[.val (.int p1), .val (.int p2), .val (.int (((((p1.toInt64) * (-7046029254386353131 : Int64)).toUInt64 >>> ((57 : Int32) &&& 0x3f).toInt64.toUInt64).toInt64).toInt32))] []))
    refine own_fwd (fun t k => XS.lconst X0.here hx rfl (hb hby own_d2_25) k) ?_
    show own_R p.tables e below P (s₁.setTop (mkF m 26 #[.val (.int p1), .val (.int p2), .val (.int (((((p1.toInt64) * (-7046029254386353131 : Int64)).toUInt64 >>> ((57 : Int32) &&& 0x3f).toInt64.toUInt64).toInt64).toInt32))] [(.long (0 : Int64))]))
    obtain ⟨fs3, hr3, hrun3, hended3, hW3, hsame3⟩ := X0.leave (v := some (.long (0 : Int64))) (fun h => by rw [Bd.returns] at h; cases h)
    refine ⟨_, _, X0.lreturnOut hx Bd.returns (hb hby own_d2_26) hr3, fin _ _ ⟨hrun3, hended3, _, _, rfl, ?_, ⟨_, rfl⟩, hW3, hsame3.mono (by decide) (by decide)⟩⟩
    show own_Q2 Z p1 p2 h0 n0 _ s₁.heap _
    rw [e0]
    exact ⟨by unfold own_bit; rw [if_neg (show ¬ ((own_h p1 >>> ((6 : Int32) &&& 31)) = p2) from hc1)], N0, rfl⟩
theorem own_d1_0 : decode prog_8_method_4_code 0 = .ok (.aload_n 0, 1) := by decide +kernel
theorem own_d1_1 : decode prog_8_method_4_code 1 = .ok (.iconst 0, 1) := by decide +kernel
theorem own_d1_2 : decode prog_8_method_4_code 2 = .ok (.dup2, 1) := by decide +kernel
theorem own_d1_3 : decode prog_8_method_4_code 3 = .ok (.laload, 1) := by decide +kernel
theorem own_d1_4 : decode prog_8_method_4_code 4 = .ok (.iload_n 1, 1) := by decide +kernel
theorem own_d1_5 : decode prog_8_method_4_code 5 = .ok (.iconst 0, 1) := by decide +kernel
theorem own_d1_6 : decode prog_8_method_4_code 6 = .ok (.invokestatic 56, 3) := by decide +kernel
theorem own_d1_9 : decode prog_8_method_4_code 9 = .ok (.lor, 1) := by decide +kernel
theorem own_d1_10 : decode prog_8_method_4_code 10 = .ok (.lastore, 1) := by decide +kernel
theorem own_d1_11 : decode prog_8_method_4_code 11 = .ok (.aload_n 0, 1) := by decide +kernel
theorem own_d1_12 : decode prog_8_method_4_code 12 = .ok (.iconst 1, 1) := by decide +kernel
theorem own_d1_13 : decode prog_8_method_4_code 13 = .ok (.dup2, 1) := by decide +kernel
theorem own_d1_14 : decode prog_8_method_4_code 14 = .ok (.laload, 1) := by decide +kernel
theorem own_d1_15 : decode prog_8_method_4_code 15 = .ok (.iload_n 1, 1) := by decide +kernel
theorem own_d1_16 : decode prog_8_method_4_code 16 = .ok (.iconst 1, 1) := by decide +kernel
theorem own_d1_17 : decode prog_8_method_4_code 17 = .ok (.invokestatic 56, 3) := by decide +kernel
theorem own_d1_20 : decode prog_8_method_4_code 20 = .ok (.lor, 1) := by decide +kernel
theorem own_d1_21 : decode prog_8_method_4_code 21 = .ok (.lastore, 1) := by decide +kernel
theorem own_d1_22 : decode prog_8_method_4_code 22 = .ok (.return_, 1) := by decide +kernel
theorem own_pd0 : parseMethodDescriptor "(II)J" = some ⟨[.int, .int], some .long⟩ := by decide +kernel
theorem own_ef1 (m : MethodId) (a1 : Addr) (p1 : Int32) : entryFrame m #[(.ref a1), (.int p1)] 2 = mkF m 0 #[.val (.ref a1), .val (.int p1)] [] := by first | (simp [entryFrame, mkF, argsToLocals, Value.category]; done) | rfl
def own_Q1 (Z : State) (a1 : Addr) (p1 : Int32) (x y : Int64) (h0 : Heap) (n0 : Nat) (v : Option Value) (h : Heap) (L : List Loc) : Prop := v = none ∧ Fr n0 L ∧ Keep h0 h [a1] ∧ own_AJ Z h a1 2 (own_two (x ||| own_bit p1 (0 : Int32)) (y ||| own_bit p1 (1 : Int32)))
set_option maxRecDepth 65536 in
set_option maxHeartbeats 40000000 in
theorem own_rm1 (l : Launch) (Z : State) (a0 : Array Value) (hw : ∀ d ∈ tables_1, d.before a0 Z = true) (ws : List Jvm.Cond) (a1 : Addr) (p1 : Int32) (x y : Int64) (h0 : Heap) (n0 : Nat) (Z0 : n0 ≤ h0.size) (pA : own_AJ Z h0 a1 2 (own_two x y)) (pg : n0 ≤ a1) :
    MetFree l (⟨"com/example/tracefold/tracefold/Conflicts", "mark", "([JI)V"⟩ : MethodName) (head1 (Jvm.Cond.code (⟨"com/example/tracefold/tracefold/Conflicts", "mark", "([JI)V"⟩ : MethodName) prog_8_method_4_code 2 none :: ws) ({ frames := 1, cells := 0, slots := 0, locals := 18 } : Room)) (fun a U => a = #[(.ref a1), (.int p1)] ∧ Z.Warmed39 U.vm ∧ U.heap = h0) (fun _ _ _ _ _ => True) (fun _ U o U' => ∃ v L, o = .returned v ∧ own_Q1 Z a1 p1 x y h0 n0 v U'.heap L ∧ FrameEnd U o U' L ({ frames := 1, cells := 0, slots := 0, locals := 18 } : Room).cells ({ frames := 1, cells := 0, slots := 0, locals := 18 } : Room).slots) := by
  refine MetFree.of_bodySF (plainFor_of_name own_pn0) hisR ?_
  intro p e s m args below meth c s₁ Bd hml0 hP hK
  obtain ⟨rfl, hZ, hh⟩ := hP
  have hx := Bd.exec
  have hby := Bd.bytes
  have hml : c.maxLocals = 2 := hml0
  have hown : s.vm.findClass "com/example/tracefold/tracefold/Conflicts" = some m.cls := findClass_of_methodNamed Bd.named
  have hnm := (name_of_methodNamed Bd.named Bd.method).1
  have X0 : Stand p l e ({ frames := 1, cells := 0, slots := 0, locals := 18 } : Room) s m #[(.ref a1), (.int p1)] below meth c s₁ [] 0 0 := Stand.of_body Bd
  have e0 : s₁.heap = h0 := by rw [← hh, Bd.state]; rfl
  have N0 := Fr.nil n0
  refine own_nm (st := s₁.setTop (entryFrame m #[(.ref a1), (.int p1)] 2)) fun P fin => ?_
  refine own_fwd (fun t k => castTop (own_ef1 m a1 p1) k) ?_
  show own_R p.tables e below P (s₁.setTop (mkF m 0 #[.val (.ref a1), .val (.int p1)] []))
  have K0 := Keep.refl h0 [a1]
  refine own_fwd (fun t k => XS.aloadN X0.here hx rfl (hb hby own_d1_0) rfl rfl k) ?_
  show own_R p.tables e below P (s₁.setTop (mkF m 1 #[.val (.ref a1), .val (.int p1)] [(.ref a1)]))
  refine own_fwd (fun t k => XS.iconst X0.here hx rfl (hb hby own_d1_1) k) ?_
  show own_R p.tables e below P (s₁.setTop (mkF m 2 #[.val (.ref a1), .val (.int p1)] [(.int (0 : Int32)), (.ref a1)]))
  refine own_fwd (fun t k => XT.dup2 X0.here hx rfl (hb hby own_d1_2) rfl rfl rfl k) ?_
  show own_R p.tables e below P (s₁.setTop (mkF m 3 #[.val (.ref a1), .val (.int p1)] [(.int (0 : Int32)), (.ref a1), (.int (0 : Int32)), (.ref a1)]))
  refine own_fwd (own_ldJ X0 hx hZ e0 pA (j := (0 : Int32)) 0 (by decide) (by decide) (g := (mkF m 3 #[.val (.ref a1), .val (.int p1)] [(.int (0 : Int32)), (.ref a1), (.int (0 : Int32)), (.ref a1)])) rfl rfl (hb hby own_d1_3)) ?_
  show own_R p.tables e below P (s₁.setTop (mkF m 4 #[.val (.ref a1), .val (.int p1)] [(.long ((own_two x y) 0)), (.int (0 : Int32)), (.ref a1)]))
  have hv4 : ((own_two x y) 0) = x := (own_two_0 _ _)
  rw [hv4]
  show own_R p.tables e below P (s₁.setTop (mkF m 4 #[.val (.ref a1), .val (.int p1)] [(.long x), (.int (0 : Int32)), (.ref a1)]))
  refine own_fwd (fun t k => XS.iloadN X0.here hx rfl (hb hby own_d1_4) rfl k) ?_
  show own_R p.tables e below P (s₁.setTop (mkF m 5 #[.val (.ref a1), .val (.int p1)] [(.int p1), (.long x), (.int (0 : Int32)), (.ref a1)]))
  refine own_fwd (fun t k => XS.iconst X0.here hx rfl (hb hby own_d1_5) k) ?_
  show own_R p.tables e below P (s₁.setTop (mkF m 6 #[.val (.ref a1), .val (.int p1)] [(.int (0 : Int32)), (.int p1), (.long x), (.int (0 : Int32)), (.ref a1)]))
  obtain ⟨_, _, ⟨T5, L5, k5, n5⟩, -, X5, ⟨Lc5, hQ5, l5, y5, z5⟩, st5⟩ := Jvm.LawKit.callS X0 hx (y := (⟨"com/example/tracefold/tracefold/Conflicts", "bit", "(II)J"⟩ : MethodName)) hown (mvT hZ (hw _ (List.mem_of_getElem? (i := 5) rfl))) (mvT hZ (hw _ (List.mem_of_getElem? (i := 6) rfl))) (mvT hZ (hw _ (List.mem_of_getElem? (i := 3) rfl))) (mvT hZ (hw _ (List.mem_of_getElem? (i := 7) rfl))) (by decide) (backOf (W := 4) (own_rm2 l Z a0 hw [] p1 (0 : Int32) h0 n0 Z0 ) hZ (hw _ (List.mem_of_getElem? (i := 7) rfl)) (hw _ (List.mem_of_getElem? (i := 3) rfl)) (by decide) (by decide)) (g := (mkF m 6 #[.val (.ref a1), .val (.int p1)] [(.int (0 : Int32)), (.int p1), (.long x), (.int (0 : Int32)), (.ref a1)])) rfl (by rw [hml]; rfl) (argsL := [(.int p1), (.int (0 : Int32))]) (rest := [(.long x), (.int (0 : Int32)), (.ref a1)]) (lenOf own_pd0 rfl) rfl (by show 2 * 0 + _ ≤ _; exact Nat.le_of_eq rfl) (hb hby own_d1_6) (fun _ _ => ⟨rfl, e0, (by decide : 0 + 0 ≤ _), (by decide : 0 + 0 ≤ _)⟩)
  dsimp only [Pt.U, Pt.locs, Pt.cells, Pt.slots] at X5 l5 y5 z5 st5 hQ5
  subst l5 y5 z5
  obtain ⟨h5, e5⟩ : ∃ z, T5.heap = z := ⟨_, rfl⟩
  rw [e5] at hQ5
  obtain ⟨hq5, N5q, q5⟩ := hQ5
  rw [q5] at e5
  subst hq5
  have N5 := Fr.app N0 N5q
  refine own_fwd st5 ?_
  show own_R p.tables e below P (T5.setTop (mkF m 9 #[.val (.ref a1), .val (.int p1)] [(.long (own_bit p1 (0 : Int32))), (.long x), (.int (0 : Int32)), (.ref a1)]))
  refine own_fwd (fun t k => XS.lor X5.here hx rfl (hb hby own_d1_9) rfl k) ?_
  show own_R p.tables e below P (T5.setTop (mkF m 10 #[.val (.ref a1), .val (.int p1)] [(.long (x ||| (own_bit p1 (0 : Int32)))), (.int (0 : Int32)), (.ref a1)]))
  obtain ⟨T6, h6, X6, e6, W6, A6_, st6⟩ := own_stJ X5 hx hZ e5 pA (j := (0 : Int32)) 0 (by decide) (by decide) (g := (mkF m 10 #[.val (.ref a1), .val (.int p1)] [(.long (x ||| (own_bit p1 (0 : Int32)))), (.int (0 : Int32)), (.ref a1)])) rfl rfl (hb hby own_d1_10)
  have N6 := Fr.snoc X6 N5 pg
  have Z6 : n0 ≤ h6.size := by rw [W6.size]; exact Z0
  have K6 := K0.wr W6 (Or.inl (List.mem_of_getElem? (i := 0) rfl))
  have Y6 : h0.size ≤ h6.size := by rw [W6.size]; exact (Nat.le_refl h0.size)
  refine own_fwd st6 ?_
  show own_R p.tables e below P (T6.setTop (mkF m 11 #[.val (.ref a1), .val (.int p1)] []))
  refine own_fwd (fun t k => XS.aloadN X6.here hx rfl (hb hby own_d1_11) rfl rfl k) ?_
  show own_R p.tables e below P (T6.setTop (mkF m 12 #[.val (.ref a1), .val (.int p1)] [(.ref a1)]))
  refine own_fwd (fun t k => XS.iconst X6.here hx rfl (hb hby own_d1_12) k) ?_
  show own_R p.tables e below P (T6.setTop (mkF m 13 #[.val (.ref a1), .val (.int p1)] [(.int (1 : Int32)), (.ref a1)]))
  refine own_fwd (fun t k => XT.dup2 X6.here hx rfl (hb hby own_d1_13) rfl rfl rfl k) ?_
  show own_R p.tables e below P (T6.setTop (mkF m 14 #[.val (.ref a1), .val (.int p1)] [(.int (1 : Int32)), (.ref a1), (.int (1 : Int32)), (.ref a1)]))
  refine own_fwd (own_ldJ X6 hx hZ e6 A6_ (j := (1 : Int32)) 1 (by decide) (by decide) (g := (mkF m 14 #[.val (.ref a1), .val (.int p1)] [(.int (1 : Int32)), (.ref a1), (.int (1 : Int32)), (.ref a1)])) rfl rfl (hb hby own_d1_14)) ?_
  show own_R p.tables e below P (T6.setTop (mkF m 15 #[.val (.ref a1), .val (.int p1)] [(.long ((own_upd (own_two x y) 0 (x ||| (own_bit p1 (0 : Int32)))) 1)), (.int (1 : Int32)), (.ref a1)]))
  have hv7 : ((own_upd (own_two x y) 0 (x ||| (own_bit p1 (0 : Int32)))) 1) = y := ((own_upd_miss _ _ (by decide)).trans (own_two_1 _ _))
  rw [hv7]
  show own_R p.tables e below P (T6.setTop (mkF m 15 #[.val (.ref a1), .val (.int p1)] [(.long y), (.int (1 : Int32)), (.ref a1)]))
  refine own_fwd (fun t k => XS.iloadN X6.here hx rfl (hb hby own_d1_15) rfl k) ?_
  show own_R p.tables e below P (T6.setTop (mkF m 16 #[.val (.ref a1), .val (.int p1)] [(.int p1), (.long y), (.int (1 : Int32)), (.ref a1)]))
  refine own_fwd (fun t k => XS.iconst X6.here hx rfl (hb hby own_d1_16) k) ?_
  show own_R p.tables e below P (T6.setTop (mkF m 17 #[.val (.ref a1), .val (.int p1)] [(.int (1 : Int32)), (.int p1), (.long y), (.int (1 : Int32)), (.ref a1)]))
  obtain ⟨_, _, ⟨T8, L8, k8, n8⟩, -, X8, ⟨Lc8, hQ8, l8, y8, z8⟩, st8⟩ := Jvm.LawKit.callS X6 hx (y := (⟨"com/example/tracefold/tracefold/Conflicts", "bit", "(II)J"⟩ : MethodName)) hown (mvT hZ (hw _ (List.mem_of_getElem? (i := 5) rfl))) (mvT hZ (hw _ (List.mem_of_getElem? (i := 6) rfl))) (mvT hZ (hw _ (List.mem_of_getElem? (i := 3) rfl))) (mvT hZ (hw _ (List.mem_of_getElem? (i := 7) rfl))) (by decide) (backOf (W := 4) (own_rm2 l Z a0 hw [] p1 (1 : Int32) h6 n0 Z6 ) hZ (hw _ (List.mem_of_getElem? (i := 7) rfl)) (hw _ (List.mem_of_getElem? (i := 3) rfl)) (by decide) (by decide)) (g := (mkF m 17 #[.val (.ref a1), .val (.int p1)] [(.int (1 : Int32)), (.int p1), (.long y), (.int (1 : Int32)), (.ref a1)])) rfl (by rw [hml]; rfl) (argsL := [(.int p1), (.int (1 : Int32))]) (rest := [(.long y), (.int (1 : Int32)), (.ref a1)]) (lenOf own_pd0 rfl) rfl (by show 2 * 0 + _ ≤ _; exact Nat.le_of_eq rfl) (hb hby own_d1_17) (fun _ _ => ⟨rfl, e6, (by decide : 0 + 0 ≤ _), (by decide : 0 + 0 ≤ _)⟩)
  dsimp only [Pt.U, Pt.locs, Pt.cells, Pt.slots] at X8 l8 y8 z8 st8 hQ8
  subst l8 y8 z8
  obtain ⟨h8, e8⟩ : ∃ z, T8.heap = z := ⟨_, rfl⟩
  rw [e8] at hQ8
  obtain ⟨hq8, N8q, q8⟩ := hQ8
  rw [q8] at e8
  subst hq8
  have N8 := Fr.app N6 N8q
  refine own_fwd st8 ?_
  show own_R p.tables e below P (T8.setTop (mkF m 20 #[.val (.ref a1), .val (.int p1)] [(.long (own_bit p1 (1 : Int32))), (.long y), (.int (1 : Int32)), (.ref a1)]))
  refine own_fwd (fun t k => XS.lor X8.here hx rfl (hb hby own_d1_20) rfl k) ?_
  show own_R p.tables e below P (T8.setTop (mkF m 21 #[.val (.ref a1), .val (.int p1)] [(.long (y ||| (own_bit p1 (1 : Int32)))), (.int (1 : Int32)), (.ref a1)]))
  obtain ⟨T9, h9, X9, e9, W9, A9_, st9⟩ := own_stJ X8 hx hZ e8 A6_ (j := (1 : Int32)) 1 (by decide) (by decide) (g := (mkF m 21 #[.val (.ref a1), .val (.int p1)] [(.long (y ||| (own_bit p1 (1 : Int32)))), (.int (1 : Int32)), (.ref a1)])) rfl rfl (hb hby own_d1_21)
  have N9 := Fr.snoc X9 N8 pg
  have Z9 : n0 ≤ h9.size := by rw [W9.size]; exact Z6
  have K9 := K6.wr W9 (Or.inl (List.mem_of_getElem? (i := 0) rfl))
  have Y9 : h0.size ≤ h9.size := by rw [W9.size]; exact Y6
  refine own_fwd st9 ?_
  show own_R p.tables e below P (T9.setTop (mkF m 22 #[.val (.ref a1), .val (.int p1)] []))
  obtain ⟨fs10, hr10, hrun10, hended10, hW10, hsame10⟩ := X9.leave (v := none) (fun _ => rfl)
  refine ⟨_, _, X9.returnOut hx Bd.returns (hb hby own_d1_22) hr10, fin _ _ ⟨hrun10, hended10, _, _, rfl, ?_, ⟨_, rfl⟩, hW10, hsame10.mono (by decide) (by decide)⟩⟩
  show own_Q1 Z a1 p1 x y h0 n0 _ T9.heap _
  rw [e9]
  exact ⟨rfl, N9, K9, A9_.cong fun i hi => by match i, hi with
        | 0, _ => rfl
        | 1, _ => rfl⟩
theorem own_d3_0 : decode method_2_code 0 = .ok (.lload_n 0, 1) := by decide +kernel
theorem own_d3_1 : decode method_2_code 1 = .ok (.lconst 0, 1) := by decide +kernel
theorem own_d3_2 : decode method_2_code 2 = .ok (.lcmp, 1) := by decide +kernel
theorem own_d3_3 : decode method_2_code 3 = .ok (.ifCond .eq 11, 3) := by decide +kernel
theorem own_d3_6 : decode method_2_code 6 = .ok (.lload_n 2, 1) := by decide +kernel
theorem own_d3_7 : decode method_2_code 7 = .ok (.lconst 0, 1) := by decide +kernel
theorem own_d3_8 : decode method_2_code 8 = .ok (.lcmp, 1) := by decide +kernel
theorem own_d3_9 : decode method_2_code 9 = .ok (.ifCond .eq 5, 3) := by decide +kernel
theorem own_d3_12 : decode method_2_code 12 = .ok (.iconst 0, 1) := by decide +kernel
theorem own_d3_13 : decode method_2_code 13 = .ok (.ireturn, 1) := by decide +kernel
theorem own_d3_14 : decode method_2_code 14 = .ok (.lload_n 0, 1) := by decide +kernel
theorem own_d3_15 : decode method_2_code 15 = .ok (.lload_n 2, 1) := by decide +kernel
theorem own_d3_16 : decode method_2_code 16 = .ok (.lor, 1) := by decide +kernel
theorem own_d3_17 : decode method_2_code 17 = .ok (.lstore 4, 2) := by decide +kernel
theorem own_d3_19 : decode method_2_code 19 = .ok (.lload 4, 2) := by decide +kernel
theorem own_d3_21 : decode method_2_code 21 = .ok (.lconst 0, 1) := by decide +kernel
theorem own_d3_22 : decode method_2_code 22 = .ok (.lcmp, 1) := by decide +kernel
theorem own_d3_23 : decode method_2_code 23 = .ok (.ifCond .eq 19, 3) := by decide +kernel
theorem own_d3_26 : decode method_2_code 26 = .ok (.lload 4, 2) := by decide +kernel
theorem own_d3_28 : decode method_2_code 28 = .ok (.lload 4, 2) := by decide +kernel
theorem own_d3_30 : decode method_2_code 30 = .ok (.lconst 1, 1) := by decide +kernel
theorem own_d3_31 : decode method_2_code 31 = .ok (.lsub, 1) := by decide +kernel
theorem own_d3_32 : decode method_2_code 32 = .ok (.land, 1) := by decide +kernel
theorem own_d3_33 : decode method_2_code 33 = .ok (.lconst 0, 1) := by decide +kernel
theorem own_d3_34 : decode method_2_code 34 = .ok (.lcmp, 1) := by decide +kernel
theorem own_d3_35 : decode method_2_code 35 = .ok (.ifCond .ne 7, 3) := by decide +kernel
theorem own_d3_38 : decode method_2_code 38 = .ok (.iconst 1, 1) := by decide +kernel
theorem own_d3_39 : decode method_2_code 39 = .ok (.goto 4, 3) := by decide +kernel
theorem own_d3_42 : decode method_2_code 42 = .ok (.iconst 0, 1) := by decide +kernel
theorem own_d3_43 : decode method_2_code 43 = .ok (.ireturn, 1) := by decide +kernel
theorem own_pn1 : plainName "com/example/tracefold/tracefold/ConflictsMarkPinLaw" = true := by first | (simp [plainName, overriddenIn]; done) | decide +kernel
theorem own_ef3 (m : MethodId) (q1 : Int64) (q2 : Int64) : entryFrame m #[(.long q1), (.long q2)] 6 = mkF m 0 #[.val (.long q1), .second, .val (.long q2), .second, .unset, .unset] [] := by first | (simp [entryFrame, mkF, argsToLocals, Value.category]; done) | rfl
def own_Q3 (Z : State) (q1 q2 : Int64) (h0 : Heap) (n0 : Nat) (v : Option Value) (h : Heap) (L : List Loc) : Prop := v = some (.int (1 : Int32)) ∧ Fr n0 L ∧ h = h0
set_option maxRecDepth 65536 in
set_option maxHeartbeats 40000000 in
theorem own_rm3 (l : Launch) (Z : State) (a0 : Array Value) (hw : ∀ d ∈ tables_1, d.before a0 Z = true) (ws : List Jvm.Cond) (q1 q2 : Int64) (h0 : Heap) (n0 : Nat) (Z0 : n0 ≤ h0.size) (ps : own_single q1 q2) :
    MetFree l (⟨"com/example/tracefold/tracefold/ConflictsMarkPinLaw", "singleBit", "(JJ)Z"⟩ : MethodName) (head1 (Jvm.Cond.code (⟨"com/example/tracefold/tracefold/ConflictsMarkPinLaw", "singleBit", "(JJ)Z"⟩ : MethodName) method_2_code 6 (some .boolean) :: ws) ({ frames := 0, cells := 0, slots := 0, locals := 0 } : Room)) (fun a U => a = #[(.long q1), (.long q2)] ∧ Z.Warmed39 U.vm ∧ U.heap = h0) (fun _ _ _ _ _ => True) (fun _ U o U' => ∃ v L, o = .returned v ∧ own_Q3 Z q1 q2 h0 n0 v U'.heap L ∧ FrameEnd U o U' L ({ frames := 0, cells := 0, slots := 0, locals := 0 } : Room).cells ({ frames := 0, cells := 0, slots := 0, locals := 0 } : Room).slots) := by
  refine MetFree.of_bodySF (plainFor_of_name own_pn1) hisR ?_
  intro p e s m args below meth c s₁ Bd hml0 hP hK
  obtain ⟨rfl, hZ, hh⟩ := hP
  have hx := Bd.exec
  have hby := Bd.bytes
  have hml : c.maxLocals = 6 := hml0
  have hown : s.vm.findClass "com/example/tracefold/tracefold/ConflictsMarkPinLaw" = some m.cls := findClass_of_methodNamed Bd.named
  have hnm := (name_of_methodNamed Bd.named Bd.method).1
  have X0 : Stand p l e ({ frames := 0, cells := 0, slots := 0, locals := 0 } : Room) s m #[(.long q1), (.long q2)] below meth c s₁ [] 0 0 := Stand.of_body Bd
  have e0 : s₁.heap = h0 := by rw [← hh, Bd.state]; rfl
  have N0 := Fr.nil n0
  refine own_nm (st := s₁.setTop (entryFrame m #[(.long q1), (.long q2)] 6)) fun P fin => ?_
  refine own_fwd (fun t k => castTop (own_ef3 m q1 q2) k) ?_
  show own_R p.tables e below P (s₁.setTop (mkF m 0 #[.val (.long q1), .second, .val (.long q2), .second, .unset, .unset] []))
  refine own_fwd (fun t k => XS.lloadN X0.here hx rfl (hb hby own_d3_0) rfl k) ?_
  show own_R p.tables e below P (s₁.setTop (mkF m 1 #[.val (.long q1), .second, .val (.long q2), .second, .unset, .unset] [(.long q1)]))
  refine own_fwd (fun t k => XS.lconst X0.here hx rfl (hb hby own_d3_1) k) ?_
  show own_R p.tables e below P (s₁.setTop (mkF m 2 #[.val (.long q1), .second, .val (.long q2), .second, .unset, .unset] [(.long (0 : Int64)), (.long q1)]))
  refine own_fwd (fun t k => XS.lcmp X0.here hx rfl (hb hby own_d3_2) rfl k) ?_
  show own_R p.tables e below P (s₁.setTop (mkF m 3 #[.val (.long q1), .second, .val (.long q2), .second, .unset, .unset] [(.int (lcmpW q1 (0 : Int64)))]))
  by_cases hc11 : (lcmpW q1 (0 : Int64)) = (0 : Int32)
  · refine own_fwd (fun t k => XS.ifYes X0.here hx rfl (pc0 := 3) (pc' := 14) rfl (hb hby own_d3_3) rfl ((if0 _ _).trans (teq hc11).1) (by decide) (by decide) k) ?_
    show own_R p.tables e below P (s₁.setTop (mkF m 14 #[.val (.long q1), .second, .val (.long q2), .second, .unset, .unset] []))
    refine own_fwd (fun t k => XS.lloadN X0.here hx rfl (hb hby own_d3_14) rfl k) ?_
    show own_R p.tables e below P (s₁.setTop (mkF m 15 #[.val (.long q1), .second, .val (.long q2), .second, .unset, .unset] [(.long q1)]))
    refine own_fwd (fun t k => XS.lloadN X0.here hx rfl (hb hby own_d3_15) rfl k) ?_
    show own_R p.tables e below P (s₁.setTop (mkF m 16 #[.val (.long q1), .second, .val (.long q2), .second, .unset, .unset] [(.long q2), (.long q1)]))
    refine own_fwd (fun t k => XS.lor X0.here hx rfl (hb hby own_d3_16) rfl k) ?_
    show own_R p.tables e below P (s₁.setTop (mkF m 17 #[.val (.long q1), .second, .val (.long q2), .second, .unset, .unset] [(.long (q1 ||| q2))]))
    refine own_fwd (fun t k => XS.lstore X0.here hx rfl (hb hby own_d3_17) rfl (l' := #[.val (.long q1), .second, .val (.long q2), .second, .val (.long (q1 ||| q2)), .second]) rfl k) ?_
    show own_R p.tables e below P (s₁.setTop (mkF m 19 #[.val (.long q1), .second, .val (.long q2), .second, .val (.long (q1 ||| q2)), .second] []))
    refine own_fwd (fun t k => XS.lload X0.here hx rfl (hb hby own_d3_19) rfl k) ?_
    show own_R p.tables e below P (s₁.setTop (mkF m 21 #[.val (.long q1), .second, .val (.long q2), .second, .val (.long (q1 ||| q2)), .second] [(.long (q1 ||| q2))]))
    refine own_fwd (fun t k => XS.lconst X0.here hx rfl (hb hby own_d3_21) k) ?_
    show own_R p.tables e below P (s₁.setTop (mkF m 22 #[.val (.long q1), .second, .val (.long q2), .second, .val (.long (q1 ||| q2)), .second] [(.long (0 : Int64)), (.long (q1 ||| q2))]))
    refine own_fwd (fun t k => XS.lcmp X0.here hx rfl (hb hby own_d3_22) rfl k) ?_
    show own_R p.tables e below P (s₁.setTop (mkF m 23 #[.val (.long q1), .second, .val (.long q2), .second, .val (.long (q1 ||| q2)), .second] [(.int (lcmpW (q1 ||| q2) (0 : Int64)))]))
    have hc12 : ¬ ((lcmpW (q1 ||| q2) (0 : Int64)) = (0 : Int32)) := fun q => ps.2.1 ((lw_eq _ _).mp q)
    refine own_fwd (fun t k => XS.ifNo X0.here hx rfl (hb hby own_d3_23) rfl ((if0 _ _).trans (feq hc12).1) k) ?_
    show own_R p.tables e below P (s₁.setTop (mkF m 26 #[.val (.long q1), .second, .val (.long q2), .second, .val (.long (q1 ||| q2)), .second] []))
    refine own_fwd (fun t k => XS.lload X0.here hx rfl (hb hby own_d3_26) rfl k) ?_
    show own_R p.tables e below P (s₁.setTop (mkF m 28 #[.val (.long q1), .second, .val (.long q2), .second, .val (.long (q1 ||| q2)), .second] [(.long (q1 ||| q2))]))
    refine own_fwd (fun t k => XS.lload X0.here hx rfl (hb hby own_d3_28) rfl k) ?_
    show own_R p.tables e below P (s₁.setTop (mkF m 30 #[.val (.long q1), .second, .val (.long q2), .second, .val (.long (q1 ||| q2)), .second] [(.long (q1 ||| q2)), (.long (q1 ||| q2))]))
    refine own_fwd (fun t k => XS.lconst X0.here hx rfl (hb hby own_d3_30) k) ?_
    show own_R p.tables e below P (s₁.setTop (mkF m 31 #[.val (.long q1), .second, .val (.long q2), .second, .val (.long (q1 ||| q2)), .second] [(.long (1 : Int64)), (.long (q1 ||| q2)), (.long (q1 ||| q2))]))
    refine own_fwd (fun t k => XS.lsub X0.here hx rfl (hb hby own_d3_31) rfl k) ?_
    show own_R p.tables e below P (s₁.setTop (mkF m 32 #[.val (.long q1), .second, .val (.long q2), .second, .val (.long (q1 ||| q2)), .second] [(.long ((q1 ||| q2) - (1 : Int64))), (.long (q1 ||| q2))]))
    refine own_fwd (fun t k => XS.land X0.here hx rfl (hb hby own_d3_32) rfl k) ?_
    show own_R p.tables e below P (s₁.setTop (mkF m 33 #[.val (.long q1), .second, .val (.long q2), .second, .val (.long (q1 ||| q2)), .second] [(.long ((q1 ||| q2) &&& ((q1 ||| q2) - (1 : Int64))))]))
    refine own_fwd (fun t k => XS.lconst X0.here hx rfl (hb hby own_d3_33) k) ?_
    show own_R p.tables e below P (s₁.setTop (mkF m 34 #[.val (.long q1), .second, .val (.long q2), .second, .val (.long (q1 ||| q2)), .second] [(.long (0 : Int64)), (.long ((q1 ||| q2) &&& ((q1 ||| q2) - (1 : Int64))))]))
    refine own_fwd (fun t k => XS.lcmp X0.here hx rfl (hb hby own_d3_34) rfl k) ?_
    show own_R p.tables e below P (s₁.setTop (mkF m 35 #[.val (.long q1), .second, .val (.long q2), .second, .val (.long (q1 ||| q2)), .second] [(.int (lcmpW ((q1 ||| q2) &&& ((q1 ||| q2) - (1 : Int64))) (0 : Int64)))]))
    have hc13 : (lcmpW ((q1 ||| q2) &&& ((q1 ||| q2) - (1 : Int64))) (0 : Int64)) = (0 : Int32) := (lw_eq _ _).mpr ps.2.2
    refine own_fwd (fun t k => XS.ifNo X0.here hx rfl (hb hby own_d3_35) rfl ((if0 _ _).trans (teq hc13).2) k) ?_
    show own_R p.tables e below P (s₁.setTop (mkF m 38 #[.val (.long q1), .second, .val (.long q2), .second, .val (.long (q1 ||| q2)), .second] []))
    refine own_fwd (fun t k => XS.iconst X0.here hx rfl (hb hby own_d3_38) k) ?_
    show own_R p.tables e below P (s₁.setTop (mkF m 39 #[.val (.long q1), .second, .val (.long q2), .second, .val (.long (q1 ||| q2)), .second] [(.int (1 : Int32))]))
    refine own_fwd (fun t k => XS.goto X0.here hx rfl (pc0 := 39) (pc' := 43) rfl (hb hby own_d3_39) (by decide) (by decide) k) ?_
    show own_R p.tables e below P (s₁.setTop (mkF m 43 #[.val (.long q1), .second, .val (.long q2), .second, .val (.long (q1 ||| q2)), .second] [(.int (1 : Int32))]))
    obtain ⟨fs14, hr14, hrun14, hended14, hW14, hsame14⟩ := X0.leave (v := some (.int (1 : Int32))) (fun h => by rw [Bd.returns] at h; cases h)
    refine ⟨_, _, X0.ireturnOut hx (w := (1 : Int32)) Bd.returns rfl (by simp) (hb hby own_d3_43) hr14, fin _ _ ⟨hrun14, hended14, _, _, rfl, ?_, ⟨_, rfl⟩, hW14, hsame14.mono (by decide) (by decide)⟩⟩
    show own_Q3 Z q1 q2 h0 n0 _ s₁.heap _
    rw [e0]
    exact ⟨rfl, N0, rfl⟩
  · refine own_fwd (fun t k => XS.ifNo X0.here hx rfl (hb hby own_d3_3) rfl ((if0 _ _).trans (feq hc11).1) k) ?_
    show own_R p.tables e below P (s₁.setTop (mkF m 6 #[.val (.long q1), .second, .val (.long q2), .second, .unset, .unset] []))
    refine own_fwd (fun t k => XS.lloadN X0.here hx rfl (hb hby own_d3_6) rfl k) ?_
    show own_R p.tables e below P (s₁.setTop (mkF m 7 #[.val (.long q1), .second, .val (.long q2), .second, .unset, .unset] [(.long q2)]))
    refine own_fwd (fun t k => XS.lconst X0.here hx rfl (hb hby own_d3_7) k) ?_
    show own_R p.tables e below P (s₁.setTop (mkF m 8 #[.val (.long q1), .second, .val (.long q2), .second, .unset, .unset] [(.long (0 : Int64)), (.long q2)]))
    refine own_fwd (fun t k => XS.lcmp X0.here hx rfl (hb hby own_d3_8) rfl k) ?_
    show own_R p.tables e below P (s₁.setTop (mkF m 9 #[.val (.long q1), .second, .val (.long q2), .second, .unset, .unset] [(.int (lcmpW q2 (0 : Int64)))]))
    have hc15 : (lcmpW q2 (0 : Int64)) = (0 : Int32) := (lw_eq _ _).mpr (ps.1.resolve_left fun q => hc11 ((lw_eq _ _).mpr q))
    refine own_fwd (fun t k => XS.ifYes X0.here hx rfl (pc0 := 9) (pc' := 14) rfl (hb hby own_d3_9) rfl ((if0 _ _).trans (teq hc15).1) (by decide) (by decide) k) ?_
    show own_R p.tables e below P (s₁.setTop (mkF m 14 #[.val (.long q1), .second, .val (.long q2), .second, .unset, .unset] []))
    refine own_fwd (fun t k => XS.lloadN X0.here hx rfl (hb hby own_d3_14) rfl k) ?_
    show own_R p.tables e below P (s₁.setTop (mkF m 15 #[.val (.long q1), .second, .val (.long q2), .second, .unset, .unset] [(.long q1)]))
    refine own_fwd (fun t k => XS.lloadN X0.here hx rfl (hb hby own_d3_15) rfl k) ?_
    show own_R p.tables e below P (s₁.setTop (mkF m 16 #[.val (.long q1), .second, .val (.long q2), .second, .unset, .unset] [(.long q2), (.long q1)]))
    refine own_fwd (fun t k => XS.lor X0.here hx rfl (hb hby own_d3_16) rfl k) ?_
    show own_R p.tables e below P (s₁.setTop (mkF m 17 #[.val (.long q1), .second, .val (.long q2), .second, .unset, .unset] [(.long (q1 ||| q2))]))
    refine own_fwd (fun t k => XS.lstore X0.here hx rfl (hb hby own_d3_17) rfl (l' := #[.val (.long q1), .second, .val (.long q2), .second, .val (.long (q1 ||| q2)), .second]) rfl k) ?_
    show own_R p.tables e below P (s₁.setTop (mkF m 19 #[.val (.long q1), .second, .val (.long q2), .second, .val (.long (q1 ||| q2)), .second] []))
    refine own_fwd (fun t k => XS.lload X0.here hx rfl (hb hby own_d3_19) rfl k) ?_
    show own_R p.tables e below P (s₁.setTop (mkF m 21 #[.val (.long q1), .second, .val (.long q2), .second, .val (.long (q1 ||| q2)), .second] [(.long (q1 ||| q2))]))
    refine own_fwd (fun t k => XS.lconst X0.here hx rfl (hb hby own_d3_21) k) ?_
    show own_R p.tables e below P (s₁.setTop (mkF m 22 #[.val (.long q1), .second, .val (.long q2), .second, .val (.long (q1 ||| q2)), .second] [(.long (0 : Int64)), (.long (q1 ||| q2))]))
    refine own_fwd (fun t k => XS.lcmp X0.here hx rfl (hb hby own_d3_22) rfl k) ?_
    show own_R p.tables e below P (s₁.setTop (mkF m 23 #[.val (.long q1), .second, .val (.long q2), .second, .val (.long (q1 ||| q2)), .second] [(.int (lcmpW (q1 ||| q2) (0 : Int64)))]))
    have hc16 : ¬ ((lcmpW (q1 ||| q2) (0 : Int64)) = (0 : Int32)) := fun q => ps.2.1 ((lw_eq _ _).mp q)
    refine own_fwd (fun t k => XS.ifNo X0.here hx rfl (hb hby own_d3_23) rfl ((if0 _ _).trans (feq hc16).1) k) ?_
    show own_R p.tables e below P (s₁.setTop (mkF m 26 #[.val (.long q1), .second, .val (.long q2), .second, .val (.long (q1 ||| q2)), .second] []))
    refine own_fwd (fun t k => XS.lload X0.here hx rfl (hb hby own_d3_26) rfl k) ?_
    show own_R p.tables e below P (s₁.setTop (mkF m 28 #[.val (.long q1), .second, .val (.long q2), .second, .val (.long (q1 ||| q2)), .second] [(.long (q1 ||| q2))]))
    refine own_fwd (fun t k => XS.lload X0.here hx rfl (hb hby own_d3_28) rfl k) ?_
    show own_R p.tables e below P (s₁.setTop (mkF m 30 #[.val (.long q1), .second, .val (.long q2), .second, .val (.long (q1 ||| q2)), .second] [(.long (q1 ||| q2)), (.long (q1 ||| q2))]))
    refine own_fwd (fun t k => XS.lconst X0.here hx rfl (hb hby own_d3_30) k) ?_
    show own_R p.tables e below P (s₁.setTop (mkF m 31 #[.val (.long q1), .second, .val (.long q2), .second, .val (.long (q1 ||| q2)), .second] [(.long (1 : Int64)), (.long (q1 ||| q2)), (.long (q1 ||| q2))]))
    refine own_fwd (fun t k => XS.lsub X0.here hx rfl (hb hby own_d3_31) rfl k) ?_
    show own_R p.tables e below P (s₁.setTop (mkF m 32 #[.val (.long q1), .second, .val (.long q2), .second, .val (.long (q1 ||| q2)), .second] [(.long ((q1 ||| q2) - (1 : Int64))), (.long (q1 ||| q2))]))
    refine own_fwd (fun t k => XS.land X0.here hx rfl (hb hby own_d3_32) rfl k) ?_
    show own_R p.tables e below P (s₁.setTop (mkF m 33 #[.val (.long q1), .second, .val (.long q2), .second, .val (.long (q1 ||| q2)), .second] [(.long ((q1 ||| q2) &&& ((q1 ||| q2) - (1 : Int64))))]))
    refine own_fwd (fun t k => XS.lconst X0.here hx rfl (hb hby own_d3_33) k) ?_
    show own_R p.tables e below P (s₁.setTop (mkF m 34 #[.val (.long q1), .second, .val (.long q2), .second, .val (.long (q1 ||| q2)), .second] [(.long (0 : Int64)), (.long ((q1 ||| q2) &&& ((q1 ||| q2) - (1 : Int64))))]))
    refine own_fwd (fun t k => XS.lcmp X0.here hx rfl (hb hby own_d3_34) rfl k) ?_
    show own_R p.tables e below P (s₁.setTop (mkF m 35 #[.val (.long q1), .second, .val (.long q2), .second, .val (.long (q1 ||| q2)), .second] [(.int (lcmpW ((q1 ||| q2) &&& ((q1 ||| q2) - (1 : Int64))) (0 : Int64)))]))
    have hc17 : (lcmpW ((q1 ||| q2) &&& ((q1 ||| q2) - (1 : Int64))) (0 : Int64)) = (0 : Int32) := (lw_eq _ _).mpr ps.2.2
    refine own_fwd (fun t k => XS.ifNo X0.here hx rfl (hb hby own_d3_35) rfl ((if0 _ _).trans (teq hc17).2) k) ?_
    show own_R p.tables e below P (s₁.setTop (mkF m 38 #[.val (.long q1), .second, .val (.long q2), .second, .val (.long (q1 ||| q2)), .second] []))
    refine own_fwd (fun t k => XS.iconst X0.here hx rfl (hb hby own_d3_38) k) ?_
    show own_R p.tables e below P (s₁.setTop (mkF m 39 #[.val (.long q1), .second, .val (.long q2), .second, .val (.long (q1 ||| q2)), .second] [(.int (1 : Int32))]))
    refine own_fwd (fun t k => XS.goto X0.here hx rfl (pc0 := 39) (pc' := 43) rfl (hb hby own_d3_39) (by decide) (by decide) k) ?_
    show own_R p.tables e below P (s₁.setTop (mkF m 43 #[.val (.long q1), .second, .val (.long q2), .second, .val (.long (q1 ||| q2)), .second] [(.int (1 : Int32))]))
    obtain ⟨fs18, hr18, hrun18, hended18, hW18, hsame18⟩ := X0.leave (v := some (.int (1 : Int32))) (fun h => by rw [Bd.returns] at h; cases h)
    refine ⟨_, _, X0.ireturnOut hx (w := (1 : Int32)) Bd.returns rfl (by simp) (hb hby own_d3_43) hr18, fin _ _ ⟨hrun18, hended18, _, _, rfl, ?_, ⟨_, rfl⟩, hW18, hsame18.mono (by decide) (by decide)⟩⟩
    show own_Q3 Z q1 q2 h0 n0 _ s₁.heap _
    rw [e0]
    exact ⟨rfl, N0, rfl⟩
theorem own_pd1 : parseMethodDescriptor "([JI)V" = some ⟨[(.array .long), .int], none⟩ := by decide +kernel
theorem own_pd2 : parseMethodDescriptor "(JJ)Z" = some ⟨[.long, .long], some .boolean⟩ := by decide +kernel
theorem own_eflaw (m : MethodId) (p0 : Int64) (p1 : Int64) (p2 : Int32) (p3 : Int32) (p4 : Int32) : entryFrame m #[(.long p0), (.long p1), (.int p2), (.int p3), (.int p4)] maxLocals = mkF m 0 #[.val (.long p0), .second, .val (.long p1), .second, .val (.int p2), .val (.int p3), .val (.int p4), .unset, .unset, .unset, .unset] [] := by first | (simp [entryFrame, mkF, argsToLocals, Value.category, maxLocals]; done) | rfl
def own_Qlaw (Z : State) (p0 p1 : Int64) (p2 p3 p4 : Int32) (h0 : Heap) (n0 : Nat) (v : Option Value) (h : Heap) (L : List Loc) : Prop := v = some (.int 1) ∧ Fr n0 L
set_option maxRecDepth 65536 in
set_option maxHeartbeats 40000000 in
theorem own_rmlaw (l : Launch) (Z : State) (a0 : Array Value) (hw : ∀ d ∈ tables_1, d.before a0 Z = true) (ws : List Jvm.Cond) (p0 p1 : Int64) (p2 p3 p4 : Int32) (h0 : Heap) (n0 : Nat) (Z0 : n0 ≤ h0.size) :
    MetFree l x (head1 (Jvm.Cond.code x code maxLocals ret :: ws) room_1) (fun a U => a = #[(.long p0), (.long p1), (.int p2), (.int p3), (.int p4)] ∧ Z.Warmed39 U.vm ∧ U.heap = h0) (fun _ _ _ _ _ => True) (fun _ U o U' => ∃ v L, o = .returned v ∧ own_Qlaw Z p0 p1 p2 p3 p4 h0 n0 v U'.heap L ∧ FrameEnd U o U' L 16 128) := by
  refine MetFree.of_bodySF (plainFor_of_name own_pn1) hisR ?_
  intro p e s m args below meth c s₁ Bd hml0 hP hK
  obtain ⟨rfl, hZ, hh⟩ := hP
  have hx := Bd.exec
  have hby := Bd.bytes
  have hml : c.maxLocals = 11 := hml0
  have hown : s.vm.findClass "com/example/tracefold/tracefold/ConflictsMarkPinLaw" = some m.cls := findClass_of_methodNamed Bd.named
  have hnm := (name_of_methodNamed Bd.named Bd.method).1
  have X0 : Stand p l e room_1 s m #[(.long p0), (.long p1), (.int p2), (.int p3), (.int p4)] below meth c s₁ [] 0 0 := Stand.of_body Bd
  have e0 : s₁.heap = h0 := by rw [← hh, Bd.state]; rfl
  have N0 := Fr.nil n0
  refine own_nm (st := s₁.setTop (entryFrame m #[(.long p0), (.long p1), (.int p2), (.int p3), (.int p4)] maxLocals)) fun P fin => ?_
  refine own_fwd (fun t k => castTop (own_eflaw m p0 p1 p2 p3 p4) k) ?_
  show own_R p.tables e below P (s₁.setTop (mkF m 0 #[.val (.long p0), .second, .val (.long p1), .second, .val (.int p2), .val (.int p3), .val (.int p4), .unset, .unset, .unset, .unset] []))
  refine own_fwd (fun t k => XS.iload X0.here hx rfl (hb hby at_0) rfl k) ?_
  show own_R p.tables e below P (s₁.setTop (mkF m 2 #[.val (.long p0), .second, .val (.long p1), .second, .val (.int p2), .val (.int p3), .val (.int p4), .unset, .unset, .unset, .unset] [(.int p4)]))
  refine own_fwd (fun t k => XS.iconst X0.here hx rfl (hb hby at_2) k) ?_
  show own_R p.tables e below P (s₁.setTop (mkF m 3 #[.val (.long p0), .second, .val (.long p1), .second, .val (.int p2), .val (.int p3), .val (.int p4), .unset, .unset, .unset, .unset] [(.int (1 : Int32)), (.int p4)]))
  refine own_fwd (fun t k => XS.iand X0.here hx rfl (hb hby at_3) rfl k) ?_
  show own_R p.tables e below P (s₁.setTop (mkF m 4 #[.val (.long p0), .second, .val (.long p1), .second, .val (.int p2), .val (.int p3), .val (.int p4), .unset, .unset, .unset, .unset] [(.int (p4 &&& (1 : Int32)))]))
  have j19 : ∀ P, own_R p.tables e below P (s₁.setTop (mkF m 14 #[.val (.long p0), .second, .val (.long p1), .second, .val (.int p2), .val (.int p3), .val (.int p4), .unset, .unset, .unset, .unset] [(.int (if (p4 &&& (1 : Int32)) = (0 : Int32) then p3 else p2))])) → own_R p.tables e below P (s₁.setTop (mkF m 4 #[.val (.long p0), .second, .val (.long p1), .second, .val (.int p2), .val (.int p3), .val (.int p4), .unset, .unset, .unset, .unset] [(.int (p4 &&& (1 : Int32)))])) := by
    intro P k
    by_cases hc19 : (p4 &&& (1 : Int32)) = (0 : Int32)
    · simp only [if_pos hc19] at k
      refine own_fwd (fun t k => XS.ifYes X0.here hx rfl (pc0 := 4) (pc' := 12) rfl (hb hby at_4) rfl ((if0 _ _).trans (teq hc19).1) (by decide) (by decide) k) ?_
      show own_R p.tables e below P (s₁.setTop (mkF m 12 #[.val (.long p0), .second, .val (.long p1), .second, .val (.int p2), .val (.int p3), .val (.int p4), .unset, .unset, .unset, .unset] []))
      refine own_fwd (fun t k => XS.iload X0.here hx rfl (hb hby at_12) rfl k) ?_
      show own_R p.tables e below P (s₁.setTop (mkF m 14 #[.val (.long p0), .second, .val (.long p1), .second, .val (.int p2), .val (.int p3), .val (.int p4), .unset, .unset, .unset, .unset] [(.int p3)]))
      exact k
    · simp only [if_neg hc19] at k
      refine own_fwd (fun t k => XS.ifNo X0.here hx rfl (hb hby at_4) rfl ((if0 _ _).trans (feq hc19).1) k) ?_
      show own_R p.tables e below P (s₁.setTop (mkF m 7 #[.val (.long p0), .second, .val (.long p1), .second, .val (.int p2), .val (.int p3), .val (.int p4), .unset, .unset, .unset, .unset] []))
      refine own_fwd (fun t k => XS.iload X0.here hx rfl (hb hby at_7) rfl k) ?_
      show own_R p.tables e below P (s₁.setTop (mkF m 9 #[.val (.long p0), .second, .val (.long p1), .second, .val (.int p2), .val (.int p3), .val (.int p4), .unset, .unset, .unset, .unset] [(.int p2)]))
      refine own_fwd (fun t k => XS.goto X0.here hx rfl (pc0 := 9) (pc' := 14) rfl (hb hby at_9) (by decide) (by decide) k) ?_
      show own_R p.tables e below P (s₁.setTop (mkF m 14 #[.val (.long p0), .second, .val (.long p1), .second, .val (.int p2), .val (.int p3), .val (.int p4), .unset, .unset, .unset, .unset] [(.int p2)]))
      exact k
  refine j19 P ?_
  show own_R p.tables e below P (s₁.setTop (mkF m 14 #[.val (.long p0), .second, .val (.long p1), .second, .val (.int p2), .val (.int p3), .val (.int p4), .unset, .unset, .unset, .unset] [(.int (if (p4 &&& (1 : Int32)) = (0 : Int32) then p3 else p2))]))
  obtain ⟨rr, hg_rr⟩ : ∃ z, (if (p4 &&& (1 : Int32)) = (0 : Int32) then p3 else p2) = z := ⟨_, rfl⟩
  rw [hg_rr]
  show own_R p.tables e below P (s₁.setTop (mkF m 14 #[.val (.long p0), .second, .val (.long p1), .second, .val (.int p2), .val (.int p3), .val (.int p4), .unset, .unset, .unset, .unset] [(.int rr)]))
  refine own_fwd (fun t k => XS.istore X0.here hx rfl (hb hby at_14) rfl (l' := #[.val (.long p0), .second, .val (.long p1), .second, .val (.int p2), .val (.int p3), .val (.int p4), .val (.int rr), .unset, .unset, .unset]) rfl k) ?_
  show own_R p.tables e below P (s₁.setTop (mkF m 16 #[.val (.long p0), .second, .val (.long p1), .second, .val (.int p2), .val (.int p3), .val (.int p4), .val (.int rr), .unset, .unset, .unset] []))
  refine own_fwd (fun t k => XS.iconst X0.here hx rfl (hb hby at_16) k) ?_
  show own_R p.tables e below P (s₁.setTop (mkF m 17 #[.val (.long p0), .second, .val (.long p1), .second, .val (.int p2), .val (.int p3), .val (.int p4), .val (.int rr), .unset, .unset, .unset] [(.int (2 : Int32))]))
  obtain ⟨T20, h20, b20, g20, X20, e20, E20, A20, B20, st20⟩ := own_newA (n := 2) X0 hx hZ (hw _ (List.mem_of_getElem? (i := 0) rfl)) e0 (z := (2 : Int32)) (by decide) (cap := 2) (by decide) (g := (mkF m 17 #[.val (.long p0), .second, .val (.long p1), .second, .val (.int p2), .val (.int p3), .val (.int p4), .val (.int rr), .unset, .unset, .unset] [(.int (2 : Int32))])) rfl (hb hby at_17) rfl (by decide) (by decide) (by decide) (ad := "[J") (by decide)
  have ge_b20 : n0 ≤ b20 := by rw [g20]; exact Z0
  have sz_b20 : h0.size ≤ b20 := by rw [g20]; exact (Nat.le_refl h0.size)
  have A20_ : own_AJ Z h20 b20 2 (fun _ => (0 : Int64)) := A20
  have Z20 : n0 ≤ h20.size := Nat.le_trans Z0 E20.1
  have Y20 : h0.size ≤ h20.size := Nat.le_trans (Nat.le_refl h0.size) E20.1
  refine own_fwd st20 ?_
  show own_R p.tables e below P (T20.setTop (mkF m 19 #[.val (.long p0), .second, .val (.long p1), .second, .val (.int p2), .val (.int p3), .val (.int p4), .val (.int rr), .unset, .unset, .unset] [(.ref b20)]))
  refine own_fwd (fun t k => XS.astore X20.here hx rfl (hb hby at_19) rfl rfl (l' := #[.val (.long p0), .second, .val (.long p1), .second, .val (.int p2), .val (.int p3), .val (.int p4), .val (.int rr), .val (.ref b20), .unset, .unset]) rfl k) ?_
  show own_R p.tables e below P (T20.setTop (mkF m 21 #[.val (.long p0), .second, .val (.long p1), .second, .val (.int p2), .val (.int p3), .val (.int p4), .val (.int rr), .val (.ref b20), .unset, .unset] []))
  refine own_fwd (fun t k => XS.aload X20.here hx rfl (hb hby at_21) rfl rfl k) ?_
  show own_R p.tables e below P (T20.setTop (mkF m 23 #[.val (.long p0), .second, .val (.long p1), .second, .val (.int p2), .val (.int p3), .val (.int p4), .val (.int rr), .val (.ref b20), .unset, .unset] [(.ref b20)]))
  refine own_fwd (fun t k => XS.iload X20.here hx rfl (hb hby at_23) rfl k) ?_
  show own_R p.tables e below P (T20.setTop (mkF m 25 #[.val (.long p0), .second, .val (.long p1), .second, .val (.int p2), .val (.int p3), .val (.int p4), .val (.int rr), .val (.ref b20), .unset, .unset] [(.int p2), (.ref b20)]))
  obtain ⟨_, _, ⟨T21, L21, k21, n21⟩, -, X21, ⟨Lc21, hQ21, l21, y21, z21⟩, st21⟩ := Jvm.LawKit.callS X20 hx (y := (⟨"com/example/tracefold/tracefold/Conflicts", "mark", "([JI)V"⟩ : MethodName)) hown (mvT hZ (hw _ (List.mem_of_getElem? (i := 1) rfl))) (mvT hZ (hw _ (List.mem_of_getElem? (i := 2) rfl))) (mvT hZ (hw _ (List.mem_of_getElem? (i := 3) rfl))) (mvT hZ (hw _ (List.mem_of_getElem? (i := 4) rfl))) (by decide) (backOf (W := 0) (own_rm1 l Z a0 hw [] b20 p2 (0 : Int64) (0 : Int64) h20 n0 Z20 (A20_.cong fun i hi => by match i, hi with
        | 0, _ => rfl
        | 1, _ => rfl) ge_b20) hZ (hw _ (List.mem_of_getElem? (i := 4) rfl)) (hw _ (List.mem_of_getElem? (i := 3) rfl)) (by decide) (by decide)) (g := (mkF m 25 #[.val (.long p0), .second, .val (.long p1), .second, .val (.int p2), .val (.int p3), .val (.int p4), .val (.int rr), .val (.ref b20), .unset, .unset] [(.int p2), (.ref b20)])) rfl (by rw [hml]; rfl) (argsL := [(.ref b20), (.int p2)]) (rest := []) (lenOf own_pd1 rfl) rfl (by show 2 * 0 + _ ≤ _; exact Nat.le_of_eq rfl) (hb hby at_25) (fun _ _ => ⟨rfl, e20, (by decide : 1 + 0 ≤ _), (by decide : 2 + 0 ≤ _)⟩)
  dsimp only [Pt.U, Pt.locs, Pt.cells, Pt.slots] at X21 l21 y21 z21 st21 hQ21
  subst l21 y21 z21
  obtain ⟨h21, e21⟩ : ∃ z, T21.heap = z := ⟨_, rfl⟩
  rw [e21] at hQ21
  obtain ⟨hq21, N21q, K21, A21_⟩ := hQ21
  subst hq21
  have N21 := Fr.app N0 N21q
  simp only [Int64.zero_or] at A21_
  have B20_x21 := B20.keep K21
  have Z21 : n0 ≤ h21.size := Nat.le_trans Z20 K21.1
  have Y21 : h0.size ≤ h21.size := Nat.le_trans Y20 K21.1
  refine own_fwd st21 ?_
  show own_R p.tables e below P (T21.setTop (mkF m 28 #[.val (.long p0), .second, .val (.long p1), .second, .val (.int p2), .val (.int p3), .val (.int p4), .val (.int rr), .val (.ref b20), .unset, .unset] []))
  refine own_fwd (fun t k => XS.iconst X21.here hx rfl (hb hby at_28) k) ?_
  show own_R p.tables e below P (T21.setTop (mkF m 29 #[.val (.long p0), .second, .val (.long p1), .second, .val (.int p2), .val (.int p3), .val (.int p4), .val (.int rr), .val (.ref b20), .unset, .unset] [(.int (2 : Int32))]))
  obtain ⟨T22, h22, b22, g22, X22, e22, E22, A22, B22, st22⟩ := own_newA (n := 2) X21 hx hZ (hw _ (List.mem_of_getElem? (i := 0) rfl)) e21 (z := (2 : Int32)) (by decide) (cap := 2) (by decide) (g := (mkF m 29 #[.val (.long p0), .second, .val (.long p1), .second, .val (.int p2), .val (.int p3), .val (.int p4), .val (.int rr), .val (.ref b20), .unset, .unset] [(.int (2 : Int32))])) rfl (hb hby at_29) rfl (by decide) (by decide) (by decide) (ad := "[J") (by decide)
  have ne22_b20 : b20 ≠ b22 := Nat.ne_of_lt (by rw [g22]; exact B20_x21.lt)
  have ge_b22 : n0 ≤ b22 := by rw [g22]; exact Z21
  have sz_b22 : h0.size ≤ b22 := by rw [g22]; exact Y21
  have B20_x22 := B20_x21.ext E22
  have A21__x22 := A21_.ext E22
  have A22_ : own_AJ Z h22 b22 2 (fun _ => (0 : Int64)) := A22
  have Z22 : n0 ≤ h22.size := Nat.le_trans Z21 E22.1
  have Y22 : h0.size ≤ h22.size := Nat.le_trans Y21 E22.1
  refine own_fwd st22 ?_
  show own_R p.tables e below P (T22.setTop (mkF m 31 #[.val (.long p0), .second, .val (.long p1), .second, .val (.int p2), .val (.int p3), .val (.int p4), .val (.int rr), .val (.ref b20), .unset, .unset] [(.ref b22)]))
  refine own_fwd (fun t k => XS.astore X22.here hx rfl (hb hby at_31) rfl rfl (l' := #[.val (.long p0), .second, .val (.long p1), .second, .val (.int p2), .val (.int p3), .val (.int p4), .val (.int rr), .val (.ref b20), .val (.ref b22), .unset]) rfl k) ?_
  show own_R p.tables e below P (T22.setTop (mkF m 33 #[.val (.long p0), .second, .val (.long p1), .second, .val (.int p2), .val (.int p3), .val (.int p4), .val (.int rr), .val (.ref b20), .val (.ref b22), .unset] []))
  refine own_fwd (fun t k => XS.aload X22.here hx rfl (hb hby at_33) rfl rfl k) ?_
  show own_R p.tables e below P (T22.setTop (mkF m 35 #[.val (.long p0), .second, .val (.long p1), .second, .val (.int p2), .val (.int p3), .val (.int p4), .val (.int rr), .val (.ref b20), .val (.ref b22), .unset] [(.ref b22)]))
  refine own_fwd (fun t k => XS.iload X22.here hx rfl (hb hby at_35) rfl k) ?_
  show own_R p.tables e below P (T22.setTop (mkF m 37 #[.val (.long p0), .second, .val (.long p1), .second, .val (.int p2), .val (.int p3), .val (.int p4), .val (.int rr), .val (.ref b20), .val (.ref b22), .unset] [(.int rr), (.ref b22)]))
  obtain ⟨_, _, ⟨T23, L23, k23, n23⟩, -, X23, ⟨Lc23, hQ23, l23, y23, z23⟩, st23⟩ := Jvm.LawKit.callS X22 hx (y := (⟨"com/example/tracefold/tracefold/Conflicts", "mark", "([JI)V"⟩ : MethodName)) hown (mvT hZ (hw _ (List.mem_of_getElem? (i := 1) rfl))) (mvT hZ (hw _ (List.mem_of_getElem? (i := 2) rfl))) (mvT hZ (hw _ (List.mem_of_getElem? (i := 3) rfl))) (mvT hZ (hw _ (List.mem_of_getElem? (i := 4) rfl))) (by decide) (backOf (W := 0) (own_rm1 l Z a0 hw [] b22 rr (0 : Int64) (0 : Int64) h22 n0 Z22 (A22_.cong fun i hi => by match i, hi with
        | 0, _ => rfl
        | 1, _ => rfl) ge_b22) hZ (hw _ (List.mem_of_getElem? (i := 4) rfl)) (hw _ (List.mem_of_getElem? (i := 3) rfl)) (by decide) (by decide)) (g := (mkF m 37 #[.val (.long p0), .second, .val (.long p1), .second, .val (.int p2), .val (.int p3), .val (.int p4), .val (.int rr), .val (.ref b20), .val (.ref b22), .unset] [(.int rr), (.ref b22)])) rfl (by rw [hml]; rfl) (argsL := [(.ref b22), (.int rr)]) (rest := []) (lenOf own_pd1 rfl) rfl (by show 2 * 0 + _ ≤ _; exact Nat.le_of_eq rfl) (hb hby at_37) (fun _ _ => ⟨rfl, e22, (by decide : 2 + 0 ≤ _), (by decide : 4 + 0 ≤ _)⟩)
  dsimp only [Pt.U, Pt.locs, Pt.cells, Pt.slots] at X23 l23 y23 z23 st23 hQ23
  subst l23 y23 z23
  obtain ⟨h23, e23⟩ : ∃ z, T23.heap = z := ⟨_, rfl⟩
  rw [e23] at hQ23
  obtain ⟨hq23, N23q, K23, A23_⟩ := hQ23
  subst hq23
  have N23 := Fr.app N21 N23q
  simp only [Int64.zero_or] at A23_
  have B20_x23 := B20_x22.keep K23
  have A21__x23 := A21__x22.keep K23 (ninS ne22_b20 nin0)
  have B22_x23 := B22.keep K23
  have Z23 : n0 ≤ h23.size := Nat.le_trans Z22 K23.1
  have Y23 : h0.size ≤ h23.size := Nat.le_trans Y22 K23.1
  refine own_fwd st23 ?_
  show own_R p.tables e below P (T23.setTop (mkF m 40 #[.val (.long p0), .second, .val (.long p1), .second, .val (.int p2), .val (.int p3), .val (.int p4), .val (.int rr), .val (.ref b20), .val (.ref b22), .unset] []))
  refine own_fwd (fun t k => XS.aload X23.here hx rfl (hb hby at_40) rfl rfl k) ?_
  show own_R p.tables e below P (T23.setTop (mkF m 42 #[.val (.long p0), .second, .val (.long p1), .second, .val (.int p2), .val (.int p3), .val (.int p4), .val (.int rr), .val (.ref b20), .val (.ref b22), .unset] [(.ref b20)]))
  refine own_fwd (fun t k => XS.iconst X23.here hx rfl (hb hby at_42) k) ?_
  show own_R p.tables e below P (T23.setTop (mkF m 43 #[.val (.long p0), .second, .val (.long p1), .second, .val (.int p2), .val (.int p3), .val (.int p4), .val (.int rr), .val (.ref b20), .val (.ref b22), .unset] [(.int (0 : Int32)), (.ref b20)]))
  refine own_fwd (own_ldJ X23 hx hZ e23 A21__x23 (j := (0 : Int32)) 0 (by decide) (by decide) (g := (mkF m 43 #[.val (.long p0), .second, .val (.long p1), .second, .val (.int p2), .val (.int p3), .val (.int p4), .val (.int rr), .val (.ref b20), .val (.ref b22), .unset] [(.int (0 : Int32)), (.ref b20)])) rfl rfl (hb hby at_43)) ?_
  show own_R p.tables e below P (T23.setTop (mkF m 44 #[.val (.long p0), .second, .val (.long p1), .second, .val (.int p2), .val (.int p3), .val (.int p4), .val (.int rr), .val (.ref b20), .val (.ref b22), .unset] [(.long ((own_two (own_bit p2 (0 : Int32)) (own_bit p2 (1 : Int32))) 0))]))
  have hv24 : ((own_two (own_bit p2 (0 : Int32)) (own_bit p2 (1 : Int32))) 0) = (own_bit p2 (0 : Int32)) := (own_two_0 _ _)
  rw [hv24]
  show own_R p.tables e below P (T23.setTop (mkF m 44 #[.val (.long p0), .second, .val (.long p1), .second, .val (.int p2), .val (.int p3), .val (.int p4), .val (.int rr), .val (.ref b20), .val (.ref b22), .unset] [(.long (own_bit p2 (0 : Int32)))]))
  refine own_fwd (fun t k => XS.aload X23.here hx rfl (hb hby at_44) rfl rfl k) ?_
  show own_R p.tables e below P (T23.setTop (mkF m 46 #[.val (.long p0), .second, .val (.long p1), .second, .val (.int p2), .val (.int p3), .val (.int p4), .val (.int rr), .val (.ref b20), .val (.ref b22), .unset] [(.ref b20), (.long (own_bit p2 (0 : Int32)))]))
  refine own_fwd (fun t k => XS.iconst X23.here hx rfl (hb hby at_46) k) ?_
  show own_R p.tables e below P (T23.setTop (mkF m 47 #[.val (.long p0), .second, .val (.long p1), .second, .val (.int p2), .val (.int p3), .val (.int p4), .val (.int rr), .val (.ref b20), .val (.ref b22), .unset] [(.int (1 : Int32)), (.ref b20), (.long (own_bit p2 (0 : Int32)))]))
  refine own_fwd (own_ldJ X23 hx hZ e23 A21__x23 (j := (1 : Int32)) 1 (by decide) (by decide) (g := (mkF m 47 #[.val (.long p0), .second, .val (.long p1), .second, .val (.int p2), .val (.int p3), .val (.int p4), .val (.int rr), .val (.ref b20), .val (.ref b22), .unset] [(.int (1 : Int32)), (.ref b20), (.long (own_bit p2 (0 : Int32)))])) rfl rfl (hb hby at_47)) ?_
  show own_R p.tables e below P (T23.setTop (mkF m 48 #[.val (.long p0), .second, .val (.long p1), .second, .val (.int p2), .val (.int p3), .val (.int p4), .val (.int rr), .val (.ref b20), .val (.ref b22), .unset] [(.long ((own_two (own_bit p2 (0 : Int32)) (own_bit p2 (1 : Int32))) 1)), (.long (own_bit p2 (0 : Int32)))]))
  have hv25 : ((own_two (own_bit p2 (0 : Int32)) (own_bit p2 (1 : Int32))) 1) = (own_bit p2 (1 : Int32)) := (own_two_1 _ _)
  rw [hv25]
  show own_R p.tables e below P (T23.setTop (mkF m 48 #[.val (.long p0), .second, .val (.long p1), .second, .val (.int p2), .val (.int p3), .val (.int p4), .val (.int rr), .val (.ref b20), .val (.ref b22), .unset] [(.long (own_bit p2 (1 : Int32))), (.long (own_bit p2 (0 : Int32)))]))
  obtain ⟨_, _, ⟨T26, L26, k26, n26⟩, -, X26, ⟨Lc26, hQ26, l26, y26, z26⟩, st26⟩ := Jvm.LawKit.callS X23 hx (y := (⟨"com/example/tracefold/tracefold/ConflictsMarkPinLaw", "singleBit", "(JJ)Z"⟩ : MethodName)) hown (mvT hZ (hw _ (List.mem_of_getElem? (i := 9) rfl))) (mvT hZ (hw _ (List.mem_of_getElem? (i := 10) rfl))) (mvT hZ (hw _ (List.mem_of_getElem? (i := 11) rfl))) (mvT hZ (hw _ (List.mem_of_getElem? (i := 12) rfl))) (by decide) (backOf (W := 0) (own_rm3 l Z a0 hw [] (own_bit p2 (0 : Int32)) (own_bit p2 (1 : Int32)) h23 n0 Z23 (own_single_bit p2)) hZ (hw _ (List.mem_of_getElem? (i := 12) rfl)) (hw _ (List.mem_of_getElem? (i := 11) rfl)) (by decide) (by decide)) (g := (mkF m 48 #[.val (.long p0), .second, .val (.long p1), .second, .val (.int p2), .val (.int p3), .val (.int p4), .val (.int rr), .val (.ref b20), .val (.ref b22), .unset] [(.long (own_bit p2 (1 : Int32))), (.long (own_bit p2 (0 : Int32)))])) rfl (by rw [hml]; rfl) (argsL := [(.long (own_bit p2 (0 : Int32))), (.long (own_bit p2 (1 : Int32)))]) (rest := []) (lenOf own_pd2 rfl) rfl (by show 2 * 0 + _ ≤ _; exact Nat.le_of_eq rfl) (hb hby at_48) (fun _ _ => ⟨rfl, e23, (by decide : 2 + 0 ≤ _), (by decide : 4 + 0 ≤ _)⟩)
  dsimp only [Pt.U, Pt.locs, Pt.cells, Pt.slots] at X26 l26 y26 z26 st26 hQ26
  subst l26 y26 z26
  obtain ⟨h26, e26⟩ : ∃ z, T26.heap = z := ⟨_, rfl⟩
  rw [e26] at hQ26
  obtain ⟨hq26, N26q, q26⟩ := hQ26
  rw [q26] at e26
  subst hq26
  have N26 := Fr.app N23 N26q
  refine own_fwd st26 ?_
  show own_R p.tables e below P (T26.setTop (mkF m 51 #[.val (.long p0), .second, .val (.long p1), .second, .val (.int p2), .val (.int p3), .val (.int p4), .val (.int rr), .val (.ref b20), .val (.ref b22), .unset] [(.int (1 : Int32))]))
  have hc27 : ¬ ((1 : Int32) = (0 : Int32)) := (by decide)
  refine own_fwd (fun t k => XS.ifNo X26.here hx rfl (hb hby at_51) rfl ((if0 _ _).trans (feq hc27).1) k) ?_
  show own_R p.tables e below P (T26.setTop (mkF m 54 #[.val (.long p0), .second, .val (.long p1), .second, .val (.int p2), .val (.int p3), .val (.int p4), .val (.int rr), .val (.ref b20), .val (.ref b22), .unset] []))
  refine own_fwd (fun t k => XS.aload X26.here hx rfl (hb hby at_54) rfl rfl k) ?_
  show own_R p.tables e below P (T26.setTop (mkF m 56 #[.val (.long p0), .second, .val (.long p1), .second, .val (.int p2), .val (.int p3), .val (.int p4), .val (.int rr), .val (.ref b20), .val (.ref b22), .unset] [(.ref b22)]))
  refine own_fwd (fun t k => XS.iconst X26.here hx rfl (hb hby at_56) k) ?_
  show own_R p.tables e below P (T26.setTop (mkF m 57 #[.val (.long p0), .second, .val (.long p1), .second, .val (.int p2), .val (.int p3), .val (.int p4), .val (.int rr), .val (.ref b20), .val (.ref b22), .unset] [(.int (0 : Int32)), (.ref b22)]))
  refine own_fwd (own_ldJ X26 hx hZ e26 A23_ (j := (0 : Int32)) 0 (by decide) (by decide) (g := (mkF m 57 #[.val (.long p0), .second, .val (.long p1), .second, .val (.int p2), .val (.int p3), .val (.int p4), .val (.int rr), .val (.ref b20), .val (.ref b22), .unset] [(.int (0 : Int32)), (.ref b22)])) rfl rfl (hb hby at_57)) ?_
  show own_R p.tables e below P (T26.setTop (mkF m 58 #[.val (.long p0), .second, .val (.long p1), .second, .val (.int p2), .val (.int p3), .val (.int p4), .val (.int rr), .val (.ref b20), .val (.ref b22), .unset] [(.long ((own_two (own_bit rr (0 : Int32)) (own_bit rr (1 : Int32))) 0))]))
  have hv28 : ((own_two (own_bit rr (0 : Int32)) (own_bit rr (1 : Int32))) 0) = (own_bit rr (0 : Int32)) := (own_two_0 _ _)
  rw [hv28]
  show own_R p.tables e below P (T26.setTop (mkF m 58 #[.val (.long p0), .second, .val (.long p1), .second, .val (.int p2), .val (.int p3), .val (.int p4), .val (.int rr), .val (.ref b20), .val (.ref b22), .unset] [(.long (own_bit rr (0 : Int32)))]))
  refine own_fwd (fun t k => XS.aload X26.here hx rfl (hb hby at_58) rfl rfl k) ?_
  show own_R p.tables e below P (T26.setTop (mkF m 60 #[.val (.long p0), .second, .val (.long p1), .second, .val (.int p2), .val (.int p3), .val (.int p4), .val (.int rr), .val (.ref b20), .val (.ref b22), .unset] [(.ref b22), (.long (own_bit rr (0 : Int32)))]))
  refine own_fwd (fun t k => XS.iconst X26.here hx rfl (hb hby at_60) k) ?_
  show own_R p.tables e below P (T26.setTop (mkF m 61 #[.val (.long p0), .second, .val (.long p1), .second, .val (.int p2), .val (.int p3), .val (.int p4), .val (.int rr), .val (.ref b20), .val (.ref b22), .unset] [(.int (1 : Int32)), (.ref b22), (.long (own_bit rr (0 : Int32)))]))
  refine own_fwd (own_ldJ X26 hx hZ e26 A23_ (j := (1 : Int32)) 1 (by decide) (by decide) (g := (mkF m 61 #[.val (.long p0), .second, .val (.long p1), .second, .val (.int p2), .val (.int p3), .val (.int p4), .val (.int rr), .val (.ref b20), .val (.ref b22), .unset] [(.int (1 : Int32)), (.ref b22), (.long (own_bit rr (0 : Int32)))])) rfl rfl (hb hby at_61)) ?_
  show own_R p.tables e below P (T26.setTop (mkF m 62 #[.val (.long p0), .second, .val (.long p1), .second, .val (.int p2), .val (.int p3), .val (.int p4), .val (.int rr), .val (.ref b20), .val (.ref b22), .unset] [(.long ((own_two (own_bit rr (0 : Int32)) (own_bit rr (1 : Int32))) 1)), (.long (own_bit rr (0 : Int32)))]))
  have hv29 : ((own_two (own_bit rr (0 : Int32)) (own_bit rr (1 : Int32))) 1) = (own_bit rr (1 : Int32)) := (own_two_1 _ _)
  rw [hv29]
  show own_R p.tables e below P (T26.setTop (mkF m 62 #[.val (.long p0), .second, .val (.long p1), .second, .val (.int p2), .val (.int p3), .val (.int p4), .val (.int rr), .val (.ref b20), .val (.ref b22), .unset] [(.long (own_bit rr (1 : Int32))), (.long (own_bit rr (0 : Int32)))]))
  obtain ⟨_, _, ⟨T30, L30, k30, n30⟩, -, X30, ⟨Lc30, hQ30, l30, y30, z30⟩, st30⟩ := Jvm.LawKit.callS X26 hx (y := (⟨"com/example/tracefold/tracefold/ConflictsMarkPinLaw", "singleBit", "(JJ)Z"⟩ : MethodName)) hown (mvT hZ (hw _ (List.mem_of_getElem? (i := 9) rfl))) (mvT hZ (hw _ (List.mem_of_getElem? (i := 10) rfl))) (mvT hZ (hw _ (List.mem_of_getElem? (i := 11) rfl))) (mvT hZ (hw _ (List.mem_of_getElem? (i := 12) rfl))) (by decide) (backOf (W := 0) (own_rm3 l Z a0 hw [] (own_bit rr (0 : Int32)) (own_bit rr (1 : Int32)) h23 n0 Z23 (own_single_bit rr)) hZ (hw _ (List.mem_of_getElem? (i := 12) rfl)) (hw _ (List.mem_of_getElem? (i := 11) rfl)) (by decide) (by decide)) (g := (mkF m 62 #[.val (.long p0), .second, .val (.long p1), .second, .val (.int p2), .val (.int p3), .val (.int p4), .val (.int rr), .val (.ref b20), .val (.ref b22), .unset] [(.long (own_bit rr (1 : Int32))), (.long (own_bit rr (0 : Int32)))])) rfl (by rw [hml]; rfl) (argsL := [(.long (own_bit rr (0 : Int32))), (.long (own_bit rr (1 : Int32)))]) (rest := []) (lenOf own_pd2 rfl) rfl (by show 2 * 0 + _ ≤ _; exact Nat.le_of_eq rfl) (hb hby at_62) (fun _ _ => ⟨rfl, e26, (by decide : 2 + 0 ≤ _), (by decide : 4 + 0 ≤ _)⟩)
  dsimp only [Pt.U, Pt.locs, Pt.cells, Pt.slots] at X30 l30 y30 z30 st30 hQ30
  subst l30 y30 z30
  obtain ⟨h30, e30⟩ : ∃ z, T30.heap = z := ⟨_, rfl⟩
  rw [e30] at hQ30
  obtain ⟨hq30, N30q, q30⟩ := hQ30
  rw [q30] at e30
  subst hq30
  have N30 := Fr.app N26 N30q
  refine own_fwd st30 ?_
  show own_R p.tables e below P (T30.setTop (mkF m 65 #[.val (.long p0), .second, .val (.long p1), .second, .val (.int p2), .val (.int p3), .val (.int p4), .val (.int rr), .val (.ref b20), .val (.ref b22), .unset] [(.int (1 : Int32))]))
  have hc31 : ¬ ((1 : Int32) = (0 : Int32)) := (by decide)
  refine own_fwd (fun t k => XS.ifYes X30.here hx rfl (pc0 := 65) (pc' := 70) rfl (hb hby at_65) rfl ((if0 _ _).trans (feq hc31).2) (by decide) (by decide) k) ?_
  show own_R p.tables e below P (T30.setTop (mkF m 70 #[.val (.long p0), .second, .val (.long p1), .second, .val (.int p2), .val (.int p3), .val (.int p4), .val (.int rr), .val (.ref b20), .val (.ref b22), .unset] []))
  refine own_fwd (fun t k => XS.iload X30.here hx rfl (hb hby at_70) rfl k) ?_
  show own_R p.tables e below P (T30.setTop (mkF m 72 #[.val (.long p0), .second, .val (.long p1), .second, .val (.int p2), .val (.int p3), .val (.int p4), .val (.int rr), .val (.ref b20), .val (.ref b22), .unset] [(.int rr)]))
  refine own_fwd (fun t k => XS.iload X30.here hx rfl (hb hby at_72) rfl k) ?_
  show own_R p.tables e below P (T30.setTop (mkF m 74 #[.val (.long p0), .second, .val (.long p1), .second, .val (.int p2), .val (.int p3), .val (.int p4), .val (.int rr), .val (.ref b20), .val (.ref b22), .unset] [(.int p2), (.int rr)]))
  by_cases hc32 : rr = p2
  · refine own_fwd (fun t k => XS.icmpNo X30.here hx rfl (hb hby at_74) rfl (teq hc32).2 k) ?_
    show own_R p.tables e below P (T30.setTop (mkF m 77 #[.val (.long p0), .second, .val (.long p1), .second, .val (.int p2), .val (.int p3), .val (.int p4), .val (.int rr), .val (.ref b20), .val (.ref b22), .unset] []))
    refine own_fwd (fun t k => XS.aload X30.here hx rfl (hb hby at_77) rfl rfl k) ?_
    show own_R p.tables e below P (T30.setTop (mkF m 79 #[.val (.long p0), .second, .val (.long p1), .second, .val (.int p2), .val (.int p3), .val (.int p4), .val (.int rr), .val (.ref b20), .val (.ref b22), .unset] [(.ref b20)]))
    refine own_fwd (fun t k => XS.iconst X30.here hx rfl (hb hby at_79) k) ?_
    show own_R p.tables e below P (T30.setTop (mkF m 80 #[.val (.long p0), .second, .val (.long p1), .second, .val (.int p2), .val (.int p3), .val (.int p4), .val (.int rr), .val (.ref b20), .val (.ref b22), .unset] [(.int (0 : Int32)), (.ref b20)]))
    refine own_fwd (own_ldJ X30 hx hZ e30 A21__x23 (j := (0 : Int32)) 0 (by decide) (by decide) (g := (mkF m 80 #[.val (.long p0), .second, .val (.long p1), .second, .val (.int p2), .val (.int p3), .val (.int p4), .val (.int rr), .val (.ref b20), .val (.ref b22), .unset] [(.int (0 : Int32)), (.ref b20)])) rfl rfl (hb hby at_80)) ?_
    show own_R p.tables e below P (T30.setTop (mkF m 81 #[.val (.long p0), .second, .val (.long p1), .second, .val (.int p2), .val (.int p3), .val (.int p4), .val (.int rr), .val (.ref b20), .val (.ref b22), .unset] [(.long ((own_two (own_bit p2 (0 : Int32)) (own_bit p2 (1 : Int32))) 0))]))
    have hv33 : ((own_two (own_bit p2 (0 : Int32)) (own_bit p2 (1 : Int32))) 0) = (own_bit p2 (0 : Int32)) := (own_two_0 _ _)
    rw [hv33]
    show own_R p.tables e below P (T30.setTop (mkF m 81 #[.val (.long p0), .second, .val (.long p1), .second, .val (.int p2), .val (.int p3), .val (.int p4), .val (.int rr), .val (.ref b20), .val (.ref b22), .unset] [(.long (own_bit p2 (0 : Int32)))]))
    refine own_fwd (fun t k => XS.aload X30.here hx rfl (hb hby at_81) rfl rfl k) ?_
    show own_R p.tables e below P (T30.setTop (mkF m 83 #[.val (.long p0), .second, .val (.long p1), .second, .val (.int p2), .val (.int p3), .val (.int p4), .val (.int rr), .val (.ref b20), .val (.ref b22), .unset] [(.ref b22), (.long (own_bit p2 (0 : Int32)))]))
    refine own_fwd (fun t k => XS.iconst X30.here hx rfl (hb hby at_83) k) ?_
    show own_R p.tables e below P (T30.setTop (mkF m 84 #[.val (.long p0), .second, .val (.long p1), .second, .val (.int p2), .val (.int p3), .val (.int p4), .val (.int rr), .val (.ref b20), .val (.ref b22), .unset] [(.int (0 : Int32)), (.ref b22), (.long (own_bit p2 (0 : Int32)))]))
    refine own_fwd (own_ldJ X30 hx hZ e30 A23_ (j := (0 : Int32)) 0 (by decide) (by decide) (g := (mkF m 84 #[.val (.long p0), .second, .val (.long p1), .second, .val (.int p2), .val (.int p3), .val (.int p4), .val (.int rr), .val (.ref b20), .val (.ref b22), .unset] [(.int (0 : Int32)), (.ref b22), (.long (own_bit p2 (0 : Int32)))])) rfl rfl (hb hby at_84)) ?_
    show own_R p.tables e below P (T30.setTop (mkF m 85 #[.val (.long p0), .second, .val (.long p1), .second, .val (.int p2), .val (.int p3), .val (.int p4), .val (.int rr), .val (.ref b20), .val (.ref b22), .unset] [(.long ((own_two (own_bit rr (0 : Int32)) (own_bit rr (1 : Int32))) 0)), (.long (own_bit p2 (0 : Int32)))]))
    have hv34 : ((own_two (own_bit rr (0 : Int32)) (own_bit rr (1 : Int32))) 0) = (own_bit rr (0 : Int32)) := (own_two_0 _ _)
    rw [hv34]
    show own_R p.tables e below P (T30.setTop (mkF m 85 #[.val (.long p0), .second, .val (.long p1), .second, .val (.int p2), .val (.int p3), .val (.int p4), .val (.int rr), .val (.ref b20), .val (.ref b22), .unset] [(.long (own_bit rr (0 : Int32))), (.long (own_bit p2 (0 : Int32)))]))
    refine own_fwd (fun t k => XS.lcmp X30.here hx rfl (hb hby at_85) rfl k) ?_
    show own_R p.tables e below P (T30.setTop (mkF m 86 #[.val (.long p0), .second, .val (.long p1), .second, .val (.int p2), .val (.int p3), .val (.int p4), .val (.int rr), .val (.ref b20), .val (.ref b22), .unset] [(.int (lcmpW (own_bit p2 (0 : Int32)) (own_bit rr (0 : Int32))))]))
    have hc35 : (lcmpW (own_bit p2 (0 : Int32)) (own_bit rr (0 : Int32))) = (0 : Int32) := (lw_eq _ _).mpr (by rw [hc32])
    refine own_fwd (fun t k => XS.ifNo X30.here hx rfl (hb hby at_86) rfl ((if0 _ _).trans (teq hc35).2) k) ?_
    show own_R p.tables e below P (T30.setTop (mkF m 89 #[.val (.long p0), .second, .val (.long p1), .second, .val (.int p2), .val (.int p3), .val (.int p4), .val (.int rr), .val (.ref b20), .val (.ref b22), .unset] []))
    refine own_fwd (fun t k => XS.aload X30.here hx rfl (hb hby at_89) rfl rfl k) ?_
    show own_R p.tables e below P (T30.setTop (mkF m 91 #[.val (.long p0), .second, .val (.long p1), .second, .val (.int p2), .val (.int p3), .val (.int p4), .val (.int rr), .val (.ref b20), .val (.ref b22), .unset] [(.ref b20)]))
    refine own_fwd (fun t k => XS.iconst X30.here hx rfl (hb hby at_91) k) ?_
    show own_R p.tables e below P (T30.setTop (mkF m 92 #[.val (.long p0), .second, .val (.long p1), .second, .val (.int p2), .val (.int p3), .val (.int p4), .val (.int rr), .val (.ref b20), .val (.ref b22), .unset] [(.int (1 : Int32)), (.ref b20)]))
    refine own_fwd (own_ldJ X30 hx hZ e30 A21__x23 (j := (1 : Int32)) 1 (by decide) (by decide) (g := (mkF m 92 #[.val (.long p0), .second, .val (.long p1), .second, .val (.int p2), .val (.int p3), .val (.int p4), .val (.int rr), .val (.ref b20), .val (.ref b22), .unset] [(.int (1 : Int32)), (.ref b20)])) rfl rfl (hb hby at_92)) ?_
    show own_R p.tables e below P (T30.setTop (mkF m 93 #[.val (.long p0), .second, .val (.long p1), .second, .val (.int p2), .val (.int p3), .val (.int p4), .val (.int rr), .val (.ref b20), .val (.ref b22), .unset] [(.long ((own_two (own_bit p2 (0 : Int32)) (own_bit p2 (1 : Int32))) 1))]))
    have hv36 : ((own_two (own_bit p2 (0 : Int32)) (own_bit p2 (1 : Int32))) 1) = (own_bit p2 (1 : Int32)) := (own_two_1 _ _)
    rw [hv36]
    show own_R p.tables e below P (T30.setTop (mkF m 93 #[.val (.long p0), .second, .val (.long p1), .second, .val (.int p2), .val (.int p3), .val (.int p4), .val (.int rr), .val (.ref b20), .val (.ref b22), .unset] [(.long (own_bit p2 (1 : Int32)))]))
    refine own_fwd (fun t k => XS.aload X30.here hx rfl (hb hby at_93) rfl rfl k) ?_
    show own_R p.tables e below P (T30.setTop (mkF m 95 #[.val (.long p0), .second, .val (.long p1), .second, .val (.int p2), .val (.int p3), .val (.int p4), .val (.int rr), .val (.ref b20), .val (.ref b22), .unset] [(.ref b22), (.long (own_bit p2 (1 : Int32)))]))
    refine own_fwd (fun t k => XS.iconst X30.here hx rfl (hb hby at_95) k) ?_
    show own_R p.tables e below P (T30.setTop (mkF m 96 #[.val (.long p0), .second, .val (.long p1), .second, .val (.int p2), .val (.int p3), .val (.int p4), .val (.int rr), .val (.ref b20), .val (.ref b22), .unset] [(.int (1 : Int32)), (.ref b22), (.long (own_bit p2 (1 : Int32)))]))
    refine own_fwd (own_ldJ X30 hx hZ e30 A23_ (j := (1 : Int32)) 1 (by decide) (by decide) (g := (mkF m 96 #[.val (.long p0), .second, .val (.long p1), .second, .val (.int p2), .val (.int p3), .val (.int p4), .val (.int rr), .val (.ref b20), .val (.ref b22), .unset] [(.int (1 : Int32)), (.ref b22), (.long (own_bit p2 (1 : Int32)))])) rfl rfl (hb hby at_96)) ?_
    show own_R p.tables e below P (T30.setTop (mkF m 97 #[.val (.long p0), .second, .val (.long p1), .second, .val (.int p2), .val (.int p3), .val (.int p4), .val (.int rr), .val (.ref b20), .val (.ref b22), .unset] [(.long ((own_two (own_bit rr (0 : Int32)) (own_bit rr (1 : Int32))) 1)), (.long (own_bit p2 (1 : Int32)))]))
    have hv37 : ((own_two (own_bit rr (0 : Int32)) (own_bit rr (1 : Int32))) 1) = (own_bit rr (1 : Int32)) := (own_two_1 _ _)
    rw [hv37]
    show own_R p.tables e below P (T30.setTop (mkF m 97 #[.val (.long p0), .second, .val (.long p1), .second, .val (.int p2), .val (.int p3), .val (.int p4), .val (.int rr), .val (.ref b20), .val (.ref b22), .unset] [(.long (own_bit rr (1 : Int32))), (.long (own_bit p2 (1 : Int32)))]))
    refine own_fwd (fun t k => XS.lcmp X30.here hx rfl (hb hby at_97) rfl k) ?_
    show own_R p.tables e below P (T30.setTop (mkF m 98 #[.val (.long p0), .second, .val (.long p1), .second, .val (.int p2), .val (.int p3), .val (.int p4), .val (.int rr), .val (.ref b20), .val (.ref b22), .unset] [(.int (lcmpW (own_bit p2 (1 : Int32)) (own_bit rr (1 : Int32))))]))
    have hc38 : (lcmpW (own_bit p2 (1 : Int32)) (own_bit rr (1 : Int32))) = (0 : Int32) := (lw_eq _ _).mpr (by rw [hc32])
    refine own_fwd (fun t k => XS.ifYes X30.here hx rfl (pc0 := 98) (pc' := 103) rfl (hb hby at_98) rfl ((if0 _ _).trans (teq hc38).1) (by decide) (by decide) k) ?_
    show own_R p.tables e below P (T30.setTop (mkF m 103 #[.val (.long p0), .second, .val (.long p1), .second, .val (.int p2), .val (.int p3), .val (.int p4), .val (.int rr), .val (.ref b20), .val (.ref b22), .unset] []))
    refine own_fwd (fun t k => XS.iconst X30.here hx rfl (hb hby at_103) k) ?_
    show own_R p.tables e below P (T30.setTop (mkF m 104 #[.val (.long p0), .second, .val (.long p1), .second, .val (.int p2), .val (.int p3), .val (.int p4), .val (.int rr), .val (.ref b20), .val (.ref b22), .unset] [(.int (2 : Int32))]))
    obtain ⟨T39, h39, b39, g39, X39, e39, E39, A39, B39, st39⟩ := own_newA (n := 2) X30 hx hZ (hw _ (List.mem_of_getElem? (i := 0) rfl)) e30 (z := (2 : Int32)) (by decide) (cap := 2) (by decide) (g := (mkF m 104 #[.val (.long p0), .second, .val (.long p1), .second, .val (.int p2), .val (.int p3), .val (.int p4), .val (.int rr), .val (.ref b20), .val (.ref b22), .unset] [(.int (2 : Int32))])) rfl (hb hby at_104) rfl (by decide) (by decide) (by decide) (ad := "[J") (by decide)
    have ne39_b20 : b20 ≠ b39 := Nat.ne_of_lt (by rw [g39]; exact B20_x23.lt)
    have ne39_b22 : b22 ≠ b39 := Nat.ne_of_lt (by rw [g39]; exact B22_x23.lt)
    have ge_b39 : n0 ≤ b39 := by rw [g39]; exact Z23
    have sz_b39 : h0.size ≤ b39 := by rw [g39]; exact Y23
    have B20_x39 := B20_x23.ext E39
    have A21__x39 := A21__x23.ext E39
    have B22_x39 := B22_x23.ext E39
    have A23__x39 := A23_.ext E39
    have A39_ : own_AJ Z h39 b39 2 (fun _ => (0 : Int64)) := A39
    have Z39 : n0 ≤ h39.size := Nat.le_trans Z23 E39.1
    have Y39 : h0.size ≤ h39.size := Nat.le_trans Y23 E39.1
    refine own_fwd st39 ?_
    show own_R p.tables e below P (T39.setTop (mkF m 106 #[.val (.long p0), .second, .val (.long p1), .second, .val (.int p2), .val (.int p3), .val (.int p4), .val (.int rr), .val (.ref b20), .val (.ref b22), .unset] [(.ref b39)]))
    refine own_fwd (fun t k => XS.astore X39.here hx rfl (hb hby at_106) rfl rfl (l' := #[.val (.long p0), .second, .val (.long p1), .second, .val (.int p2), .val (.int p3), .val (.int p4), .val (.int rr), .val (.ref b20), .val (.ref b22), .val (.ref b39)]) rfl k) ?_
    show own_R p.tables e below P (T39.setTop (mkF m 108 #[.val (.long p0), .second, .val (.long p1), .second, .val (.int p2), .val (.int p3), .val (.int p4), .val (.int rr), .val (.ref b20), .val (.ref b22), .val (.ref b39)] []))
    refine own_fwd (fun t k => XS.aload X39.here hx rfl (hb hby at_108) rfl rfl k) ?_
    show own_R p.tables e below P (T39.setTop (mkF m 110 #[.val (.long p0), .second, .val (.long p1), .second, .val (.int p2), .val (.int p3), .val (.int p4), .val (.int rr), .val (.ref b20), .val (.ref b22), .val (.ref b39)] [(.ref b39)]))
    refine own_fwd (fun t k => XS.iconst X39.here hx rfl (hb hby at_110) k) ?_
    show own_R p.tables e below P (T39.setTop (mkF m 111 #[.val (.long p0), .second, .val (.long p1), .second, .val (.int p2), .val (.int p3), .val (.int p4), .val (.int rr), .val (.ref b20), .val (.ref b22), .val (.ref b39)] [(.int (0 : Int32)), (.ref b39)]))
    refine own_fwd (fun t k => XS.lloadN X39.here hx rfl (hb hby at_111) rfl k) ?_
    show own_R p.tables e below P (T39.setTop (mkF m 112 #[.val (.long p0), .second, .val (.long p1), .second, .val (.int p2), .val (.int p3), .val (.int p4), .val (.int rr), .val (.ref b20), .val (.ref b22), .val (.ref b39)] [(.long p0), (.int (0 : Int32)), (.ref b39)]))
    obtain ⟨T40, h40, X40, e40, W40, A40_, st40⟩ := own_stJ X39 hx hZ e39 A39_ (j := (0 : Int32)) 0 (by decide) (by decide) (g := (mkF m 112 #[.val (.long p0), .second, .val (.long p1), .second, .val (.int p2), .val (.int p3), .val (.int p4), .val (.int rr), .val (.ref b20), .val (.ref b22), .val (.ref b39)] [(.long p0), (.int (0 : Int32)), (.ref b39)])) rfl rfl (hb hby at_112)
    have B20_x40 := B20_x39.wr W40
    have A21__x40 := A21__x39.other W40 ne39_b20
    have B22_x40 := B22_x39.wr W40
    have A23__x40 := A23__x39.other W40 ne39_b22
    have B39_x40 := B39.wr W40
    have N40 := Fr.snoc X40 N30 ge_b39
    have Z40 : n0 ≤ h40.size := by rw [W40.size]; exact Z39
    have Y40 : h0.size ≤ h40.size := by rw [W40.size]; exact Y39
    refine own_fwd st40 ?_
    show own_R p.tables e below P (T40.setTop (mkF m 113 #[.val (.long p0), .second, .val (.long p1), .second, .val (.int p2), .val (.int p3), .val (.int p4), .val (.int rr), .val (.ref b20), .val (.ref b22), .val (.ref b39)] []))
    refine own_fwd (fun t k => XS.aload X40.here hx rfl (hb hby at_113) rfl rfl k) ?_
    show own_R p.tables e below P (T40.setTop (mkF m 115 #[.val (.long p0), .second, .val (.long p1), .second, .val (.int p2), .val (.int p3), .val (.int p4), .val (.int rr), .val (.ref b20), .val (.ref b22), .val (.ref b39)] [(.ref b39)]))
    refine own_fwd (fun t k => XS.iconst X40.here hx rfl (hb hby at_115) k) ?_
    show own_R p.tables e below P (T40.setTop (mkF m 116 #[.val (.long p0), .second, .val (.long p1), .second, .val (.int p2), .val (.int p3), .val (.int p4), .val (.int rr), .val (.ref b20), .val (.ref b22), .val (.ref b39)] [(.int (1 : Int32)), (.ref b39)]))
    refine own_fwd (fun t k => XS.lloadN X40.here hx rfl (hb hby at_116) rfl k) ?_
    show own_R p.tables e below P (T40.setTop (mkF m 117 #[.val (.long p0), .second, .val (.long p1), .second, .val (.int p2), .val (.int p3), .val (.int p4), .val (.int rr), .val (.ref b20), .val (.ref b22), .val (.ref b39)] [(.long p1), (.int (1 : Int32)), (.ref b39)]))
    obtain ⟨T41, h41, X41, e41, W41, A41_, st41⟩ := own_stJ X40 hx hZ e40 A40_ (j := (1 : Int32)) 1 (by decide) (by decide) (g := (mkF m 117 #[.val (.long p0), .second, .val (.long p1), .second, .val (.int p2), .val (.int p3), .val (.int p4), .val (.int rr), .val (.ref b20), .val (.ref b22), .val (.ref b39)] [(.long p1), (.int (1 : Int32)), (.ref b39)])) rfl rfl (hb hby at_117)
    have B20_x41 := B20_x40.wr W41
    have A21__x41 := A21__x40.other W41 ne39_b20
    have B22_x41 := B22_x40.wr W41
    have A23__x41 := A23__x40.other W41 ne39_b22
    have B39_x41 := B39_x40.wr W41
    have N41 := Fr.snoc X41 N40 ge_b39
    have Z41 : n0 ≤ h41.size := by rw [W41.size]; exact Z40
    have Y41 : h0.size ≤ h41.size := by rw [W41.size]; exact Y40
    refine own_fwd st41 ?_
    show own_R p.tables e below P (T41.setTop (mkF m 118 #[.val (.long p0), .second, .val (.long p1), .second, .val (.int p2), .val (.int p3), .val (.int p4), .val (.int rr), .val (.ref b20), .val (.ref b22), .val (.ref b39)] []))
    refine own_fwd (fun t k => XS.aload X41.here hx rfl (hb hby at_118) rfl rfl k) ?_
    show own_R p.tables e below P (T41.setTop (mkF m 120 #[.val (.long p0), .second, .val (.long p1), .second, .val (.int p2), .val (.int p3), .val (.int p4), .val (.int rr), .val (.ref b20), .val (.ref b22), .val (.ref b39)] [(.ref b39)]))
    refine own_fwd (fun t k => XS.iload X41.here hx rfl (hb hby at_120) rfl k) ?_
    show own_R p.tables e below P (T41.setTop (mkF m 122 #[.val (.long p0), .second, .val (.long p1), .second, .val (.int p2), .val (.int p3), .val (.int p4), .val (.int rr), .val (.ref b20), .val (.ref b22), .val (.ref b39)] [(.int p2), (.ref b39)]))
    obtain ⟨_, _, ⟨T42, L42, k42, n42⟩, -, X42, ⟨Lc42, hQ42, l42, y42, z42⟩, st42⟩ := Jvm.LawKit.callS X41 hx (y := (⟨"com/example/tracefold/tracefold/Conflicts", "mark", "([JI)V"⟩ : MethodName)) hown (mvT hZ (hw _ (List.mem_of_getElem? (i := 1) rfl))) (mvT hZ (hw _ (List.mem_of_getElem? (i := 2) rfl))) (mvT hZ (hw _ (List.mem_of_getElem? (i := 3) rfl))) (mvT hZ (hw _ (List.mem_of_getElem? (i := 4) rfl))) (by decide) (backOf (W := 0) (own_rm1 l Z a0 hw [] b39 p2 p0 p1 h41 n0 Z41 (A41_.cong fun i hi => by match i, hi with
          | 0, _ => rfl
          | 1, _ => rfl) ge_b39) hZ (hw _ (List.mem_of_getElem? (i := 4) rfl)) (hw _ (List.mem_of_getElem? (i := 3) rfl)) (by decide) (by decide)) (g := (mkF m 122 #[.val (.long p0), .second, .val (.long p1), .second, .val (.int p2), .val (.int p3), .val (.int p4), .val (.int rr), .val (.ref b20), .val (.ref b22), .val (.ref b39)] [(.int p2), (.ref b39)])) rfl (by rw [hml]; rfl) (argsL := [(.ref b39), (.int p2)]) (rest := []) (lenOf own_pd1 rfl) rfl (by show 2 * 0 + _ ≤ _; exact Nat.le_of_eq rfl) (hb hby at_122) (fun _ _ => ⟨rfl, e41, (by decide : 3 + 0 ≤ _), (by decide : 6 + 0 ≤ _)⟩)
    dsimp only [Pt.U, Pt.locs, Pt.cells, Pt.slots] at X42 l42 y42 z42 st42 hQ42
    subst l42 y42 z42
    obtain ⟨h42, e42⟩ : ∃ z, T42.heap = z := ⟨_, rfl⟩
    rw [e42] at hQ42
    obtain ⟨hq42, N42q, K42, A42_⟩ := hQ42
    subst hq42
    have N42 := Fr.app N41 N42q
    have B20_x42 := B20_x41.keep K42
    have A21__x42 := A21__x41.keep K42 (ninS ne39_b20 nin0)
    have B22_x42 := B22_x41.keep K42
    have A23__x42 := A23__x41.keep K42 (ninS ne39_b22 nin0)
    have B39_x42 := B39_x41.keep K42
    have Z42 : n0 ≤ h42.size := Nat.le_trans Z41 K42.1
    have Y42 : h0.size ≤ h42.size := Nat.le_trans Y41 K42.1
    refine own_fwd st42 ?_
    show own_R p.tables e below P (T42.setTop (mkF m 125 #[.val (.long p0), .second, .val (.long p1), .second, .val (.int p2), .val (.int p3), .val (.int p4), .val (.int rr), .val (.ref b20), .val (.ref b22), .val (.ref b39)] []))
    refine own_fwd (fun t k => XS.aload X42.here hx rfl (hb hby at_125) rfl rfl k) ?_
    show own_R p.tables e below P (T42.setTop (mkF m 127 #[.val (.long p0), .second, .val (.long p1), .second, .val (.int p2), .val (.int p3), .val (.int p4), .val (.int rr), .val (.ref b20), .val (.ref b22), .val (.ref b39)] [(.ref b39)]))
    refine own_fwd (fun t k => XS.iconst X42.here hx rfl (hb hby at_127) k) ?_
    show own_R p.tables e below P (T42.setTop (mkF m 128 #[.val (.long p0), .second, .val (.long p1), .second, .val (.int p2), .val (.int p3), .val (.int p4), .val (.int rr), .val (.ref b20), .val (.ref b22), .val (.ref b39)] [(.int (0 : Int32)), (.ref b39)]))
    refine own_fwd (own_ldJ X42 hx hZ e42 A42_ (j := (0 : Int32)) 0 (by decide) (by decide) (g := (mkF m 128 #[.val (.long p0), .second, .val (.long p1), .second, .val (.int p2), .val (.int p3), .val (.int p4), .val (.int rr), .val (.ref b20), .val (.ref b22), .val (.ref b39)] [(.int (0 : Int32)), (.ref b39)])) rfl rfl (hb hby at_128)) ?_
    show own_R p.tables e below P (T42.setTop (mkF m 129 #[.val (.long p0), .second, .val (.long p1), .second, .val (.int p2), .val (.int p3), .val (.int p4), .val (.int rr), .val (.ref b20), .val (.ref b22), .val (.ref b39)] [(.long ((own_two (p0 ||| own_bit p2 (0 : Int32)) (p1 ||| own_bit p2 (1 : Int32))) 0))]))
    have hv43 : ((own_two (p0 ||| own_bit p2 (0 : Int32)) (p1 ||| own_bit p2 (1 : Int32))) 0) = (p0 ||| own_bit p2 (0 : Int32)) := (own_two_0 _ _)
    rw [hv43]
    show own_R p.tables e below P (T42.setTop (mkF m 129 #[.val (.long p0), .second, .val (.long p1), .second, .val (.int p2), .val (.int p3), .val (.int p4), .val (.int rr), .val (.ref b20), .val (.ref b22), .val (.ref b39)] [(.long (p0 ||| own_bit p2 (0 : Int32)))]))
    refine own_fwd (fun t k => XS.lloadN X42.here hx rfl (hb hby at_129) rfl k) ?_
    show own_R p.tables e below P (T42.setTop (mkF m 130 #[.val (.long p0), .second, .val (.long p1), .second, .val (.int p2), .val (.int p3), .val (.int p4), .val (.int rr), .val (.ref b20), .val (.ref b22), .val (.ref b39)] [(.long p0), (.long (p0 ||| own_bit p2 (0 : Int32)))]))
    refine own_fwd (fun t k => XS.aload X42.here hx rfl (hb hby at_130) rfl rfl k) ?_
    show own_R p.tables e below P (T42.setTop (mkF m 132 #[.val (.long p0), .second, .val (.long p1), .second, .val (.int p2), .val (.int p3), .val (.int p4), .val (.int rr), .val (.ref b20), .val (.ref b22), .val (.ref b39)] [(.ref b20), (.long p0), (.long (p0 ||| own_bit p2 (0 : Int32)))]))
    refine own_fwd (fun t k => XS.iconst X42.here hx rfl (hb hby at_132) k) ?_
    show own_R p.tables e below P (T42.setTop (mkF m 133 #[.val (.long p0), .second, .val (.long p1), .second, .val (.int p2), .val (.int p3), .val (.int p4), .val (.int rr), .val (.ref b20), .val (.ref b22), .val (.ref b39)] [(.int (0 : Int32)), (.ref b20), (.long p0), (.long (p0 ||| own_bit p2 (0 : Int32)))]))
    refine own_fwd (own_ldJ X42 hx hZ e42 A21__x42 (j := (0 : Int32)) 0 (by decide) (by decide) (g := (mkF m 133 #[.val (.long p0), .second, .val (.long p1), .second, .val (.int p2), .val (.int p3), .val (.int p4), .val (.int rr), .val (.ref b20), .val (.ref b22), .val (.ref b39)] [(.int (0 : Int32)), (.ref b20), (.long p0), (.long (p0 ||| own_bit p2 (0 : Int32)))])) rfl rfl (hb hby at_133)) ?_
    show own_R p.tables e below P (T42.setTop (mkF m 134 #[.val (.long p0), .second, .val (.long p1), .second, .val (.int p2), .val (.int p3), .val (.int p4), .val (.int rr), .val (.ref b20), .val (.ref b22), .val (.ref b39)] [(.long ((own_two (own_bit p2 (0 : Int32)) (own_bit p2 (1 : Int32))) 0)), (.long p0), (.long (p0 ||| own_bit p2 (0 : Int32)))]))
    have hv44 : ((own_two (own_bit p2 (0 : Int32)) (own_bit p2 (1 : Int32))) 0) = (own_bit p2 (0 : Int32)) := (own_two_0 _ _)
    rw [hv44]
    show own_R p.tables e below P (T42.setTop (mkF m 134 #[.val (.long p0), .second, .val (.long p1), .second, .val (.int p2), .val (.int p3), .val (.int p4), .val (.int rr), .val (.ref b20), .val (.ref b22), .val (.ref b39)] [(.long (own_bit p2 (0 : Int32))), (.long p0), (.long (p0 ||| own_bit p2 (0 : Int32)))]))
    refine own_fwd (fun t k => XS.lor X42.here hx rfl (hb hby at_134) rfl k) ?_
    show own_R p.tables e below P (T42.setTop (mkF m 135 #[.val (.long p0), .second, .val (.long p1), .second, .val (.int p2), .val (.int p3), .val (.int p4), .val (.int rr), .val (.ref b20), .val (.ref b22), .val (.ref b39)] [(.long (p0 ||| (own_bit p2 (0 : Int32)))), (.long (p0 ||| own_bit p2 (0 : Int32)))]))
    refine own_fwd (fun t k => XS.lcmp X42.here hx rfl (hb hby at_135) rfl k) ?_
    show own_R p.tables e below P (T42.setTop (mkF m 136 #[.val (.long p0), .second, .val (.long p1), .second, .val (.int p2), .val (.int p3), .val (.int p4), .val (.int rr), .val (.ref b20), .val (.ref b22), .val (.ref b39)] [(.int (lcmpW (p0 ||| own_bit p2 (0 : Int32)) (p0 ||| (own_bit p2 (0 : Int32)))))]))
    have hc45 : (lcmpW (p0 ||| own_bit p2 (0 : Int32)) (p0 ||| (own_bit p2 (0 : Int32)))) = (0 : Int32) := (lw_eq _ _).mpr rfl
    refine own_fwd (fun t k => XS.ifNo X42.here hx rfl (hb hby at_136) rfl ((if0 _ _).trans (teq hc45).2) k) ?_
    show own_R p.tables e below P (T42.setTop (mkF m 139 #[.val (.long p0), .second, .val (.long p1), .second, .val (.int p2), .val (.int p3), .val (.int p4), .val (.int rr), .val (.ref b20), .val (.ref b22), .val (.ref b39)] []))
    refine own_fwd (fun t k => XS.aload X42.here hx rfl (hb hby at_139) rfl rfl k) ?_
    show own_R p.tables e below P (T42.setTop (mkF m 141 #[.val (.long p0), .second, .val (.long p1), .second, .val (.int p2), .val (.int p3), .val (.int p4), .val (.int rr), .val (.ref b20), .val (.ref b22), .val (.ref b39)] [(.ref b39)]))
    refine own_fwd (fun t k => XS.iconst X42.here hx rfl (hb hby at_141) k) ?_
    show own_R p.tables e below P (T42.setTop (mkF m 142 #[.val (.long p0), .second, .val (.long p1), .second, .val (.int p2), .val (.int p3), .val (.int p4), .val (.int rr), .val (.ref b20), .val (.ref b22), .val (.ref b39)] [(.int (1 : Int32)), (.ref b39)]))
    refine own_fwd (own_ldJ X42 hx hZ e42 A42_ (j := (1 : Int32)) 1 (by decide) (by decide) (g := (mkF m 142 #[.val (.long p0), .second, .val (.long p1), .second, .val (.int p2), .val (.int p3), .val (.int p4), .val (.int rr), .val (.ref b20), .val (.ref b22), .val (.ref b39)] [(.int (1 : Int32)), (.ref b39)])) rfl rfl (hb hby at_142)) ?_
    show own_R p.tables e below P (T42.setTop (mkF m 143 #[.val (.long p0), .second, .val (.long p1), .second, .val (.int p2), .val (.int p3), .val (.int p4), .val (.int rr), .val (.ref b20), .val (.ref b22), .val (.ref b39)] [(.long ((own_two (p0 ||| own_bit p2 (0 : Int32)) (p1 ||| own_bit p2 (1 : Int32))) 1))]))
    have hv46 : ((own_two (p0 ||| own_bit p2 (0 : Int32)) (p1 ||| own_bit p2 (1 : Int32))) 1) = (p1 ||| own_bit p2 (1 : Int32)) := (own_two_1 _ _)
    rw [hv46]
    show own_R p.tables e below P (T42.setTop (mkF m 143 #[.val (.long p0), .second, .val (.long p1), .second, .val (.int p2), .val (.int p3), .val (.int p4), .val (.int rr), .val (.ref b20), .val (.ref b22), .val (.ref b39)] [(.long (p1 ||| own_bit p2 (1 : Int32)))]))
    refine own_fwd (fun t k => XS.lloadN X42.here hx rfl (hb hby at_143) rfl k) ?_
    show own_R p.tables e below P (T42.setTop (mkF m 144 #[.val (.long p0), .second, .val (.long p1), .second, .val (.int p2), .val (.int p3), .val (.int p4), .val (.int rr), .val (.ref b20), .val (.ref b22), .val (.ref b39)] [(.long p1), (.long (p1 ||| own_bit p2 (1 : Int32)))]))
    refine own_fwd (fun t k => XS.aload X42.here hx rfl (hb hby at_144) rfl rfl k) ?_
    show own_R p.tables e below P (T42.setTop (mkF m 146 #[.val (.long p0), .second, .val (.long p1), .second, .val (.int p2), .val (.int p3), .val (.int p4), .val (.int rr), .val (.ref b20), .val (.ref b22), .val (.ref b39)] [(.ref b20), (.long p1), (.long (p1 ||| own_bit p2 (1 : Int32)))]))
    refine own_fwd (fun t k => XS.iconst X42.here hx rfl (hb hby at_146) k) ?_
    show own_R p.tables e below P (T42.setTop (mkF m 147 #[.val (.long p0), .second, .val (.long p1), .second, .val (.int p2), .val (.int p3), .val (.int p4), .val (.int rr), .val (.ref b20), .val (.ref b22), .val (.ref b39)] [(.int (1 : Int32)), (.ref b20), (.long p1), (.long (p1 ||| own_bit p2 (1 : Int32)))]))
    refine own_fwd (own_ldJ X42 hx hZ e42 A21__x42 (j := (1 : Int32)) 1 (by decide) (by decide) (g := (mkF m 147 #[.val (.long p0), .second, .val (.long p1), .second, .val (.int p2), .val (.int p3), .val (.int p4), .val (.int rr), .val (.ref b20), .val (.ref b22), .val (.ref b39)] [(.int (1 : Int32)), (.ref b20), (.long p1), (.long (p1 ||| own_bit p2 (1 : Int32)))])) rfl rfl (hb hby at_147)) ?_
    show own_R p.tables e below P (T42.setTop (mkF m 148 #[.val (.long p0), .second, .val (.long p1), .second, .val (.int p2), .val (.int p3), .val (.int p4), .val (.int rr), .val (.ref b20), .val (.ref b22), .val (.ref b39)] [(.long ((own_two (own_bit p2 (0 : Int32)) (own_bit p2 (1 : Int32))) 1)), (.long p1), (.long (p1 ||| own_bit p2 (1 : Int32)))]))
    have hv47 : ((own_two (own_bit p2 (0 : Int32)) (own_bit p2 (1 : Int32))) 1) = (own_bit p2 (1 : Int32)) := (own_two_1 _ _)
    rw [hv47]
    show own_R p.tables e below P (T42.setTop (mkF m 148 #[.val (.long p0), .second, .val (.long p1), .second, .val (.int p2), .val (.int p3), .val (.int p4), .val (.int rr), .val (.ref b20), .val (.ref b22), .val (.ref b39)] [(.long (own_bit p2 (1 : Int32))), (.long p1), (.long (p1 ||| own_bit p2 (1 : Int32)))]))
    refine own_fwd (fun t k => XS.lor X42.here hx rfl (hb hby at_148) rfl k) ?_
    show own_R p.tables e below P (T42.setTop (mkF m 149 #[.val (.long p0), .second, .val (.long p1), .second, .val (.int p2), .val (.int p3), .val (.int p4), .val (.int rr), .val (.ref b20), .val (.ref b22), .val (.ref b39)] [(.long (p1 ||| (own_bit p2 (1 : Int32)))), (.long (p1 ||| own_bit p2 (1 : Int32)))]))
    refine own_fwd (fun t k => XS.lcmp X42.here hx rfl (hb hby at_149) rfl k) ?_
    show own_R p.tables e below P (T42.setTop (mkF m 150 #[.val (.long p0), .second, .val (.long p1), .second, .val (.int p2), .val (.int p3), .val (.int p4), .val (.int rr), .val (.ref b20), .val (.ref b22), .val (.ref b39)] [(.int (lcmpW (p1 ||| own_bit p2 (1 : Int32)) (p1 ||| (own_bit p2 (1 : Int32)))))]))
    have hc48 : (lcmpW (p1 ||| own_bit p2 (1 : Int32)) (p1 ||| (own_bit p2 (1 : Int32)))) = (0 : Int32) := (lw_eq _ _).mpr rfl
    refine own_fwd (fun t k => XS.ifYes X42.here hx rfl (pc0 := 150) (pc' := 155) rfl (hb hby at_150) rfl ((if0 _ _).trans (teq hc48).1) (by decide) (by decide) k) ?_
    show own_R p.tables e below P (T42.setTop (mkF m 155 #[.val (.long p0), .second, .val (.long p1), .second, .val (.int p2), .val (.int p3), .val (.int p4), .val (.int rr), .val (.ref b20), .val (.ref b22), .val (.ref b39)] []))
    refine own_fwd (fun t k => XS.aload X42.here hx rfl (hb hby at_155) rfl rfl k) ?_
    show own_R p.tables e below P (T42.setTop (mkF m 157 #[.val (.long p0), .second, .val (.long p1), .second, .val (.int p2), .val (.int p3), .val (.int p4), .val (.int rr), .val (.ref b20), .val (.ref b22), .val (.ref b39)] [(.ref b39)]))
    refine own_fwd (fun t k => XS.iload X42.here hx rfl (hb hby at_157) rfl k) ?_
    show own_R p.tables e below P (T42.setTop (mkF m 159 #[.val (.long p0), .second, .val (.long p1), .second, .val (.int p2), .val (.int p3), .val (.int p4), .val (.int rr), .val (.ref b20), .val (.ref b22), .val (.ref b39)] [(.int p2), (.ref b39)]))
    obtain ⟨_, _, ⟨T49, L49, k49, n49⟩, -, X49, ⟨Lc49, hQ49, l49, y49, z49⟩, st49⟩ := Jvm.LawKit.callS X42 hx (y := (⟨"com/example/tracefold/tracefold/Conflicts", "mark", "([JI)V"⟩ : MethodName)) hown (mvT hZ (hw _ (List.mem_of_getElem? (i := 1) rfl))) (mvT hZ (hw _ (List.mem_of_getElem? (i := 2) rfl))) (mvT hZ (hw _ (List.mem_of_getElem? (i := 3) rfl))) (mvT hZ (hw _ (List.mem_of_getElem? (i := 4) rfl))) (by decide) (backOf (W := 0) (own_rm1 l Z a0 hw [] b39 p2 (p0 ||| own_bit p2 (0 : Int32)) (p1 ||| own_bit p2 (1 : Int32)) h42 n0 Z42 (A42_.cong fun i hi => by match i, hi with
          | 0, _ => rfl
          | 1, _ => rfl) ge_b39) hZ (hw _ (List.mem_of_getElem? (i := 4) rfl)) (hw _ (List.mem_of_getElem? (i := 3) rfl)) (by decide) (by decide)) (g := (mkF m 159 #[.val (.long p0), .second, .val (.long p1), .second, .val (.int p2), .val (.int p3), .val (.int p4), .val (.int rr), .val (.ref b20), .val (.ref b22), .val (.ref b39)] [(.int p2), (.ref b39)])) rfl (by rw [hml]; rfl) (argsL := [(.ref b39), (.int p2)]) (rest := []) (lenOf own_pd1 rfl) rfl (by show 2 * 0 + _ ≤ _; exact Nat.le_of_eq rfl) (hb hby at_159) (fun _ _ => ⟨rfl, e42, (by decide : 3 + 0 ≤ _), (by decide : 6 + 0 ≤ _)⟩)
    dsimp only [Pt.U, Pt.locs, Pt.cells, Pt.slots] at X49 l49 y49 z49 st49 hQ49
    subst l49 y49 z49
    obtain ⟨h49, e49⟩ : ∃ z, T49.heap = z := ⟨_, rfl⟩
    rw [e49] at hQ49
    obtain ⟨hq49, N49q, K49, A49_⟩ := hQ49
    subst hq49
    have N49 := Fr.app N42 N49q
    simp only [Int64.or_assoc, Int64.or_self] at A49_
    have B20_x49 := B20_x42.keep K49
    have A21__x49 := A21__x42.keep K49 (ninS ne39_b20 nin0)
    have B22_x49 := B22_x42.keep K49
    have A23__x49 := A23__x42.keep K49 (ninS ne39_b22 nin0)
    have B39_x49 := B39_x42.keep K49
    have Z49 : n0 ≤ h49.size := Nat.le_trans Z42 K49.1
    have Y49 : h0.size ≤ h49.size := Nat.le_trans Y42 K49.1
    refine own_fwd st49 ?_
    show own_R p.tables e below P (T49.setTop (mkF m 162 #[.val (.long p0), .second, .val (.long p1), .second, .val (.int p2), .val (.int p3), .val (.int p4), .val (.int rr), .val (.ref b20), .val (.ref b22), .val (.ref b39)] []))
    refine own_fwd (fun t k => XS.aload X49.here hx rfl (hb hby at_162) rfl rfl k) ?_
    show own_R p.tables e below P (T49.setTop (mkF m 164 #[.val (.long p0), .second, .val (.long p1), .second, .val (.int p2), .val (.int p3), .val (.int p4), .val (.int rr), .val (.ref b20), .val (.ref b22), .val (.ref b39)] [(.ref b39)]))
    refine own_fwd (fun t k => XS.iconst X49.here hx rfl (hb hby at_164) k) ?_
    show own_R p.tables e below P (T49.setTop (mkF m 165 #[.val (.long p0), .second, .val (.long p1), .second, .val (.int p2), .val (.int p3), .val (.int p4), .val (.int rr), .val (.ref b20), .val (.ref b22), .val (.ref b39)] [(.int (0 : Int32)), (.ref b39)]))
    refine own_fwd (own_ldJ X49 hx hZ e49 A49_ (j := (0 : Int32)) 0 (by decide) (by decide) (g := (mkF m 165 #[.val (.long p0), .second, .val (.long p1), .second, .val (.int p2), .val (.int p3), .val (.int p4), .val (.int rr), .val (.ref b20), .val (.ref b22), .val (.ref b39)] [(.int (0 : Int32)), (.ref b39)])) rfl rfl (hb hby at_165)) ?_
    show own_R p.tables e below P (T49.setTop (mkF m 166 #[.val (.long p0), .second, .val (.long p1), .second, .val (.int p2), .val (.int p3), .val (.int p4), .val (.int rr), .val (.ref b20), .val (.ref b22), .val (.ref b39)] [(.long ((own_two (p0 ||| own_bit p2 (0 : Int32)) (p1 ||| own_bit p2 (1 : Int32))) 0))]))
    have hv50 : ((own_two (p0 ||| own_bit p2 (0 : Int32)) (p1 ||| own_bit p2 (1 : Int32))) 0) = (p0 ||| own_bit p2 (0 : Int32)) := (own_two_0 _ _)
    rw [hv50]
    show own_R p.tables e below P (T49.setTop (mkF m 166 #[.val (.long p0), .second, .val (.long p1), .second, .val (.int p2), .val (.int p3), .val (.int p4), .val (.int rr), .val (.ref b20), .val (.ref b22), .val (.ref b39)] [(.long (p0 ||| own_bit p2 (0 : Int32)))]))
    refine own_fwd (fun t k => XS.lloadN X49.here hx rfl (hb hby at_166) rfl k) ?_
    show own_R p.tables e below P (T49.setTop (mkF m 167 #[.val (.long p0), .second, .val (.long p1), .second, .val (.int p2), .val (.int p3), .val (.int p4), .val (.int rr), .val (.ref b20), .val (.ref b22), .val (.ref b39)] [(.long p0), (.long (p0 ||| own_bit p2 (0 : Int32)))]))
    refine own_fwd (fun t k => XS.aload X49.here hx rfl (hb hby at_167) rfl rfl k) ?_
    show own_R p.tables e below P (T49.setTop (mkF m 169 #[.val (.long p0), .second, .val (.long p1), .second, .val (.int p2), .val (.int p3), .val (.int p4), .val (.int rr), .val (.ref b20), .val (.ref b22), .val (.ref b39)] [(.ref b20), (.long p0), (.long (p0 ||| own_bit p2 (0 : Int32)))]))
    refine own_fwd (fun t k => XS.iconst X49.here hx rfl (hb hby at_169) k) ?_
    show own_R p.tables e below P (T49.setTop (mkF m 170 #[.val (.long p0), .second, .val (.long p1), .second, .val (.int p2), .val (.int p3), .val (.int p4), .val (.int rr), .val (.ref b20), .val (.ref b22), .val (.ref b39)] [(.int (0 : Int32)), (.ref b20), (.long p0), (.long (p0 ||| own_bit p2 (0 : Int32)))]))
    refine own_fwd (own_ldJ X49 hx hZ e49 A21__x49 (j := (0 : Int32)) 0 (by decide) (by decide) (g := (mkF m 170 #[.val (.long p0), .second, .val (.long p1), .second, .val (.int p2), .val (.int p3), .val (.int p4), .val (.int rr), .val (.ref b20), .val (.ref b22), .val (.ref b39)] [(.int (0 : Int32)), (.ref b20), (.long p0), (.long (p0 ||| own_bit p2 (0 : Int32)))])) rfl rfl (hb hby at_170)) ?_
    show own_R p.tables e below P (T49.setTop (mkF m 171 #[.val (.long p0), .second, .val (.long p1), .second, .val (.int p2), .val (.int p3), .val (.int p4), .val (.int rr), .val (.ref b20), .val (.ref b22), .val (.ref b39)] [(.long ((own_two (own_bit p2 (0 : Int32)) (own_bit p2 (1 : Int32))) 0)), (.long p0), (.long (p0 ||| own_bit p2 (0 : Int32)))]))
    have hv51 : ((own_two (own_bit p2 (0 : Int32)) (own_bit p2 (1 : Int32))) 0) = (own_bit p2 (0 : Int32)) := (own_two_0 _ _)
    rw [hv51]
    show own_R p.tables e below P (T49.setTop (mkF m 171 #[.val (.long p0), .second, .val (.long p1), .second, .val (.int p2), .val (.int p3), .val (.int p4), .val (.int rr), .val (.ref b20), .val (.ref b22), .val (.ref b39)] [(.long (own_bit p2 (0 : Int32))), (.long p0), (.long (p0 ||| own_bit p2 (0 : Int32)))]))
    refine own_fwd (fun t k => XS.lor X49.here hx rfl (hb hby at_171) rfl k) ?_
    show own_R p.tables e below P (T49.setTop (mkF m 172 #[.val (.long p0), .second, .val (.long p1), .second, .val (.int p2), .val (.int p3), .val (.int p4), .val (.int rr), .val (.ref b20), .val (.ref b22), .val (.ref b39)] [(.long (p0 ||| (own_bit p2 (0 : Int32)))), (.long (p0 ||| own_bit p2 (0 : Int32)))]))
    refine own_fwd (fun t k => XS.lcmp X49.here hx rfl (hb hby at_172) rfl k) ?_
    show own_R p.tables e below P (T49.setTop (mkF m 173 #[.val (.long p0), .second, .val (.long p1), .second, .val (.int p2), .val (.int p3), .val (.int p4), .val (.int rr), .val (.ref b20), .val (.ref b22), .val (.ref b39)] [(.int (lcmpW (p0 ||| own_bit p2 (0 : Int32)) (p0 ||| (own_bit p2 (0 : Int32)))))]))
    have hc52 : (lcmpW (p0 ||| own_bit p2 (0 : Int32)) (p0 ||| (own_bit p2 (0 : Int32)))) = (0 : Int32) := (lw_eq _ _).mpr rfl
    refine own_fwd (fun t k => XS.ifNo X49.here hx rfl (hb hby at_173) rfl ((if0 _ _).trans (teq hc52).2) k) ?_
    show own_R p.tables e below P (T49.setTop (mkF m 176 #[.val (.long p0), .second, .val (.long p1), .second, .val (.int p2), .val (.int p3), .val (.int p4), .val (.int rr), .val (.ref b20), .val (.ref b22), .val (.ref b39)] []))
    refine own_fwd (fun t k => XS.aload X49.here hx rfl (hb hby at_176) rfl rfl k) ?_
    show own_R p.tables e below P (T49.setTop (mkF m 178 #[.val (.long p0), .second, .val (.long p1), .second, .val (.int p2), .val (.int p3), .val (.int p4), .val (.int rr), .val (.ref b20), .val (.ref b22), .val (.ref b39)] [(.ref b39)]))
    refine own_fwd (fun t k => XS.iconst X49.here hx rfl (hb hby at_178) k) ?_
    show own_R p.tables e below P (T49.setTop (mkF m 179 #[.val (.long p0), .second, .val (.long p1), .second, .val (.int p2), .val (.int p3), .val (.int p4), .val (.int rr), .val (.ref b20), .val (.ref b22), .val (.ref b39)] [(.int (1 : Int32)), (.ref b39)]))
    refine own_fwd (own_ldJ X49 hx hZ e49 A49_ (j := (1 : Int32)) 1 (by decide) (by decide) (g := (mkF m 179 #[.val (.long p0), .second, .val (.long p1), .second, .val (.int p2), .val (.int p3), .val (.int p4), .val (.int rr), .val (.ref b20), .val (.ref b22), .val (.ref b39)] [(.int (1 : Int32)), (.ref b39)])) rfl rfl (hb hby at_179)) ?_
    show own_R p.tables e below P (T49.setTop (mkF m 180 #[.val (.long p0), .second, .val (.long p1), .second, .val (.int p2), .val (.int p3), .val (.int p4), .val (.int rr), .val (.ref b20), .val (.ref b22), .val (.ref b39)] [(.long ((own_two (p0 ||| own_bit p2 (0 : Int32)) (p1 ||| own_bit p2 (1 : Int32))) 1))]))
    have hv53 : ((own_two (p0 ||| own_bit p2 (0 : Int32)) (p1 ||| own_bit p2 (1 : Int32))) 1) = (p1 ||| own_bit p2 (1 : Int32)) := (own_two_1 _ _)
    rw [hv53]
    show own_R p.tables e below P (T49.setTop (mkF m 180 #[.val (.long p0), .second, .val (.long p1), .second, .val (.int p2), .val (.int p3), .val (.int p4), .val (.int rr), .val (.ref b20), .val (.ref b22), .val (.ref b39)] [(.long (p1 ||| own_bit p2 (1 : Int32)))]))
    refine own_fwd (fun t k => XS.lloadN X49.here hx rfl (hb hby at_180) rfl k) ?_
    show own_R p.tables e below P (T49.setTop (mkF m 181 #[.val (.long p0), .second, .val (.long p1), .second, .val (.int p2), .val (.int p3), .val (.int p4), .val (.int rr), .val (.ref b20), .val (.ref b22), .val (.ref b39)] [(.long p1), (.long (p1 ||| own_bit p2 (1 : Int32)))]))
    refine own_fwd (fun t k => XS.aload X49.here hx rfl (hb hby at_181) rfl rfl k) ?_
    show own_R p.tables e below P (T49.setTop (mkF m 183 #[.val (.long p0), .second, .val (.long p1), .second, .val (.int p2), .val (.int p3), .val (.int p4), .val (.int rr), .val (.ref b20), .val (.ref b22), .val (.ref b39)] [(.ref b20), (.long p1), (.long (p1 ||| own_bit p2 (1 : Int32)))]))
    refine own_fwd (fun t k => XS.iconst X49.here hx rfl (hb hby at_183) k) ?_
    show own_R p.tables e below P (T49.setTop (mkF m 184 #[.val (.long p0), .second, .val (.long p1), .second, .val (.int p2), .val (.int p3), .val (.int p4), .val (.int rr), .val (.ref b20), .val (.ref b22), .val (.ref b39)] [(.int (1 : Int32)), (.ref b20), (.long p1), (.long (p1 ||| own_bit p2 (1 : Int32)))]))
    refine own_fwd (own_ldJ X49 hx hZ e49 A21__x49 (j := (1 : Int32)) 1 (by decide) (by decide) (g := (mkF m 184 #[.val (.long p0), .second, .val (.long p1), .second, .val (.int p2), .val (.int p3), .val (.int p4), .val (.int rr), .val (.ref b20), .val (.ref b22), .val (.ref b39)] [(.int (1 : Int32)), (.ref b20), (.long p1), (.long (p1 ||| own_bit p2 (1 : Int32)))])) rfl rfl (hb hby at_184)) ?_
    show own_R p.tables e below P (T49.setTop (mkF m 185 #[.val (.long p0), .second, .val (.long p1), .second, .val (.int p2), .val (.int p3), .val (.int p4), .val (.int rr), .val (.ref b20), .val (.ref b22), .val (.ref b39)] [(.long ((own_two (own_bit p2 (0 : Int32)) (own_bit p2 (1 : Int32))) 1)), (.long p1), (.long (p1 ||| own_bit p2 (1 : Int32)))]))
    have hv54 : ((own_two (own_bit p2 (0 : Int32)) (own_bit p2 (1 : Int32))) 1) = (own_bit p2 (1 : Int32)) := (own_two_1 _ _)
    rw [hv54]
    show own_R p.tables e below P (T49.setTop (mkF m 185 #[.val (.long p0), .second, .val (.long p1), .second, .val (.int p2), .val (.int p3), .val (.int p4), .val (.int rr), .val (.ref b20), .val (.ref b22), .val (.ref b39)] [(.long (own_bit p2 (1 : Int32))), (.long p1), (.long (p1 ||| own_bit p2 (1 : Int32)))]))
    refine own_fwd (fun t k => XS.lor X49.here hx rfl (hb hby at_185) rfl k) ?_
    show own_R p.tables e below P (T49.setTop (mkF m 186 #[.val (.long p0), .second, .val (.long p1), .second, .val (.int p2), .val (.int p3), .val (.int p4), .val (.int rr), .val (.ref b20), .val (.ref b22), .val (.ref b39)] [(.long (p1 ||| (own_bit p2 (1 : Int32)))), (.long (p1 ||| own_bit p2 (1 : Int32)))]))
    refine own_fwd (fun t k => XS.lcmp X49.here hx rfl (hb hby at_186) rfl k) ?_
    show own_R p.tables e below P (T49.setTop (mkF m 187 #[.val (.long p0), .second, .val (.long p1), .second, .val (.int p2), .val (.int p3), .val (.int p4), .val (.int rr), .val (.ref b20), .val (.ref b22), .val (.ref b39)] [(.int (lcmpW (p1 ||| own_bit p2 (1 : Int32)) (p1 ||| (own_bit p2 (1 : Int32)))))]))
    have hc55 : (lcmpW (p1 ||| own_bit p2 (1 : Int32)) (p1 ||| (own_bit p2 (1 : Int32)))) = (0 : Int32) := (lw_eq _ _).mpr rfl
    refine own_fwd (fun t k => XS.ifYes X49.here hx rfl (pc0 := 187) (pc' := 192) rfl (hb hby at_187) rfl ((if0 _ _).trans (teq hc55).1) (by decide) (by decide) k) ?_
    show own_R p.tables e below P (T49.setTop (mkF m 192 #[.val (.long p0), .second, .val (.long p1), .second, .val (.int p2), .val (.int p3), .val (.int p4), .val (.int rr), .val (.ref b20), .val (.ref b22), .val (.ref b39)] []))
    refine own_fwd (fun t k => XS.aload X49.here hx rfl (hb hby at_192) rfl rfl k) ?_
    show own_R p.tables e below P (T49.setTop (mkF m 194 #[.val (.long p0), .second, .val (.long p1), .second, .val (.int p2), .val (.int p3), .val (.int p4), .val (.int rr), .val (.ref b20), .val (.ref b22), .val (.ref b39)] [(.ref b39)]))
    refine own_fwd (fun t k => XS.iload X49.here hx rfl (hb hby at_194) rfl k) ?_
    show own_R p.tables e below P (T49.setTop (mkF m 196 #[.val (.long p0), .second, .val (.long p1), .second, .val (.int p2), .val (.int p3), .val (.int p4), .val (.int rr), .val (.ref b20), .val (.ref b22), .val (.ref b39)] [(.int rr), (.ref b39)]))
    obtain ⟨_, _, ⟨T56, L56, k56, n56⟩, -, X56, ⟨Lc56, hQ56, l56, y56, z56⟩, st56⟩ := Jvm.LawKit.callS X49 hx (y := (⟨"com/example/tracefold/tracefold/Conflicts", "mark", "([JI)V"⟩ : MethodName)) hown (mvT hZ (hw _ (List.mem_of_getElem? (i := 1) rfl))) (mvT hZ (hw _ (List.mem_of_getElem? (i := 2) rfl))) (mvT hZ (hw _ (List.mem_of_getElem? (i := 3) rfl))) (mvT hZ (hw _ (List.mem_of_getElem? (i := 4) rfl))) (by decide) (backOf (W := 0) (own_rm1 l Z a0 hw [] b39 rr (p0 ||| own_bit p2 (0 : Int32)) (p1 ||| own_bit p2 (1 : Int32)) h49 n0 Z49 (A49_.cong fun i hi => by match i, hi with
          | 0, _ => rfl
          | 1, _ => rfl) ge_b39) hZ (hw _ (List.mem_of_getElem? (i := 4) rfl)) (hw _ (List.mem_of_getElem? (i := 3) rfl)) (by decide) (by decide)) (g := (mkF m 196 #[.val (.long p0), .second, .val (.long p1), .second, .val (.int p2), .val (.int p3), .val (.int p4), .val (.int rr), .val (.ref b20), .val (.ref b22), .val (.ref b39)] [(.int rr), (.ref b39)])) rfl (by rw [hml]; rfl) (argsL := [(.ref b39), (.int rr)]) (rest := []) (lenOf own_pd1 rfl) rfl (by show 2 * 0 + _ ≤ _; exact Nat.le_of_eq rfl) (hb hby at_196) (fun _ _ => ⟨rfl, e49, (by decide : 3 + 0 ≤ _), (by decide : 6 + 0 ≤ _)⟩)
    dsimp only [Pt.U, Pt.locs, Pt.cells, Pt.slots] at X56 l56 y56 z56 st56 hQ56
    subst l56 y56 z56
    obtain ⟨h56, e56⟩ : ∃ z, T56.heap = z := ⟨_, rfl⟩
    rw [e56] at hQ56
    obtain ⟨hq56, N56q, K56, A56_⟩ := hQ56
    subst hq56
    have N56 := Fr.app N49 N56q
    have B20_x56 := B20_x49.keep K56
    have A21__x56 := A21__x49.keep K56 (ninS ne39_b20 nin0)
    have B22_x56 := B22_x49.keep K56
    have A23__x56 := A23__x49.keep K56 (ninS ne39_b22 nin0)
    have B39_x56 := B39_x49.keep K56
    have Z56 : n0 ≤ h56.size := Nat.le_trans Z49 K56.1
    have Y56 : h0.size ≤ h56.size := Nat.le_trans Y49 K56.1
    refine own_fwd st56 ?_
    show own_R p.tables e below P (T56.setTop (mkF m 199 #[.val (.long p0), .second, .val (.long p1), .second, .val (.int p2), .val (.int p3), .val (.int p4), .val (.int rr), .val (.ref b20), .val (.ref b22), .val (.ref b39)] []))
    refine own_fwd (fun t k => XS.aload X56.here hx rfl (hb hby at_199) rfl rfl k) ?_
    show own_R p.tables e below P (T56.setTop (mkF m 201 #[.val (.long p0), .second, .val (.long p1), .second, .val (.int p2), .val (.int p3), .val (.int p4), .val (.int rr), .val (.ref b20), .val (.ref b22), .val (.ref b39)] [(.ref b39)]))
    refine own_fwd (fun t k => XS.iconst X56.here hx rfl (hb hby at_201) k) ?_
    show own_R p.tables e below P (T56.setTop (mkF m 202 #[.val (.long p0), .second, .val (.long p1), .second, .val (.int p2), .val (.int p3), .val (.int p4), .val (.int rr), .val (.ref b20), .val (.ref b22), .val (.ref b39)] [(.int (0 : Int32)), (.ref b39)]))
    refine own_fwd (own_ldJ X56 hx hZ e56 A56_ (j := (0 : Int32)) 0 (by decide) (by decide) (g := (mkF m 202 #[.val (.long p0), .second, .val (.long p1), .second, .val (.int p2), .val (.int p3), .val (.int p4), .val (.int rr), .val (.ref b20), .val (.ref b22), .val (.ref b39)] [(.int (0 : Int32)), (.ref b39)])) rfl rfl (hb hby at_202)) ?_
    show own_R p.tables e below P (T56.setTop (mkF m 203 #[.val (.long p0), .second, .val (.long p1), .second, .val (.int p2), .val (.int p3), .val (.int p4), .val (.int rr), .val (.ref b20), .val (.ref b22), .val (.ref b39)] [(.long ((own_two ((p0 ||| own_bit p2 (0 : Int32)) ||| own_bit rr (0 : Int32)) ((p1 ||| own_bit p2 (1 : Int32)) ||| own_bit rr (1 : Int32))) 0))]))
    have hv57 : ((own_two ((p0 ||| own_bit p2 (0 : Int32)) ||| own_bit rr (0 : Int32)) ((p1 ||| own_bit p2 (1 : Int32)) ||| own_bit rr (1 : Int32))) 0) = ((p0 ||| own_bit p2 (0 : Int32)) ||| own_bit rr (0 : Int32)) := (own_two_0 _ _)
    rw [hv57]
    show own_R p.tables e below P (T56.setTop (mkF m 203 #[.val (.long p0), .second, .val (.long p1), .second, .val (.int p2), .val (.int p3), .val (.int p4), .val (.int rr), .val (.ref b20), .val (.ref b22), .val (.ref b39)] [(.long ((p0 ||| own_bit p2 (0 : Int32)) ||| own_bit rr (0 : Int32)))]))
    refine own_fwd (fun t k => XS.lloadN X56.here hx rfl (hb hby at_203) rfl k) ?_
    show own_R p.tables e below P (T56.setTop (mkF m 204 #[.val (.long p0), .second, .val (.long p1), .second, .val (.int p2), .val (.int p3), .val (.int p4), .val (.int rr), .val (.ref b20), .val (.ref b22), .val (.ref b39)] [(.long p0), (.long ((p0 ||| own_bit p2 (0 : Int32)) ||| own_bit rr (0 : Int32)))]))
    refine own_fwd (fun t k => XS.aload X56.here hx rfl (hb hby at_204) rfl rfl k) ?_
    show own_R p.tables e below P (T56.setTop (mkF m 206 #[.val (.long p0), .second, .val (.long p1), .second, .val (.int p2), .val (.int p3), .val (.int p4), .val (.int rr), .val (.ref b20), .val (.ref b22), .val (.ref b39)] [(.ref b20), (.long p0), (.long ((p0 ||| own_bit p2 (0 : Int32)) ||| own_bit rr (0 : Int32)))]))
    refine own_fwd (fun t k => XS.iconst X56.here hx rfl (hb hby at_206) k) ?_
    show own_R p.tables e below P (T56.setTop (mkF m 207 #[.val (.long p0), .second, .val (.long p1), .second, .val (.int p2), .val (.int p3), .val (.int p4), .val (.int rr), .val (.ref b20), .val (.ref b22), .val (.ref b39)] [(.int (0 : Int32)), (.ref b20), (.long p0), (.long ((p0 ||| own_bit p2 (0 : Int32)) ||| own_bit rr (0 : Int32)))]))
    refine own_fwd (own_ldJ X56 hx hZ e56 A21__x56 (j := (0 : Int32)) 0 (by decide) (by decide) (g := (mkF m 207 #[.val (.long p0), .second, .val (.long p1), .second, .val (.int p2), .val (.int p3), .val (.int p4), .val (.int rr), .val (.ref b20), .val (.ref b22), .val (.ref b39)] [(.int (0 : Int32)), (.ref b20), (.long p0), (.long ((p0 ||| own_bit p2 (0 : Int32)) ||| own_bit rr (0 : Int32)))])) rfl rfl (hb hby at_207)) ?_
    show own_R p.tables e below P (T56.setTop (mkF m 208 #[.val (.long p0), .second, .val (.long p1), .second, .val (.int p2), .val (.int p3), .val (.int p4), .val (.int rr), .val (.ref b20), .val (.ref b22), .val (.ref b39)] [(.long ((own_two (own_bit p2 (0 : Int32)) (own_bit p2 (1 : Int32))) 0)), (.long p0), (.long ((p0 ||| own_bit p2 (0 : Int32)) ||| own_bit rr (0 : Int32)))]))
    have hv58 : ((own_two (own_bit p2 (0 : Int32)) (own_bit p2 (1 : Int32))) 0) = (own_bit p2 (0 : Int32)) := (own_two_0 _ _)
    rw [hv58]
    show own_R p.tables e below P (T56.setTop (mkF m 208 #[.val (.long p0), .second, .val (.long p1), .second, .val (.int p2), .val (.int p3), .val (.int p4), .val (.int rr), .val (.ref b20), .val (.ref b22), .val (.ref b39)] [(.long (own_bit p2 (0 : Int32))), (.long p0), (.long ((p0 ||| own_bit p2 (0 : Int32)) ||| own_bit rr (0 : Int32)))]))
    refine own_fwd (fun t k => XS.lor X56.here hx rfl (hb hby at_208) rfl k) ?_
    show own_R p.tables e below P (T56.setTop (mkF m 209 #[.val (.long p0), .second, .val (.long p1), .second, .val (.int p2), .val (.int p3), .val (.int p4), .val (.int rr), .val (.ref b20), .val (.ref b22), .val (.ref b39)] [(.long (p0 ||| (own_bit p2 (0 : Int32)))), (.long ((p0 ||| own_bit p2 (0 : Int32)) ||| own_bit rr (0 : Int32)))]))
    refine own_fwd (fun t k => XS.aload X56.here hx rfl (hb hby at_209) rfl rfl k) ?_
    show own_R p.tables e below P (T56.setTop (mkF m 211 #[.val (.long p0), .second, .val (.long p1), .second, .val (.int p2), .val (.int p3), .val (.int p4), .val (.int rr), .val (.ref b20), .val (.ref b22), .val (.ref b39)] [(.ref b22), (.long (p0 ||| (own_bit p2 (0 : Int32)))), (.long ((p0 ||| own_bit p2 (0 : Int32)) ||| own_bit rr (0 : Int32)))]))
    refine own_fwd (fun t k => XS.iconst X56.here hx rfl (hb hby at_211) k) ?_
    show own_R p.tables e below P (T56.setTop (mkF m 212 #[.val (.long p0), .second, .val (.long p1), .second, .val (.int p2), .val (.int p3), .val (.int p4), .val (.int rr), .val (.ref b20), .val (.ref b22), .val (.ref b39)] [(.int (0 : Int32)), (.ref b22), (.long (p0 ||| (own_bit p2 (0 : Int32)))), (.long ((p0 ||| own_bit p2 (0 : Int32)) ||| own_bit rr (0 : Int32)))]))
    refine own_fwd (own_ldJ X56 hx hZ e56 A23__x56 (j := (0 : Int32)) 0 (by decide) (by decide) (g := (mkF m 212 #[.val (.long p0), .second, .val (.long p1), .second, .val (.int p2), .val (.int p3), .val (.int p4), .val (.int rr), .val (.ref b20), .val (.ref b22), .val (.ref b39)] [(.int (0 : Int32)), (.ref b22), (.long (p0 ||| (own_bit p2 (0 : Int32)))), (.long ((p0 ||| own_bit p2 (0 : Int32)) ||| own_bit rr (0 : Int32)))])) rfl rfl (hb hby at_212)) ?_
    show own_R p.tables e below P (T56.setTop (mkF m 213 #[.val (.long p0), .second, .val (.long p1), .second, .val (.int p2), .val (.int p3), .val (.int p4), .val (.int rr), .val (.ref b20), .val (.ref b22), .val (.ref b39)] [(.long ((own_two (own_bit rr (0 : Int32)) (own_bit rr (1 : Int32))) 0)), (.long (p0 ||| (own_bit p2 (0 : Int32)))), (.long ((p0 ||| own_bit p2 (0 : Int32)) ||| own_bit rr (0 : Int32)))]))
    have hv59 : ((own_two (own_bit rr (0 : Int32)) (own_bit rr (1 : Int32))) 0) = (own_bit rr (0 : Int32)) := (own_two_0 _ _)
    rw [hv59]
    show own_R p.tables e below P (T56.setTop (mkF m 213 #[.val (.long p0), .second, .val (.long p1), .second, .val (.int p2), .val (.int p3), .val (.int p4), .val (.int rr), .val (.ref b20), .val (.ref b22), .val (.ref b39)] [(.long (own_bit rr (0 : Int32))), (.long (p0 ||| (own_bit p2 (0 : Int32)))), (.long ((p0 ||| own_bit p2 (0 : Int32)) ||| own_bit rr (0 : Int32)))]))
    refine own_fwd (fun t k => XS.lor X56.here hx rfl (hb hby at_213) rfl k) ?_
    show own_R p.tables e below P (T56.setTop (mkF m 214 #[.val (.long p0), .second, .val (.long p1), .second, .val (.int p2), .val (.int p3), .val (.int p4), .val (.int rr), .val (.ref b20), .val (.ref b22), .val (.ref b39)] [(.long ((p0 ||| (own_bit p2 (0 : Int32))) ||| (own_bit rr (0 : Int32)))), (.long ((p0 ||| own_bit p2 (0 : Int32)) ||| own_bit rr (0 : Int32)))]))
    refine own_fwd (fun t k => XS.lcmp X56.here hx rfl (hb hby at_214) rfl k) ?_
    show own_R p.tables e below P (T56.setTop (mkF m 215 #[.val (.long p0), .second, .val (.long p1), .second, .val (.int p2), .val (.int p3), .val (.int p4), .val (.int rr), .val (.ref b20), .val (.ref b22), .val (.ref b39)] [(.int (lcmpW ((p0 ||| own_bit p2 (0 : Int32)) ||| own_bit rr (0 : Int32)) ((p0 ||| (own_bit p2 (0 : Int32))) ||| (own_bit rr (0 : Int32)))))]))
    have hc60 : (lcmpW ((p0 ||| own_bit p2 (0 : Int32)) ||| own_bit rr (0 : Int32)) ((p0 ||| (own_bit p2 (0 : Int32))) ||| (own_bit rr (0 : Int32)))) = (0 : Int32) := (lw_eq _ _).mpr rfl
    refine own_fwd (fun t k => XS.ifNo X56.here hx rfl (hb hby at_215) rfl ((if0 _ _).trans (teq hc60).2) k) ?_
    show own_R p.tables e below P (T56.setTop (mkF m 218 #[.val (.long p0), .second, .val (.long p1), .second, .val (.int p2), .val (.int p3), .val (.int p4), .val (.int rr), .val (.ref b20), .val (.ref b22), .val (.ref b39)] []))
    refine own_fwd (fun t k => XS.aload X56.here hx rfl (hb hby at_218) rfl rfl k) ?_
    show own_R p.tables e below P (T56.setTop (mkF m 220 #[.val (.long p0), .second, .val (.long p1), .second, .val (.int p2), .val (.int p3), .val (.int p4), .val (.int rr), .val (.ref b20), .val (.ref b22), .val (.ref b39)] [(.ref b39)]))
    refine own_fwd (fun t k => XS.iconst X56.here hx rfl (hb hby at_220) k) ?_
    show own_R p.tables e below P (T56.setTop (mkF m 221 #[.val (.long p0), .second, .val (.long p1), .second, .val (.int p2), .val (.int p3), .val (.int p4), .val (.int rr), .val (.ref b20), .val (.ref b22), .val (.ref b39)] [(.int (1 : Int32)), (.ref b39)]))
    refine own_fwd (own_ldJ X56 hx hZ e56 A56_ (j := (1 : Int32)) 1 (by decide) (by decide) (g := (mkF m 221 #[.val (.long p0), .second, .val (.long p1), .second, .val (.int p2), .val (.int p3), .val (.int p4), .val (.int rr), .val (.ref b20), .val (.ref b22), .val (.ref b39)] [(.int (1 : Int32)), (.ref b39)])) rfl rfl (hb hby at_221)) ?_
    show own_R p.tables e below P (T56.setTop (mkF m 222 #[.val (.long p0), .second, .val (.long p1), .second, .val (.int p2), .val (.int p3), .val (.int p4), .val (.int rr), .val (.ref b20), .val (.ref b22), .val (.ref b39)] [(.long ((own_two ((p0 ||| own_bit p2 (0 : Int32)) ||| own_bit rr (0 : Int32)) ((p1 ||| own_bit p2 (1 : Int32)) ||| own_bit rr (1 : Int32))) 1))]))
    have hv61 : ((own_two ((p0 ||| own_bit p2 (0 : Int32)) ||| own_bit rr (0 : Int32)) ((p1 ||| own_bit p2 (1 : Int32)) ||| own_bit rr (1 : Int32))) 1) = ((p1 ||| own_bit p2 (1 : Int32)) ||| own_bit rr (1 : Int32)) := (own_two_1 _ _)
    rw [hv61]
    show own_R p.tables e below P (T56.setTop (mkF m 222 #[.val (.long p0), .second, .val (.long p1), .second, .val (.int p2), .val (.int p3), .val (.int p4), .val (.int rr), .val (.ref b20), .val (.ref b22), .val (.ref b39)] [(.long ((p1 ||| own_bit p2 (1 : Int32)) ||| own_bit rr (1 : Int32)))]))
    refine own_fwd (fun t k => XS.lloadN X56.here hx rfl (hb hby at_222) rfl k) ?_
    show own_R p.tables e below P (T56.setTop (mkF m 223 #[.val (.long p0), .second, .val (.long p1), .second, .val (.int p2), .val (.int p3), .val (.int p4), .val (.int rr), .val (.ref b20), .val (.ref b22), .val (.ref b39)] [(.long p1), (.long ((p1 ||| own_bit p2 (1 : Int32)) ||| own_bit rr (1 : Int32)))]))
    refine own_fwd (fun t k => XS.aload X56.here hx rfl (hb hby at_223) rfl rfl k) ?_
    show own_R p.tables e below P (T56.setTop (mkF m 225 #[.val (.long p0), .second, .val (.long p1), .second, .val (.int p2), .val (.int p3), .val (.int p4), .val (.int rr), .val (.ref b20), .val (.ref b22), .val (.ref b39)] [(.ref b20), (.long p1), (.long ((p1 ||| own_bit p2 (1 : Int32)) ||| own_bit rr (1 : Int32)))]))
    refine own_fwd (fun t k => XS.iconst X56.here hx rfl (hb hby at_225) k) ?_
    show own_R p.tables e below P (T56.setTop (mkF m 226 #[.val (.long p0), .second, .val (.long p1), .second, .val (.int p2), .val (.int p3), .val (.int p4), .val (.int rr), .val (.ref b20), .val (.ref b22), .val (.ref b39)] [(.int (1 : Int32)), (.ref b20), (.long p1), (.long ((p1 ||| own_bit p2 (1 : Int32)) ||| own_bit rr (1 : Int32)))]))
    refine own_fwd (own_ldJ X56 hx hZ e56 A21__x56 (j := (1 : Int32)) 1 (by decide) (by decide) (g := (mkF m 226 #[.val (.long p0), .second, .val (.long p1), .second, .val (.int p2), .val (.int p3), .val (.int p4), .val (.int rr), .val (.ref b20), .val (.ref b22), .val (.ref b39)] [(.int (1 : Int32)), (.ref b20), (.long p1), (.long ((p1 ||| own_bit p2 (1 : Int32)) ||| own_bit rr (1 : Int32)))])) rfl rfl (hb hby at_226)) ?_
    show own_R p.tables e below P (T56.setTop (mkF m 227 #[.val (.long p0), .second, .val (.long p1), .second, .val (.int p2), .val (.int p3), .val (.int p4), .val (.int rr), .val (.ref b20), .val (.ref b22), .val (.ref b39)] [(.long ((own_two (own_bit p2 (0 : Int32)) (own_bit p2 (1 : Int32))) 1)), (.long p1), (.long ((p1 ||| own_bit p2 (1 : Int32)) ||| own_bit rr (1 : Int32)))]))
    have hv62 : ((own_two (own_bit p2 (0 : Int32)) (own_bit p2 (1 : Int32))) 1) = (own_bit p2 (1 : Int32)) := (own_two_1 _ _)
    rw [hv62]
    show own_R p.tables e below P (T56.setTop (mkF m 227 #[.val (.long p0), .second, .val (.long p1), .second, .val (.int p2), .val (.int p3), .val (.int p4), .val (.int rr), .val (.ref b20), .val (.ref b22), .val (.ref b39)] [(.long (own_bit p2 (1 : Int32))), (.long p1), (.long ((p1 ||| own_bit p2 (1 : Int32)) ||| own_bit rr (1 : Int32)))]))
    refine own_fwd (fun t k => XS.lor X56.here hx rfl (hb hby at_227) rfl k) ?_
    show own_R p.tables e below P (T56.setTop (mkF m 228 #[.val (.long p0), .second, .val (.long p1), .second, .val (.int p2), .val (.int p3), .val (.int p4), .val (.int rr), .val (.ref b20), .val (.ref b22), .val (.ref b39)] [(.long (p1 ||| (own_bit p2 (1 : Int32)))), (.long ((p1 ||| own_bit p2 (1 : Int32)) ||| own_bit rr (1 : Int32)))]))
    refine own_fwd (fun t k => XS.aload X56.here hx rfl (hb hby at_228) rfl rfl k) ?_
    show own_R p.tables e below P (T56.setTop (mkF m 230 #[.val (.long p0), .second, .val (.long p1), .second, .val (.int p2), .val (.int p3), .val (.int p4), .val (.int rr), .val (.ref b20), .val (.ref b22), .val (.ref b39)] [(.ref b22), (.long (p1 ||| (own_bit p2 (1 : Int32)))), (.long ((p1 ||| own_bit p2 (1 : Int32)) ||| own_bit rr (1 : Int32)))]))
    refine own_fwd (fun t k => XS.iconst X56.here hx rfl (hb hby at_230) k) ?_
    show own_R p.tables e below P (T56.setTop (mkF m 231 #[.val (.long p0), .second, .val (.long p1), .second, .val (.int p2), .val (.int p3), .val (.int p4), .val (.int rr), .val (.ref b20), .val (.ref b22), .val (.ref b39)] [(.int (1 : Int32)), (.ref b22), (.long (p1 ||| (own_bit p2 (1 : Int32)))), (.long ((p1 ||| own_bit p2 (1 : Int32)) ||| own_bit rr (1 : Int32)))]))
    refine own_fwd (own_ldJ X56 hx hZ e56 A23__x56 (j := (1 : Int32)) 1 (by decide) (by decide) (g := (mkF m 231 #[.val (.long p0), .second, .val (.long p1), .second, .val (.int p2), .val (.int p3), .val (.int p4), .val (.int rr), .val (.ref b20), .val (.ref b22), .val (.ref b39)] [(.int (1 : Int32)), (.ref b22), (.long (p1 ||| (own_bit p2 (1 : Int32)))), (.long ((p1 ||| own_bit p2 (1 : Int32)) ||| own_bit rr (1 : Int32)))])) rfl rfl (hb hby at_231)) ?_
    show own_R p.tables e below P (T56.setTop (mkF m 232 #[.val (.long p0), .second, .val (.long p1), .second, .val (.int p2), .val (.int p3), .val (.int p4), .val (.int rr), .val (.ref b20), .val (.ref b22), .val (.ref b39)] [(.long ((own_two (own_bit rr (0 : Int32)) (own_bit rr (1 : Int32))) 1)), (.long (p1 ||| (own_bit p2 (1 : Int32)))), (.long ((p1 ||| own_bit p2 (1 : Int32)) ||| own_bit rr (1 : Int32)))]))
    have hv63 : ((own_two (own_bit rr (0 : Int32)) (own_bit rr (1 : Int32))) 1) = (own_bit rr (1 : Int32)) := (own_two_1 _ _)
    rw [hv63]
    show own_R p.tables e below P (T56.setTop (mkF m 232 #[.val (.long p0), .second, .val (.long p1), .second, .val (.int p2), .val (.int p3), .val (.int p4), .val (.int rr), .val (.ref b20), .val (.ref b22), .val (.ref b39)] [(.long (own_bit rr (1 : Int32))), (.long (p1 ||| (own_bit p2 (1 : Int32)))), (.long ((p1 ||| own_bit p2 (1 : Int32)) ||| own_bit rr (1 : Int32)))]))
    refine own_fwd (fun t k => XS.lor X56.here hx rfl (hb hby at_232) rfl k) ?_
    show own_R p.tables e below P (T56.setTop (mkF m 233 #[.val (.long p0), .second, .val (.long p1), .second, .val (.int p2), .val (.int p3), .val (.int p4), .val (.int rr), .val (.ref b20), .val (.ref b22), .val (.ref b39)] [(.long ((p1 ||| (own_bit p2 (1 : Int32))) ||| (own_bit rr (1 : Int32)))), (.long ((p1 ||| own_bit p2 (1 : Int32)) ||| own_bit rr (1 : Int32)))]))
    refine own_fwd (fun t k => XS.lcmp X56.here hx rfl (hb hby at_233) rfl k) ?_
    show own_R p.tables e below P (T56.setTop (mkF m 234 #[.val (.long p0), .second, .val (.long p1), .second, .val (.int p2), .val (.int p3), .val (.int p4), .val (.int rr), .val (.ref b20), .val (.ref b22), .val (.ref b39)] [(.int (lcmpW ((p1 ||| own_bit p2 (1 : Int32)) ||| own_bit rr (1 : Int32)) ((p1 ||| (own_bit p2 (1 : Int32))) ||| (own_bit rr (1 : Int32)))))]))
    have hc64 : (lcmpW ((p1 ||| own_bit p2 (1 : Int32)) ||| own_bit rr (1 : Int32)) ((p1 ||| (own_bit p2 (1 : Int32))) ||| (own_bit rr (1 : Int32)))) = (0 : Int32) := (lw_eq _ _).mpr rfl
    refine own_fwd (fun t k => XS.ifNo X56.here hx rfl (hb hby at_234) rfl ((if0 _ _).trans (teq hc64).2) k) ?_
    show own_R p.tables e below P (T56.setTop (mkF m 237 #[.val (.long p0), .second, .val (.long p1), .second, .val (.int p2), .val (.int p3), .val (.int p4), .val (.int rr), .val (.ref b20), .val (.ref b22), .val (.ref b39)] []))
    refine own_fwd (fun t k => XS.iconst X56.here hx rfl (hb hby at_237) k) ?_
    show own_R p.tables e below P (T56.setTop (mkF m 238 #[.val (.long p0), .second, .val (.long p1), .second, .val (.int p2), .val (.int p3), .val (.int p4), .val (.int rr), .val (.ref b20), .val (.ref b22), .val (.ref b39)] [(.int (1 : Int32))]))
    refine own_fwd (fun t k => XS.goto X56.here hx rfl (pc0 := 238) (pc' := 242) rfl (hb hby at_238) (by decide) (by decide) k) ?_
    show own_R p.tables e below P (T56.setTop (mkF m 242 #[.val (.long p0), .second, .val (.long p1), .second, .val (.int p2), .val (.int p3), .val (.int p4), .val (.int rr), .val (.ref b20), .val (.ref b22), .val (.ref b39)] [(.int (1 : Int32))]))
    obtain ⟨fs65, hr65, hrun65, hended65, hW65, hsame65⟩ := X56.leave (v := some (.int (1 : Int32))) (fun h => by rw [Bd.returns] at h; cases h)
    refine ⟨_, _, X56.ireturnOut hx (w := (1 : Int32)) Bd.returns rfl (by simp) (hb hby at_242) hr65, fin _ _ ⟨hrun65, hended65, _, _, rfl, ?_, ⟨_, rfl⟩, hW65, hsame65.mono (by decide) (by decide)⟩⟩
    show own_Qlaw Z p0 p1 p2 p3 p4 h0 n0 _ T56.heap _
    rw [e56]
    exact ⟨rfl, N56⟩
  · refine own_fwd (fun t k => XS.icmpYes X30.here hx rfl (pc0 := 74) (pc' := 103) rfl (hb hby at_74) rfl (feq hc32).2 (by decide) (by decide) k) ?_
    show own_R p.tables e below P (T30.setTop (mkF m 103 #[.val (.long p0), .second, .val (.long p1), .second, .val (.int p2), .val (.int p3), .val (.int p4), .val (.int rr), .val (.ref b20), .val (.ref b22), .unset] []))
    refine own_fwd (fun t k => XS.iconst X30.here hx rfl (hb hby at_103) k) ?_
    show own_R p.tables e below P (T30.setTop (mkF m 104 #[.val (.long p0), .second, .val (.long p1), .second, .val (.int p2), .val (.int p3), .val (.int p4), .val (.int rr), .val (.ref b20), .val (.ref b22), .unset] [(.int (2 : Int32))]))
    obtain ⟨T66, h66, b66, g66, X66, e66, E66, A66, B66, st66⟩ := own_newA (n := 2) X30 hx hZ (hw _ (List.mem_of_getElem? (i := 0) rfl)) e30 (z := (2 : Int32)) (by decide) (cap := 2) (by decide) (g := (mkF m 104 #[.val (.long p0), .second, .val (.long p1), .second, .val (.int p2), .val (.int p3), .val (.int p4), .val (.int rr), .val (.ref b20), .val (.ref b22), .unset] [(.int (2 : Int32))])) rfl (hb hby at_104) rfl (by decide) (by decide) (by decide) (ad := "[J") (by decide)
    have ne66_b20 : b20 ≠ b66 := Nat.ne_of_lt (by rw [g66]; exact B20_x23.lt)
    have ne66_b22 : b22 ≠ b66 := Nat.ne_of_lt (by rw [g66]; exact B22_x23.lt)
    have ge_b66 : n0 ≤ b66 := by rw [g66]; exact Z23
    have sz_b66 : h0.size ≤ b66 := by rw [g66]; exact Y23
    have B20_x66 := B20_x23.ext E66
    have A21__x66 := A21__x23.ext E66
    have B22_x66 := B22_x23.ext E66
    have A23__x66 := A23_.ext E66
    have A66_ : own_AJ Z h66 b66 2 (fun _ => (0 : Int64)) := A66
    have Z66 : n0 ≤ h66.size := Nat.le_trans Z23 E66.1
    have Y66 : h0.size ≤ h66.size := Nat.le_trans Y23 E66.1
    refine own_fwd st66 ?_
    show own_R p.tables e below P (T66.setTop (mkF m 106 #[.val (.long p0), .second, .val (.long p1), .second, .val (.int p2), .val (.int p3), .val (.int p4), .val (.int rr), .val (.ref b20), .val (.ref b22), .unset] [(.ref b66)]))
    refine own_fwd (fun t k => XS.astore X66.here hx rfl (hb hby at_106) rfl rfl (l' := #[.val (.long p0), .second, .val (.long p1), .second, .val (.int p2), .val (.int p3), .val (.int p4), .val (.int rr), .val (.ref b20), .val (.ref b22), .val (.ref b66)]) rfl k) ?_
    show own_R p.tables e below P (T66.setTop (mkF m 108 #[.val (.long p0), .second, .val (.long p1), .second, .val (.int p2), .val (.int p3), .val (.int p4), .val (.int rr), .val (.ref b20), .val (.ref b22), .val (.ref b66)] []))
    refine own_fwd (fun t k => XS.aload X66.here hx rfl (hb hby at_108) rfl rfl k) ?_
    show own_R p.tables e below P (T66.setTop (mkF m 110 #[.val (.long p0), .second, .val (.long p1), .second, .val (.int p2), .val (.int p3), .val (.int p4), .val (.int rr), .val (.ref b20), .val (.ref b22), .val (.ref b66)] [(.ref b66)]))
    refine own_fwd (fun t k => XS.iconst X66.here hx rfl (hb hby at_110) k) ?_
    show own_R p.tables e below P (T66.setTop (mkF m 111 #[.val (.long p0), .second, .val (.long p1), .second, .val (.int p2), .val (.int p3), .val (.int p4), .val (.int rr), .val (.ref b20), .val (.ref b22), .val (.ref b66)] [(.int (0 : Int32)), (.ref b66)]))
    refine own_fwd (fun t k => XS.lloadN X66.here hx rfl (hb hby at_111) rfl k) ?_
    show own_R p.tables e below P (T66.setTop (mkF m 112 #[.val (.long p0), .second, .val (.long p1), .second, .val (.int p2), .val (.int p3), .val (.int p4), .val (.int rr), .val (.ref b20), .val (.ref b22), .val (.ref b66)] [(.long p0), (.int (0 : Int32)), (.ref b66)]))
    obtain ⟨T67, h67, X67, e67, W67, A67_, st67⟩ := own_stJ X66 hx hZ e66 A66_ (j := (0 : Int32)) 0 (by decide) (by decide) (g := (mkF m 112 #[.val (.long p0), .second, .val (.long p1), .second, .val (.int p2), .val (.int p3), .val (.int p4), .val (.int rr), .val (.ref b20), .val (.ref b22), .val (.ref b66)] [(.long p0), (.int (0 : Int32)), (.ref b66)])) rfl rfl (hb hby at_112)
    have B20_x67 := B20_x66.wr W67
    have A21__x67 := A21__x66.other W67 ne66_b20
    have B22_x67 := B22_x66.wr W67
    have A23__x67 := A23__x66.other W67 ne66_b22
    have B66_x67 := B66.wr W67
    have N67 := Fr.snoc X67 N30 ge_b66
    have Z67 : n0 ≤ h67.size := by rw [W67.size]; exact Z66
    have Y67 : h0.size ≤ h67.size := by rw [W67.size]; exact Y66
    refine own_fwd st67 ?_
    show own_R p.tables e below P (T67.setTop (mkF m 113 #[.val (.long p0), .second, .val (.long p1), .second, .val (.int p2), .val (.int p3), .val (.int p4), .val (.int rr), .val (.ref b20), .val (.ref b22), .val (.ref b66)] []))
    refine own_fwd (fun t k => XS.aload X67.here hx rfl (hb hby at_113) rfl rfl k) ?_
    show own_R p.tables e below P (T67.setTop (mkF m 115 #[.val (.long p0), .second, .val (.long p1), .second, .val (.int p2), .val (.int p3), .val (.int p4), .val (.int rr), .val (.ref b20), .val (.ref b22), .val (.ref b66)] [(.ref b66)]))
    refine own_fwd (fun t k => XS.iconst X67.here hx rfl (hb hby at_115) k) ?_
    show own_R p.tables e below P (T67.setTop (mkF m 116 #[.val (.long p0), .second, .val (.long p1), .second, .val (.int p2), .val (.int p3), .val (.int p4), .val (.int rr), .val (.ref b20), .val (.ref b22), .val (.ref b66)] [(.int (1 : Int32)), (.ref b66)]))
    refine own_fwd (fun t k => XS.lloadN X67.here hx rfl (hb hby at_116) rfl k) ?_
    show own_R p.tables e below P (T67.setTop (mkF m 117 #[.val (.long p0), .second, .val (.long p1), .second, .val (.int p2), .val (.int p3), .val (.int p4), .val (.int rr), .val (.ref b20), .val (.ref b22), .val (.ref b66)] [(.long p1), (.int (1 : Int32)), (.ref b66)]))
    obtain ⟨T68, h68, X68, e68, W68, A68_, st68⟩ := own_stJ X67 hx hZ e67 A67_ (j := (1 : Int32)) 1 (by decide) (by decide) (g := (mkF m 117 #[.val (.long p0), .second, .val (.long p1), .second, .val (.int p2), .val (.int p3), .val (.int p4), .val (.int rr), .val (.ref b20), .val (.ref b22), .val (.ref b66)] [(.long p1), (.int (1 : Int32)), (.ref b66)])) rfl rfl (hb hby at_117)
    have B20_x68 := B20_x67.wr W68
    have A21__x68 := A21__x67.other W68 ne66_b20
    have B22_x68 := B22_x67.wr W68
    have A23__x68 := A23__x67.other W68 ne66_b22
    have B66_x68 := B66_x67.wr W68
    have N68 := Fr.snoc X68 N67 ge_b66
    have Z68 : n0 ≤ h68.size := by rw [W68.size]; exact Z67
    have Y68 : h0.size ≤ h68.size := by rw [W68.size]; exact Y67
    refine own_fwd st68 ?_
    show own_R p.tables e below P (T68.setTop (mkF m 118 #[.val (.long p0), .second, .val (.long p1), .second, .val (.int p2), .val (.int p3), .val (.int p4), .val (.int rr), .val (.ref b20), .val (.ref b22), .val (.ref b66)] []))
    refine own_fwd (fun t k => XS.aload X68.here hx rfl (hb hby at_118) rfl rfl k) ?_
    show own_R p.tables e below P (T68.setTop (mkF m 120 #[.val (.long p0), .second, .val (.long p1), .second, .val (.int p2), .val (.int p3), .val (.int p4), .val (.int rr), .val (.ref b20), .val (.ref b22), .val (.ref b66)] [(.ref b66)]))
    refine own_fwd (fun t k => XS.iload X68.here hx rfl (hb hby at_120) rfl k) ?_
    show own_R p.tables e below P (T68.setTop (mkF m 122 #[.val (.long p0), .second, .val (.long p1), .second, .val (.int p2), .val (.int p3), .val (.int p4), .val (.int rr), .val (.ref b20), .val (.ref b22), .val (.ref b66)] [(.int p2), (.ref b66)]))
    obtain ⟨_, _, ⟨T69, L69, k69, n69⟩, -, X69, ⟨Lc69, hQ69, l69, y69, z69⟩, st69⟩ := Jvm.LawKit.callS X68 hx (y := (⟨"com/example/tracefold/tracefold/Conflicts", "mark", "([JI)V"⟩ : MethodName)) hown (mvT hZ (hw _ (List.mem_of_getElem? (i := 1) rfl))) (mvT hZ (hw _ (List.mem_of_getElem? (i := 2) rfl))) (mvT hZ (hw _ (List.mem_of_getElem? (i := 3) rfl))) (mvT hZ (hw _ (List.mem_of_getElem? (i := 4) rfl))) (by decide) (backOf (W := 0) (own_rm1 l Z a0 hw [] b66 p2 p0 p1 h68 n0 Z68 (A68_.cong fun i hi => by match i, hi with
          | 0, _ => rfl
          | 1, _ => rfl) ge_b66) hZ (hw _ (List.mem_of_getElem? (i := 4) rfl)) (hw _ (List.mem_of_getElem? (i := 3) rfl)) (by decide) (by decide)) (g := (mkF m 122 #[.val (.long p0), .second, .val (.long p1), .second, .val (.int p2), .val (.int p3), .val (.int p4), .val (.int rr), .val (.ref b20), .val (.ref b22), .val (.ref b66)] [(.int p2), (.ref b66)])) rfl (by rw [hml]; rfl) (argsL := [(.ref b66), (.int p2)]) (rest := []) (lenOf own_pd1 rfl) rfl (by show 2 * 0 + _ ≤ _; exact Nat.le_of_eq rfl) (hb hby at_122) (fun _ _ => ⟨rfl, e68, (by decide : 3 + 0 ≤ _), (by decide : 6 + 0 ≤ _)⟩)
    dsimp only [Pt.U, Pt.locs, Pt.cells, Pt.slots] at X69 l69 y69 z69 st69 hQ69
    subst l69 y69 z69
    obtain ⟨h69, e69⟩ : ∃ z, T69.heap = z := ⟨_, rfl⟩
    rw [e69] at hQ69
    obtain ⟨hq69, N69q, K69, A69_⟩ := hQ69
    subst hq69
    have N69 := Fr.app N68 N69q
    have B20_x69 := B20_x68.keep K69
    have A21__x69 := A21__x68.keep K69 (ninS ne66_b20 nin0)
    have B22_x69 := B22_x68.keep K69
    have A23__x69 := A23__x68.keep K69 (ninS ne66_b22 nin0)
    have B66_x69 := B66_x68.keep K69
    have Z69 : n0 ≤ h69.size := Nat.le_trans Z68 K69.1
    have Y69 : h0.size ≤ h69.size := Nat.le_trans Y68 K69.1
    refine own_fwd st69 ?_
    show own_R p.tables e below P (T69.setTop (mkF m 125 #[.val (.long p0), .second, .val (.long p1), .second, .val (.int p2), .val (.int p3), .val (.int p4), .val (.int rr), .val (.ref b20), .val (.ref b22), .val (.ref b66)] []))
    refine own_fwd (fun t k => XS.aload X69.here hx rfl (hb hby at_125) rfl rfl k) ?_
    show own_R p.tables e below P (T69.setTop (mkF m 127 #[.val (.long p0), .second, .val (.long p1), .second, .val (.int p2), .val (.int p3), .val (.int p4), .val (.int rr), .val (.ref b20), .val (.ref b22), .val (.ref b66)] [(.ref b66)]))
    refine own_fwd (fun t k => XS.iconst X69.here hx rfl (hb hby at_127) k) ?_
    show own_R p.tables e below P (T69.setTop (mkF m 128 #[.val (.long p0), .second, .val (.long p1), .second, .val (.int p2), .val (.int p3), .val (.int p4), .val (.int rr), .val (.ref b20), .val (.ref b22), .val (.ref b66)] [(.int (0 : Int32)), (.ref b66)]))
    refine own_fwd (own_ldJ X69 hx hZ e69 A69_ (j := (0 : Int32)) 0 (by decide) (by decide) (g := (mkF m 128 #[.val (.long p0), .second, .val (.long p1), .second, .val (.int p2), .val (.int p3), .val (.int p4), .val (.int rr), .val (.ref b20), .val (.ref b22), .val (.ref b66)] [(.int (0 : Int32)), (.ref b66)])) rfl rfl (hb hby at_128)) ?_
    show own_R p.tables e below P (T69.setTop (mkF m 129 #[.val (.long p0), .second, .val (.long p1), .second, .val (.int p2), .val (.int p3), .val (.int p4), .val (.int rr), .val (.ref b20), .val (.ref b22), .val (.ref b66)] [(.long ((own_two (p0 ||| own_bit p2 (0 : Int32)) (p1 ||| own_bit p2 (1 : Int32))) 0))]))
    have hv70 : ((own_two (p0 ||| own_bit p2 (0 : Int32)) (p1 ||| own_bit p2 (1 : Int32))) 0) = (p0 ||| own_bit p2 (0 : Int32)) := (own_two_0 _ _)
    rw [hv70]
    show own_R p.tables e below P (T69.setTop (mkF m 129 #[.val (.long p0), .second, .val (.long p1), .second, .val (.int p2), .val (.int p3), .val (.int p4), .val (.int rr), .val (.ref b20), .val (.ref b22), .val (.ref b66)] [(.long (p0 ||| own_bit p2 (0 : Int32)))]))
    refine own_fwd (fun t k => XS.lloadN X69.here hx rfl (hb hby at_129) rfl k) ?_
    show own_R p.tables e below P (T69.setTop (mkF m 130 #[.val (.long p0), .second, .val (.long p1), .second, .val (.int p2), .val (.int p3), .val (.int p4), .val (.int rr), .val (.ref b20), .val (.ref b22), .val (.ref b66)] [(.long p0), (.long (p0 ||| own_bit p2 (0 : Int32)))]))
    refine own_fwd (fun t k => XS.aload X69.here hx rfl (hb hby at_130) rfl rfl k) ?_
    show own_R p.tables e below P (T69.setTop (mkF m 132 #[.val (.long p0), .second, .val (.long p1), .second, .val (.int p2), .val (.int p3), .val (.int p4), .val (.int rr), .val (.ref b20), .val (.ref b22), .val (.ref b66)] [(.ref b20), (.long p0), (.long (p0 ||| own_bit p2 (0 : Int32)))]))
    refine own_fwd (fun t k => XS.iconst X69.here hx rfl (hb hby at_132) k) ?_
    show own_R p.tables e below P (T69.setTop (mkF m 133 #[.val (.long p0), .second, .val (.long p1), .second, .val (.int p2), .val (.int p3), .val (.int p4), .val (.int rr), .val (.ref b20), .val (.ref b22), .val (.ref b66)] [(.int (0 : Int32)), (.ref b20), (.long p0), (.long (p0 ||| own_bit p2 (0 : Int32)))]))
    refine own_fwd (own_ldJ X69 hx hZ e69 A21__x69 (j := (0 : Int32)) 0 (by decide) (by decide) (g := (mkF m 133 #[.val (.long p0), .second, .val (.long p1), .second, .val (.int p2), .val (.int p3), .val (.int p4), .val (.int rr), .val (.ref b20), .val (.ref b22), .val (.ref b66)] [(.int (0 : Int32)), (.ref b20), (.long p0), (.long (p0 ||| own_bit p2 (0 : Int32)))])) rfl rfl (hb hby at_133)) ?_
    show own_R p.tables e below P (T69.setTop (mkF m 134 #[.val (.long p0), .second, .val (.long p1), .second, .val (.int p2), .val (.int p3), .val (.int p4), .val (.int rr), .val (.ref b20), .val (.ref b22), .val (.ref b66)] [(.long ((own_two (own_bit p2 (0 : Int32)) (own_bit p2 (1 : Int32))) 0)), (.long p0), (.long (p0 ||| own_bit p2 (0 : Int32)))]))
    have hv71 : ((own_two (own_bit p2 (0 : Int32)) (own_bit p2 (1 : Int32))) 0) = (own_bit p2 (0 : Int32)) := (own_two_0 _ _)
    rw [hv71]
    show own_R p.tables e below P (T69.setTop (mkF m 134 #[.val (.long p0), .second, .val (.long p1), .second, .val (.int p2), .val (.int p3), .val (.int p4), .val (.int rr), .val (.ref b20), .val (.ref b22), .val (.ref b66)] [(.long (own_bit p2 (0 : Int32))), (.long p0), (.long (p0 ||| own_bit p2 (0 : Int32)))]))
    refine own_fwd (fun t k => XS.lor X69.here hx rfl (hb hby at_134) rfl k) ?_
    show own_R p.tables e below P (T69.setTop (mkF m 135 #[.val (.long p0), .second, .val (.long p1), .second, .val (.int p2), .val (.int p3), .val (.int p4), .val (.int rr), .val (.ref b20), .val (.ref b22), .val (.ref b66)] [(.long (p0 ||| (own_bit p2 (0 : Int32)))), (.long (p0 ||| own_bit p2 (0 : Int32)))]))
    refine own_fwd (fun t k => XS.lcmp X69.here hx rfl (hb hby at_135) rfl k) ?_
    show own_R p.tables e below P (T69.setTop (mkF m 136 #[.val (.long p0), .second, .val (.long p1), .second, .val (.int p2), .val (.int p3), .val (.int p4), .val (.int rr), .val (.ref b20), .val (.ref b22), .val (.ref b66)] [(.int (lcmpW (p0 ||| own_bit p2 (0 : Int32)) (p0 ||| (own_bit p2 (0 : Int32)))))]))
    have hc72 : (lcmpW (p0 ||| own_bit p2 (0 : Int32)) (p0 ||| (own_bit p2 (0 : Int32)))) = (0 : Int32) := (lw_eq _ _).mpr rfl
    refine own_fwd (fun t k => XS.ifNo X69.here hx rfl (hb hby at_136) rfl ((if0 _ _).trans (teq hc72).2) k) ?_
    show own_R p.tables e below P (T69.setTop (mkF m 139 #[.val (.long p0), .second, .val (.long p1), .second, .val (.int p2), .val (.int p3), .val (.int p4), .val (.int rr), .val (.ref b20), .val (.ref b22), .val (.ref b66)] []))
    refine own_fwd (fun t k => XS.aload X69.here hx rfl (hb hby at_139) rfl rfl k) ?_
    show own_R p.tables e below P (T69.setTop (mkF m 141 #[.val (.long p0), .second, .val (.long p1), .second, .val (.int p2), .val (.int p3), .val (.int p4), .val (.int rr), .val (.ref b20), .val (.ref b22), .val (.ref b66)] [(.ref b66)]))
    refine own_fwd (fun t k => XS.iconst X69.here hx rfl (hb hby at_141) k) ?_
    show own_R p.tables e below P (T69.setTop (mkF m 142 #[.val (.long p0), .second, .val (.long p1), .second, .val (.int p2), .val (.int p3), .val (.int p4), .val (.int rr), .val (.ref b20), .val (.ref b22), .val (.ref b66)] [(.int (1 : Int32)), (.ref b66)]))
    refine own_fwd (own_ldJ X69 hx hZ e69 A69_ (j := (1 : Int32)) 1 (by decide) (by decide) (g := (mkF m 142 #[.val (.long p0), .second, .val (.long p1), .second, .val (.int p2), .val (.int p3), .val (.int p4), .val (.int rr), .val (.ref b20), .val (.ref b22), .val (.ref b66)] [(.int (1 : Int32)), (.ref b66)])) rfl rfl (hb hby at_142)) ?_
    show own_R p.tables e below P (T69.setTop (mkF m 143 #[.val (.long p0), .second, .val (.long p1), .second, .val (.int p2), .val (.int p3), .val (.int p4), .val (.int rr), .val (.ref b20), .val (.ref b22), .val (.ref b66)] [(.long ((own_two (p0 ||| own_bit p2 (0 : Int32)) (p1 ||| own_bit p2 (1 : Int32))) 1))]))
    have hv73 : ((own_two (p0 ||| own_bit p2 (0 : Int32)) (p1 ||| own_bit p2 (1 : Int32))) 1) = (p1 ||| own_bit p2 (1 : Int32)) := (own_two_1 _ _)
    rw [hv73]
    show own_R p.tables e below P (T69.setTop (mkF m 143 #[.val (.long p0), .second, .val (.long p1), .second, .val (.int p2), .val (.int p3), .val (.int p4), .val (.int rr), .val (.ref b20), .val (.ref b22), .val (.ref b66)] [(.long (p1 ||| own_bit p2 (1 : Int32)))]))
    refine own_fwd (fun t k => XS.lloadN X69.here hx rfl (hb hby at_143) rfl k) ?_
    show own_R p.tables e below P (T69.setTop (mkF m 144 #[.val (.long p0), .second, .val (.long p1), .second, .val (.int p2), .val (.int p3), .val (.int p4), .val (.int rr), .val (.ref b20), .val (.ref b22), .val (.ref b66)] [(.long p1), (.long (p1 ||| own_bit p2 (1 : Int32)))]))
    refine own_fwd (fun t k => XS.aload X69.here hx rfl (hb hby at_144) rfl rfl k) ?_
    show own_R p.tables e below P (T69.setTop (mkF m 146 #[.val (.long p0), .second, .val (.long p1), .second, .val (.int p2), .val (.int p3), .val (.int p4), .val (.int rr), .val (.ref b20), .val (.ref b22), .val (.ref b66)] [(.ref b20), (.long p1), (.long (p1 ||| own_bit p2 (1 : Int32)))]))
    refine own_fwd (fun t k => XS.iconst X69.here hx rfl (hb hby at_146) k) ?_
    show own_R p.tables e below P (T69.setTop (mkF m 147 #[.val (.long p0), .second, .val (.long p1), .second, .val (.int p2), .val (.int p3), .val (.int p4), .val (.int rr), .val (.ref b20), .val (.ref b22), .val (.ref b66)] [(.int (1 : Int32)), (.ref b20), (.long p1), (.long (p1 ||| own_bit p2 (1 : Int32)))]))
    refine own_fwd (own_ldJ X69 hx hZ e69 A21__x69 (j := (1 : Int32)) 1 (by decide) (by decide) (g := (mkF m 147 #[.val (.long p0), .second, .val (.long p1), .second, .val (.int p2), .val (.int p3), .val (.int p4), .val (.int rr), .val (.ref b20), .val (.ref b22), .val (.ref b66)] [(.int (1 : Int32)), (.ref b20), (.long p1), (.long (p1 ||| own_bit p2 (1 : Int32)))])) rfl rfl (hb hby at_147)) ?_
    show own_R p.tables e below P (T69.setTop (mkF m 148 #[.val (.long p0), .second, .val (.long p1), .second, .val (.int p2), .val (.int p3), .val (.int p4), .val (.int rr), .val (.ref b20), .val (.ref b22), .val (.ref b66)] [(.long ((own_two (own_bit p2 (0 : Int32)) (own_bit p2 (1 : Int32))) 1)), (.long p1), (.long (p1 ||| own_bit p2 (1 : Int32)))]))
    have hv74 : ((own_two (own_bit p2 (0 : Int32)) (own_bit p2 (1 : Int32))) 1) = (own_bit p2 (1 : Int32)) := (own_two_1 _ _)
    rw [hv74]
    show own_R p.tables e below P (T69.setTop (mkF m 148 #[.val (.long p0), .second, .val (.long p1), .second, .val (.int p2), .val (.int p3), .val (.int p4), .val (.int rr), .val (.ref b20), .val (.ref b22), .val (.ref b66)] [(.long (own_bit p2 (1 : Int32))), (.long p1), (.long (p1 ||| own_bit p2 (1 : Int32)))]))
    refine own_fwd (fun t k => XS.lor X69.here hx rfl (hb hby at_148) rfl k) ?_
    show own_R p.tables e below P (T69.setTop (mkF m 149 #[.val (.long p0), .second, .val (.long p1), .second, .val (.int p2), .val (.int p3), .val (.int p4), .val (.int rr), .val (.ref b20), .val (.ref b22), .val (.ref b66)] [(.long (p1 ||| (own_bit p2 (1 : Int32)))), (.long (p1 ||| own_bit p2 (1 : Int32)))]))
    refine own_fwd (fun t k => XS.lcmp X69.here hx rfl (hb hby at_149) rfl k) ?_
    show own_R p.tables e below P (T69.setTop (mkF m 150 #[.val (.long p0), .second, .val (.long p1), .second, .val (.int p2), .val (.int p3), .val (.int p4), .val (.int rr), .val (.ref b20), .val (.ref b22), .val (.ref b66)] [(.int (lcmpW (p1 ||| own_bit p2 (1 : Int32)) (p1 ||| (own_bit p2 (1 : Int32)))))]))
    have hc75 : (lcmpW (p1 ||| own_bit p2 (1 : Int32)) (p1 ||| (own_bit p2 (1 : Int32)))) = (0 : Int32) := (lw_eq _ _).mpr rfl
    refine own_fwd (fun t k => XS.ifYes X69.here hx rfl (pc0 := 150) (pc' := 155) rfl (hb hby at_150) rfl ((if0 _ _).trans (teq hc75).1) (by decide) (by decide) k) ?_
    show own_R p.tables e below P (T69.setTop (mkF m 155 #[.val (.long p0), .second, .val (.long p1), .second, .val (.int p2), .val (.int p3), .val (.int p4), .val (.int rr), .val (.ref b20), .val (.ref b22), .val (.ref b66)] []))
    refine own_fwd (fun t k => XS.aload X69.here hx rfl (hb hby at_155) rfl rfl k) ?_
    show own_R p.tables e below P (T69.setTop (mkF m 157 #[.val (.long p0), .second, .val (.long p1), .second, .val (.int p2), .val (.int p3), .val (.int p4), .val (.int rr), .val (.ref b20), .val (.ref b22), .val (.ref b66)] [(.ref b66)]))
    refine own_fwd (fun t k => XS.iload X69.here hx rfl (hb hby at_157) rfl k) ?_
    show own_R p.tables e below P (T69.setTop (mkF m 159 #[.val (.long p0), .second, .val (.long p1), .second, .val (.int p2), .val (.int p3), .val (.int p4), .val (.int rr), .val (.ref b20), .val (.ref b22), .val (.ref b66)] [(.int p2), (.ref b66)]))
    obtain ⟨_, _, ⟨T76, L76, k76, n76⟩, -, X76, ⟨Lc76, hQ76, l76, y76, z76⟩, st76⟩ := Jvm.LawKit.callS X69 hx (y := (⟨"com/example/tracefold/tracefold/Conflicts", "mark", "([JI)V"⟩ : MethodName)) hown (mvT hZ (hw _ (List.mem_of_getElem? (i := 1) rfl))) (mvT hZ (hw _ (List.mem_of_getElem? (i := 2) rfl))) (mvT hZ (hw _ (List.mem_of_getElem? (i := 3) rfl))) (mvT hZ (hw _ (List.mem_of_getElem? (i := 4) rfl))) (by decide) (backOf (W := 0) (own_rm1 l Z a0 hw [] b66 p2 (p0 ||| own_bit p2 (0 : Int32)) (p1 ||| own_bit p2 (1 : Int32)) h69 n0 Z69 (A69_.cong fun i hi => by match i, hi with
          | 0, _ => rfl
          | 1, _ => rfl) ge_b66) hZ (hw _ (List.mem_of_getElem? (i := 4) rfl)) (hw _ (List.mem_of_getElem? (i := 3) rfl)) (by decide) (by decide)) (g := (mkF m 159 #[.val (.long p0), .second, .val (.long p1), .second, .val (.int p2), .val (.int p3), .val (.int p4), .val (.int rr), .val (.ref b20), .val (.ref b22), .val (.ref b66)] [(.int p2), (.ref b66)])) rfl (by rw [hml]; rfl) (argsL := [(.ref b66), (.int p2)]) (rest := []) (lenOf own_pd1 rfl) rfl (by show 2 * 0 + _ ≤ _; exact Nat.le_of_eq rfl) (hb hby at_159) (fun _ _ => ⟨rfl, e69, (by decide : 3 + 0 ≤ _), (by decide : 6 + 0 ≤ _)⟩)
    dsimp only [Pt.U, Pt.locs, Pt.cells, Pt.slots] at X76 l76 y76 z76 st76 hQ76
    subst l76 y76 z76
    obtain ⟨h76, e76⟩ : ∃ z, T76.heap = z := ⟨_, rfl⟩
    rw [e76] at hQ76
    obtain ⟨hq76, N76q, K76, A76_⟩ := hQ76
    subst hq76
    have N76 := Fr.app N69 N76q
    simp only [Int64.or_assoc, Int64.or_self] at A76_
    have B20_x76 := B20_x69.keep K76
    have A21__x76 := A21__x69.keep K76 (ninS ne66_b20 nin0)
    have B22_x76 := B22_x69.keep K76
    have A23__x76 := A23__x69.keep K76 (ninS ne66_b22 nin0)
    have B66_x76 := B66_x69.keep K76
    have Z76 : n0 ≤ h76.size := Nat.le_trans Z69 K76.1
    have Y76 : h0.size ≤ h76.size := Nat.le_trans Y69 K76.1
    refine own_fwd st76 ?_
    show own_R p.tables e below P (T76.setTop (mkF m 162 #[.val (.long p0), .second, .val (.long p1), .second, .val (.int p2), .val (.int p3), .val (.int p4), .val (.int rr), .val (.ref b20), .val (.ref b22), .val (.ref b66)] []))
    refine own_fwd (fun t k => XS.aload X76.here hx rfl (hb hby at_162) rfl rfl k) ?_
    show own_R p.tables e below P (T76.setTop (mkF m 164 #[.val (.long p0), .second, .val (.long p1), .second, .val (.int p2), .val (.int p3), .val (.int p4), .val (.int rr), .val (.ref b20), .val (.ref b22), .val (.ref b66)] [(.ref b66)]))
    refine own_fwd (fun t k => XS.iconst X76.here hx rfl (hb hby at_164) k) ?_
    show own_R p.tables e below P (T76.setTop (mkF m 165 #[.val (.long p0), .second, .val (.long p1), .second, .val (.int p2), .val (.int p3), .val (.int p4), .val (.int rr), .val (.ref b20), .val (.ref b22), .val (.ref b66)] [(.int (0 : Int32)), (.ref b66)]))
    refine own_fwd (own_ldJ X76 hx hZ e76 A76_ (j := (0 : Int32)) 0 (by decide) (by decide) (g := (mkF m 165 #[.val (.long p0), .second, .val (.long p1), .second, .val (.int p2), .val (.int p3), .val (.int p4), .val (.int rr), .val (.ref b20), .val (.ref b22), .val (.ref b66)] [(.int (0 : Int32)), (.ref b66)])) rfl rfl (hb hby at_165)) ?_
    show own_R p.tables e below P (T76.setTop (mkF m 166 #[.val (.long p0), .second, .val (.long p1), .second, .val (.int p2), .val (.int p3), .val (.int p4), .val (.int rr), .val (.ref b20), .val (.ref b22), .val (.ref b66)] [(.long ((own_two (p0 ||| own_bit p2 (0 : Int32)) (p1 ||| own_bit p2 (1 : Int32))) 0))]))
    have hv77 : ((own_two (p0 ||| own_bit p2 (0 : Int32)) (p1 ||| own_bit p2 (1 : Int32))) 0) = (p0 ||| own_bit p2 (0 : Int32)) := (own_two_0 _ _)
    rw [hv77]
    show own_R p.tables e below P (T76.setTop (mkF m 166 #[.val (.long p0), .second, .val (.long p1), .second, .val (.int p2), .val (.int p3), .val (.int p4), .val (.int rr), .val (.ref b20), .val (.ref b22), .val (.ref b66)] [(.long (p0 ||| own_bit p2 (0 : Int32)))]))
    refine own_fwd (fun t k => XS.lloadN X76.here hx rfl (hb hby at_166) rfl k) ?_
    show own_R p.tables e below P (T76.setTop (mkF m 167 #[.val (.long p0), .second, .val (.long p1), .second, .val (.int p2), .val (.int p3), .val (.int p4), .val (.int rr), .val (.ref b20), .val (.ref b22), .val (.ref b66)] [(.long p0), (.long (p0 ||| own_bit p2 (0 : Int32)))]))
    refine own_fwd (fun t k => XS.aload X76.here hx rfl (hb hby at_167) rfl rfl k) ?_
    show own_R p.tables e below P (T76.setTop (mkF m 169 #[.val (.long p0), .second, .val (.long p1), .second, .val (.int p2), .val (.int p3), .val (.int p4), .val (.int rr), .val (.ref b20), .val (.ref b22), .val (.ref b66)] [(.ref b20), (.long p0), (.long (p0 ||| own_bit p2 (0 : Int32)))]))
    refine own_fwd (fun t k => XS.iconst X76.here hx rfl (hb hby at_169) k) ?_
    show own_R p.tables e below P (T76.setTop (mkF m 170 #[.val (.long p0), .second, .val (.long p1), .second, .val (.int p2), .val (.int p3), .val (.int p4), .val (.int rr), .val (.ref b20), .val (.ref b22), .val (.ref b66)] [(.int (0 : Int32)), (.ref b20), (.long p0), (.long (p0 ||| own_bit p2 (0 : Int32)))]))
    refine own_fwd (own_ldJ X76 hx hZ e76 A21__x76 (j := (0 : Int32)) 0 (by decide) (by decide) (g := (mkF m 170 #[.val (.long p0), .second, .val (.long p1), .second, .val (.int p2), .val (.int p3), .val (.int p4), .val (.int rr), .val (.ref b20), .val (.ref b22), .val (.ref b66)] [(.int (0 : Int32)), (.ref b20), (.long p0), (.long (p0 ||| own_bit p2 (0 : Int32)))])) rfl rfl (hb hby at_170)) ?_
    show own_R p.tables e below P (T76.setTop (mkF m 171 #[.val (.long p0), .second, .val (.long p1), .second, .val (.int p2), .val (.int p3), .val (.int p4), .val (.int rr), .val (.ref b20), .val (.ref b22), .val (.ref b66)] [(.long ((own_two (own_bit p2 (0 : Int32)) (own_bit p2 (1 : Int32))) 0)), (.long p0), (.long (p0 ||| own_bit p2 (0 : Int32)))]))
    have hv78 : ((own_two (own_bit p2 (0 : Int32)) (own_bit p2 (1 : Int32))) 0) = (own_bit p2 (0 : Int32)) := (own_two_0 _ _)
    rw [hv78]
    show own_R p.tables e below P (T76.setTop (mkF m 171 #[.val (.long p0), .second, .val (.long p1), .second, .val (.int p2), .val (.int p3), .val (.int p4), .val (.int rr), .val (.ref b20), .val (.ref b22), .val (.ref b66)] [(.long (own_bit p2 (0 : Int32))), (.long p0), (.long (p0 ||| own_bit p2 (0 : Int32)))]))
    refine own_fwd (fun t k => XS.lor X76.here hx rfl (hb hby at_171) rfl k) ?_
    show own_R p.tables e below P (T76.setTop (mkF m 172 #[.val (.long p0), .second, .val (.long p1), .second, .val (.int p2), .val (.int p3), .val (.int p4), .val (.int rr), .val (.ref b20), .val (.ref b22), .val (.ref b66)] [(.long (p0 ||| (own_bit p2 (0 : Int32)))), (.long (p0 ||| own_bit p2 (0 : Int32)))]))
    refine own_fwd (fun t k => XS.lcmp X76.here hx rfl (hb hby at_172) rfl k) ?_
    show own_R p.tables e below P (T76.setTop (mkF m 173 #[.val (.long p0), .second, .val (.long p1), .second, .val (.int p2), .val (.int p3), .val (.int p4), .val (.int rr), .val (.ref b20), .val (.ref b22), .val (.ref b66)] [(.int (lcmpW (p0 ||| own_bit p2 (0 : Int32)) (p0 ||| (own_bit p2 (0 : Int32)))))]))
    have hc79 : (lcmpW (p0 ||| own_bit p2 (0 : Int32)) (p0 ||| (own_bit p2 (0 : Int32)))) = (0 : Int32) := (lw_eq _ _).mpr rfl
    refine own_fwd (fun t k => XS.ifNo X76.here hx rfl (hb hby at_173) rfl ((if0 _ _).trans (teq hc79).2) k) ?_
    show own_R p.tables e below P (T76.setTop (mkF m 176 #[.val (.long p0), .second, .val (.long p1), .second, .val (.int p2), .val (.int p3), .val (.int p4), .val (.int rr), .val (.ref b20), .val (.ref b22), .val (.ref b66)] []))
    refine own_fwd (fun t k => XS.aload X76.here hx rfl (hb hby at_176) rfl rfl k) ?_
    show own_R p.tables e below P (T76.setTop (mkF m 178 #[.val (.long p0), .second, .val (.long p1), .second, .val (.int p2), .val (.int p3), .val (.int p4), .val (.int rr), .val (.ref b20), .val (.ref b22), .val (.ref b66)] [(.ref b66)]))
    refine own_fwd (fun t k => XS.iconst X76.here hx rfl (hb hby at_178) k) ?_
    show own_R p.tables e below P (T76.setTop (mkF m 179 #[.val (.long p0), .second, .val (.long p1), .second, .val (.int p2), .val (.int p3), .val (.int p4), .val (.int rr), .val (.ref b20), .val (.ref b22), .val (.ref b66)] [(.int (1 : Int32)), (.ref b66)]))
    refine own_fwd (own_ldJ X76 hx hZ e76 A76_ (j := (1 : Int32)) 1 (by decide) (by decide) (g := (mkF m 179 #[.val (.long p0), .second, .val (.long p1), .second, .val (.int p2), .val (.int p3), .val (.int p4), .val (.int rr), .val (.ref b20), .val (.ref b22), .val (.ref b66)] [(.int (1 : Int32)), (.ref b66)])) rfl rfl (hb hby at_179)) ?_
    show own_R p.tables e below P (T76.setTop (mkF m 180 #[.val (.long p0), .second, .val (.long p1), .second, .val (.int p2), .val (.int p3), .val (.int p4), .val (.int rr), .val (.ref b20), .val (.ref b22), .val (.ref b66)] [(.long ((own_two (p0 ||| own_bit p2 (0 : Int32)) (p1 ||| own_bit p2 (1 : Int32))) 1))]))
    have hv80 : ((own_two (p0 ||| own_bit p2 (0 : Int32)) (p1 ||| own_bit p2 (1 : Int32))) 1) = (p1 ||| own_bit p2 (1 : Int32)) := (own_two_1 _ _)
    rw [hv80]
    show own_R p.tables e below P (T76.setTop (mkF m 180 #[.val (.long p0), .second, .val (.long p1), .second, .val (.int p2), .val (.int p3), .val (.int p4), .val (.int rr), .val (.ref b20), .val (.ref b22), .val (.ref b66)] [(.long (p1 ||| own_bit p2 (1 : Int32)))]))
    refine own_fwd (fun t k => XS.lloadN X76.here hx rfl (hb hby at_180) rfl k) ?_
    show own_R p.tables e below P (T76.setTop (mkF m 181 #[.val (.long p0), .second, .val (.long p1), .second, .val (.int p2), .val (.int p3), .val (.int p4), .val (.int rr), .val (.ref b20), .val (.ref b22), .val (.ref b66)] [(.long p1), (.long (p1 ||| own_bit p2 (1 : Int32)))]))
    refine own_fwd (fun t k => XS.aload X76.here hx rfl (hb hby at_181) rfl rfl k) ?_
    show own_R p.tables e below P (T76.setTop (mkF m 183 #[.val (.long p0), .second, .val (.long p1), .second, .val (.int p2), .val (.int p3), .val (.int p4), .val (.int rr), .val (.ref b20), .val (.ref b22), .val (.ref b66)] [(.ref b20), (.long p1), (.long (p1 ||| own_bit p2 (1 : Int32)))]))
    refine own_fwd (fun t k => XS.iconst X76.here hx rfl (hb hby at_183) k) ?_
    show own_R p.tables e below P (T76.setTop (mkF m 184 #[.val (.long p0), .second, .val (.long p1), .second, .val (.int p2), .val (.int p3), .val (.int p4), .val (.int rr), .val (.ref b20), .val (.ref b22), .val (.ref b66)] [(.int (1 : Int32)), (.ref b20), (.long p1), (.long (p1 ||| own_bit p2 (1 : Int32)))]))
    refine own_fwd (own_ldJ X76 hx hZ e76 A21__x76 (j := (1 : Int32)) 1 (by decide) (by decide) (g := (mkF m 184 #[.val (.long p0), .second, .val (.long p1), .second, .val (.int p2), .val (.int p3), .val (.int p4), .val (.int rr), .val (.ref b20), .val (.ref b22), .val (.ref b66)] [(.int (1 : Int32)), (.ref b20), (.long p1), (.long (p1 ||| own_bit p2 (1 : Int32)))])) rfl rfl (hb hby at_184)) ?_
    show own_R p.tables e below P (T76.setTop (mkF m 185 #[.val (.long p0), .second, .val (.long p1), .second, .val (.int p2), .val (.int p3), .val (.int p4), .val (.int rr), .val (.ref b20), .val (.ref b22), .val (.ref b66)] [(.long ((own_two (own_bit p2 (0 : Int32)) (own_bit p2 (1 : Int32))) 1)), (.long p1), (.long (p1 ||| own_bit p2 (1 : Int32)))]))
    have hv81 : ((own_two (own_bit p2 (0 : Int32)) (own_bit p2 (1 : Int32))) 1) = (own_bit p2 (1 : Int32)) := (own_two_1 _ _)
    rw [hv81]
    show own_R p.tables e below P (T76.setTop (mkF m 185 #[.val (.long p0), .second, .val (.long p1), .second, .val (.int p2), .val (.int p3), .val (.int p4), .val (.int rr), .val (.ref b20), .val (.ref b22), .val (.ref b66)] [(.long (own_bit p2 (1 : Int32))), (.long p1), (.long (p1 ||| own_bit p2 (1 : Int32)))]))
    refine own_fwd (fun t k => XS.lor X76.here hx rfl (hb hby at_185) rfl k) ?_
    show own_R p.tables e below P (T76.setTop (mkF m 186 #[.val (.long p0), .second, .val (.long p1), .second, .val (.int p2), .val (.int p3), .val (.int p4), .val (.int rr), .val (.ref b20), .val (.ref b22), .val (.ref b66)] [(.long (p1 ||| (own_bit p2 (1 : Int32)))), (.long (p1 ||| own_bit p2 (1 : Int32)))]))
    refine own_fwd (fun t k => XS.lcmp X76.here hx rfl (hb hby at_186) rfl k) ?_
    show own_R p.tables e below P (T76.setTop (mkF m 187 #[.val (.long p0), .second, .val (.long p1), .second, .val (.int p2), .val (.int p3), .val (.int p4), .val (.int rr), .val (.ref b20), .val (.ref b22), .val (.ref b66)] [(.int (lcmpW (p1 ||| own_bit p2 (1 : Int32)) (p1 ||| (own_bit p2 (1 : Int32)))))]))
    have hc82 : (lcmpW (p1 ||| own_bit p2 (1 : Int32)) (p1 ||| (own_bit p2 (1 : Int32)))) = (0 : Int32) := (lw_eq _ _).mpr rfl
    refine own_fwd (fun t k => XS.ifYes X76.here hx rfl (pc0 := 187) (pc' := 192) rfl (hb hby at_187) rfl ((if0 _ _).trans (teq hc82).1) (by decide) (by decide) k) ?_
    show own_R p.tables e below P (T76.setTop (mkF m 192 #[.val (.long p0), .second, .val (.long p1), .second, .val (.int p2), .val (.int p3), .val (.int p4), .val (.int rr), .val (.ref b20), .val (.ref b22), .val (.ref b66)] []))
    refine own_fwd (fun t k => XS.aload X76.here hx rfl (hb hby at_192) rfl rfl k) ?_
    show own_R p.tables e below P (T76.setTop (mkF m 194 #[.val (.long p0), .second, .val (.long p1), .second, .val (.int p2), .val (.int p3), .val (.int p4), .val (.int rr), .val (.ref b20), .val (.ref b22), .val (.ref b66)] [(.ref b66)]))
    refine own_fwd (fun t k => XS.iload X76.here hx rfl (hb hby at_194) rfl k) ?_
    show own_R p.tables e below P (T76.setTop (mkF m 196 #[.val (.long p0), .second, .val (.long p1), .second, .val (.int p2), .val (.int p3), .val (.int p4), .val (.int rr), .val (.ref b20), .val (.ref b22), .val (.ref b66)] [(.int rr), (.ref b66)]))
    obtain ⟨_, _, ⟨T83, L83, k83, n83⟩, -, X83, ⟨Lc83, hQ83, l83, y83, z83⟩, st83⟩ := Jvm.LawKit.callS X76 hx (y := (⟨"com/example/tracefold/tracefold/Conflicts", "mark", "([JI)V"⟩ : MethodName)) hown (mvT hZ (hw _ (List.mem_of_getElem? (i := 1) rfl))) (mvT hZ (hw _ (List.mem_of_getElem? (i := 2) rfl))) (mvT hZ (hw _ (List.mem_of_getElem? (i := 3) rfl))) (mvT hZ (hw _ (List.mem_of_getElem? (i := 4) rfl))) (by decide) (backOf (W := 0) (own_rm1 l Z a0 hw [] b66 rr (p0 ||| own_bit p2 (0 : Int32)) (p1 ||| own_bit p2 (1 : Int32)) h76 n0 Z76 (A76_.cong fun i hi => by match i, hi with
          | 0, _ => rfl
          | 1, _ => rfl) ge_b66) hZ (hw _ (List.mem_of_getElem? (i := 4) rfl)) (hw _ (List.mem_of_getElem? (i := 3) rfl)) (by decide) (by decide)) (g := (mkF m 196 #[.val (.long p0), .second, .val (.long p1), .second, .val (.int p2), .val (.int p3), .val (.int p4), .val (.int rr), .val (.ref b20), .val (.ref b22), .val (.ref b66)] [(.int rr), (.ref b66)])) rfl (by rw [hml]; rfl) (argsL := [(.ref b66), (.int rr)]) (rest := []) (lenOf own_pd1 rfl) rfl (by show 2 * 0 + _ ≤ _; exact Nat.le_of_eq rfl) (hb hby at_196) (fun _ _ => ⟨rfl, e76, (by decide : 3 + 0 ≤ _), (by decide : 6 + 0 ≤ _)⟩)
    dsimp only [Pt.U, Pt.locs, Pt.cells, Pt.slots] at X83 l83 y83 z83 st83 hQ83
    subst l83 y83 z83
    obtain ⟨h83, e83⟩ : ∃ z, T83.heap = z := ⟨_, rfl⟩
    rw [e83] at hQ83
    obtain ⟨hq83, N83q, K83, A83_⟩ := hQ83
    subst hq83
    have N83 := Fr.app N76 N83q
    have B20_x83 := B20_x76.keep K83
    have A21__x83 := A21__x76.keep K83 (ninS ne66_b20 nin0)
    have B22_x83 := B22_x76.keep K83
    have A23__x83 := A23__x76.keep K83 (ninS ne66_b22 nin0)
    have B66_x83 := B66_x76.keep K83
    have Z83 : n0 ≤ h83.size := Nat.le_trans Z76 K83.1
    have Y83 : h0.size ≤ h83.size := Nat.le_trans Y76 K83.1
    refine own_fwd st83 ?_
    show own_R p.tables e below P (T83.setTop (mkF m 199 #[.val (.long p0), .second, .val (.long p1), .second, .val (.int p2), .val (.int p3), .val (.int p4), .val (.int rr), .val (.ref b20), .val (.ref b22), .val (.ref b66)] []))
    refine own_fwd (fun t k => XS.aload X83.here hx rfl (hb hby at_199) rfl rfl k) ?_
    show own_R p.tables e below P (T83.setTop (mkF m 201 #[.val (.long p0), .second, .val (.long p1), .second, .val (.int p2), .val (.int p3), .val (.int p4), .val (.int rr), .val (.ref b20), .val (.ref b22), .val (.ref b66)] [(.ref b66)]))
    refine own_fwd (fun t k => XS.iconst X83.here hx rfl (hb hby at_201) k) ?_
    show own_R p.tables e below P (T83.setTop (mkF m 202 #[.val (.long p0), .second, .val (.long p1), .second, .val (.int p2), .val (.int p3), .val (.int p4), .val (.int rr), .val (.ref b20), .val (.ref b22), .val (.ref b66)] [(.int (0 : Int32)), (.ref b66)]))
    refine own_fwd (own_ldJ X83 hx hZ e83 A83_ (j := (0 : Int32)) 0 (by decide) (by decide) (g := (mkF m 202 #[.val (.long p0), .second, .val (.long p1), .second, .val (.int p2), .val (.int p3), .val (.int p4), .val (.int rr), .val (.ref b20), .val (.ref b22), .val (.ref b66)] [(.int (0 : Int32)), (.ref b66)])) rfl rfl (hb hby at_202)) ?_
    show own_R p.tables e below P (T83.setTop (mkF m 203 #[.val (.long p0), .second, .val (.long p1), .second, .val (.int p2), .val (.int p3), .val (.int p4), .val (.int rr), .val (.ref b20), .val (.ref b22), .val (.ref b66)] [(.long ((own_two ((p0 ||| own_bit p2 (0 : Int32)) ||| own_bit rr (0 : Int32)) ((p1 ||| own_bit p2 (1 : Int32)) ||| own_bit rr (1 : Int32))) 0))]))
    have hv84 : ((own_two ((p0 ||| own_bit p2 (0 : Int32)) ||| own_bit rr (0 : Int32)) ((p1 ||| own_bit p2 (1 : Int32)) ||| own_bit rr (1 : Int32))) 0) = ((p0 ||| own_bit p2 (0 : Int32)) ||| own_bit rr (0 : Int32)) := (own_two_0 _ _)
    rw [hv84]
    show own_R p.tables e below P (T83.setTop (mkF m 203 #[.val (.long p0), .second, .val (.long p1), .second, .val (.int p2), .val (.int p3), .val (.int p4), .val (.int rr), .val (.ref b20), .val (.ref b22), .val (.ref b66)] [(.long ((p0 ||| own_bit p2 (0 : Int32)) ||| own_bit rr (0 : Int32)))]))
    refine own_fwd (fun t k => XS.lloadN X83.here hx rfl (hb hby at_203) rfl k) ?_
    show own_R p.tables e below P (T83.setTop (mkF m 204 #[.val (.long p0), .second, .val (.long p1), .second, .val (.int p2), .val (.int p3), .val (.int p4), .val (.int rr), .val (.ref b20), .val (.ref b22), .val (.ref b66)] [(.long p0), (.long ((p0 ||| own_bit p2 (0 : Int32)) ||| own_bit rr (0 : Int32)))]))
    refine own_fwd (fun t k => XS.aload X83.here hx rfl (hb hby at_204) rfl rfl k) ?_
    show own_R p.tables e below P (T83.setTop (mkF m 206 #[.val (.long p0), .second, .val (.long p1), .second, .val (.int p2), .val (.int p3), .val (.int p4), .val (.int rr), .val (.ref b20), .val (.ref b22), .val (.ref b66)] [(.ref b20), (.long p0), (.long ((p0 ||| own_bit p2 (0 : Int32)) ||| own_bit rr (0 : Int32)))]))
    refine own_fwd (fun t k => XS.iconst X83.here hx rfl (hb hby at_206) k) ?_
    show own_R p.tables e below P (T83.setTop (mkF m 207 #[.val (.long p0), .second, .val (.long p1), .second, .val (.int p2), .val (.int p3), .val (.int p4), .val (.int rr), .val (.ref b20), .val (.ref b22), .val (.ref b66)] [(.int (0 : Int32)), (.ref b20), (.long p0), (.long ((p0 ||| own_bit p2 (0 : Int32)) ||| own_bit rr (0 : Int32)))]))
    refine own_fwd (own_ldJ X83 hx hZ e83 A21__x83 (j := (0 : Int32)) 0 (by decide) (by decide) (g := (mkF m 207 #[.val (.long p0), .second, .val (.long p1), .second, .val (.int p2), .val (.int p3), .val (.int p4), .val (.int rr), .val (.ref b20), .val (.ref b22), .val (.ref b66)] [(.int (0 : Int32)), (.ref b20), (.long p0), (.long ((p0 ||| own_bit p2 (0 : Int32)) ||| own_bit rr (0 : Int32)))])) rfl rfl (hb hby at_207)) ?_
    show own_R p.tables e below P (T83.setTop (mkF m 208 #[.val (.long p0), .second, .val (.long p1), .second, .val (.int p2), .val (.int p3), .val (.int p4), .val (.int rr), .val (.ref b20), .val (.ref b22), .val (.ref b66)] [(.long ((own_two (own_bit p2 (0 : Int32)) (own_bit p2 (1 : Int32))) 0)), (.long p0), (.long ((p0 ||| own_bit p2 (0 : Int32)) ||| own_bit rr (0 : Int32)))]))
    have hv85 : ((own_two (own_bit p2 (0 : Int32)) (own_bit p2 (1 : Int32))) 0) = (own_bit p2 (0 : Int32)) := (own_two_0 _ _)
    rw [hv85]
    show own_R p.tables e below P (T83.setTop (mkF m 208 #[.val (.long p0), .second, .val (.long p1), .second, .val (.int p2), .val (.int p3), .val (.int p4), .val (.int rr), .val (.ref b20), .val (.ref b22), .val (.ref b66)] [(.long (own_bit p2 (0 : Int32))), (.long p0), (.long ((p0 ||| own_bit p2 (0 : Int32)) ||| own_bit rr (0 : Int32)))]))
    refine own_fwd (fun t k => XS.lor X83.here hx rfl (hb hby at_208) rfl k) ?_
    show own_R p.tables e below P (T83.setTop (mkF m 209 #[.val (.long p0), .second, .val (.long p1), .second, .val (.int p2), .val (.int p3), .val (.int p4), .val (.int rr), .val (.ref b20), .val (.ref b22), .val (.ref b66)] [(.long (p0 ||| (own_bit p2 (0 : Int32)))), (.long ((p0 ||| own_bit p2 (0 : Int32)) ||| own_bit rr (0 : Int32)))]))
    refine own_fwd (fun t k => XS.aload X83.here hx rfl (hb hby at_209) rfl rfl k) ?_
    show own_R p.tables e below P (T83.setTop (mkF m 211 #[.val (.long p0), .second, .val (.long p1), .second, .val (.int p2), .val (.int p3), .val (.int p4), .val (.int rr), .val (.ref b20), .val (.ref b22), .val (.ref b66)] [(.ref b22), (.long (p0 ||| (own_bit p2 (0 : Int32)))), (.long ((p0 ||| own_bit p2 (0 : Int32)) ||| own_bit rr (0 : Int32)))]))
    refine own_fwd (fun t k => XS.iconst X83.here hx rfl (hb hby at_211) k) ?_
    show own_R p.tables e below P (T83.setTop (mkF m 212 #[.val (.long p0), .second, .val (.long p1), .second, .val (.int p2), .val (.int p3), .val (.int p4), .val (.int rr), .val (.ref b20), .val (.ref b22), .val (.ref b66)] [(.int (0 : Int32)), (.ref b22), (.long (p0 ||| (own_bit p2 (0 : Int32)))), (.long ((p0 ||| own_bit p2 (0 : Int32)) ||| own_bit rr (0 : Int32)))]))
    refine own_fwd (own_ldJ X83 hx hZ e83 A23__x83 (j := (0 : Int32)) 0 (by decide) (by decide) (g := (mkF m 212 #[.val (.long p0), .second, .val (.long p1), .second, .val (.int p2), .val (.int p3), .val (.int p4), .val (.int rr), .val (.ref b20), .val (.ref b22), .val (.ref b66)] [(.int (0 : Int32)), (.ref b22), (.long (p0 ||| (own_bit p2 (0 : Int32)))), (.long ((p0 ||| own_bit p2 (0 : Int32)) ||| own_bit rr (0 : Int32)))])) rfl rfl (hb hby at_212)) ?_
    show own_R p.tables e below P (T83.setTop (mkF m 213 #[.val (.long p0), .second, .val (.long p1), .second, .val (.int p2), .val (.int p3), .val (.int p4), .val (.int rr), .val (.ref b20), .val (.ref b22), .val (.ref b66)] [(.long ((own_two (own_bit rr (0 : Int32)) (own_bit rr (1 : Int32))) 0)), (.long (p0 ||| (own_bit p2 (0 : Int32)))), (.long ((p0 ||| own_bit p2 (0 : Int32)) ||| own_bit rr (0 : Int32)))]))
    have hv86 : ((own_two (own_bit rr (0 : Int32)) (own_bit rr (1 : Int32))) 0) = (own_bit rr (0 : Int32)) := (own_two_0 _ _)
    rw [hv86]
    show own_R p.tables e below P (T83.setTop (mkF m 213 #[.val (.long p0), .second, .val (.long p1), .second, .val (.int p2), .val (.int p3), .val (.int p4), .val (.int rr), .val (.ref b20), .val (.ref b22), .val (.ref b66)] [(.long (own_bit rr (0 : Int32))), (.long (p0 ||| (own_bit p2 (0 : Int32)))), (.long ((p0 ||| own_bit p2 (0 : Int32)) ||| own_bit rr (0 : Int32)))]))
    refine own_fwd (fun t k => XS.lor X83.here hx rfl (hb hby at_213) rfl k) ?_
    show own_R p.tables e below P (T83.setTop (mkF m 214 #[.val (.long p0), .second, .val (.long p1), .second, .val (.int p2), .val (.int p3), .val (.int p4), .val (.int rr), .val (.ref b20), .val (.ref b22), .val (.ref b66)] [(.long ((p0 ||| (own_bit p2 (0 : Int32))) ||| (own_bit rr (0 : Int32)))), (.long ((p0 ||| own_bit p2 (0 : Int32)) ||| own_bit rr (0 : Int32)))]))
    refine own_fwd (fun t k => XS.lcmp X83.here hx rfl (hb hby at_214) rfl k) ?_
    show own_R p.tables e below P (T83.setTop (mkF m 215 #[.val (.long p0), .second, .val (.long p1), .second, .val (.int p2), .val (.int p3), .val (.int p4), .val (.int rr), .val (.ref b20), .val (.ref b22), .val (.ref b66)] [(.int (lcmpW ((p0 ||| own_bit p2 (0 : Int32)) ||| own_bit rr (0 : Int32)) ((p0 ||| (own_bit p2 (0 : Int32))) ||| (own_bit rr (0 : Int32)))))]))
    have hc87 : (lcmpW ((p0 ||| own_bit p2 (0 : Int32)) ||| own_bit rr (0 : Int32)) ((p0 ||| (own_bit p2 (0 : Int32))) ||| (own_bit rr (0 : Int32)))) = (0 : Int32) := (lw_eq _ _).mpr rfl
    refine own_fwd (fun t k => XS.ifNo X83.here hx rfl (hb hby at_215) rfl ((if0 _ _).trans (teq hc87).2) k) ?_
    show own_R p.tables e below P (T83.setTop (mkF m 218 #[.val (.long p0), .second, .val (.long p1), .second, .val (.int p2), .val (.int p3), .val (.int p4), .val (.int rr), .val (.ref b20), .val (.ref b22), .val (.ref b66)] []))
    refine own_fwd (fun t k => XS.aload X83.here hx rfl (hb hby at_218) rfl rfl k) ?_
    show own_R p.tables e below P (T83.setTop (mkF m 220 #[.val (.long p0), .second, .val (.long p1), .second, .val (.int p2), .val (.int p3), .val (.int p4), .val (.int rr), .val (.ref b20), .val (.ref b22), .val (.ref b66)] [(.ref b66)]))
    refine own_fwd (fun t k => XS.iconst X83.here hx rfl (hb hby at_220) k) ?_
    show own_R p.tables e below P (T83.setTop (mkF m 221 #[.val (.long p0), .second, .val (.long p1), .second, .val (.int p2), .val (.int p3), .val (.int p4), .val (.int rr), .val (.ref b20), .val (.ref b22), .val (.ref b66)] [(.int (1 : Int32)), (.ref b66)]))
    refine own_fwd (own_ldJ X83 hx hZ e83 A83_ (j := (1 : Int32)) 1 (by decide) (by decide) (g := (mkF m 221 #[.val (.long p0), .second, .val (.long p1), .second, .val (.int p2), .val (.int p3), .val (.int p4), .val (.int rr), .val (.ref b20), .val (.ref b22), .val (.ref b66)] [(.int (1 : Int32)), (.ref b66)])) rfl rfl (hb hby at_221)) ?_
    show own_R p.tables e below P (T83.setTop (mkF m 222 #[.val (.long p0), .second, .val (.long p1), .second, .val (.int p2), .val (.int p3), .val (.int p4), .val (.int rr), .val (.ref b20), .val (.ref b22), .val (.ref b66)] [(.long ((own_two ((p0 ||| own_bit p2 (0 : Int32)) ||| own_bit rr (0 : Int32)) ((p1 ||| own_bit p2 (1 : Int32)) ||| own_bit rr (1 : Int32))) 1))]))
    have hv88 : ((own_two ((p0 ||| own_bit p2 (0 : Int32)) ||| own_bit rr (0 : Int32)) ((p1 ||| own_bit p2 (1 : Int32)) ||| own_bit rr (1 : Int32))) 1) = ((p1 ||| own_bit p2 (1 : Int32)) ||| own_bit rr (1 : Int32)) := (own_two_1 _ _)
    rw [hv88]
    show own_R p.tables e below P (T83.setTop (mkF m 222 #[.val (.long p0), .second, .val (.long p1), .second, .val (.int p2), .val (.int p3), .val (.int p4), .val (.int rr), .val (.ref b20), .val (.ref b22), .val (.ref b66)] [(.long ((p1 ||| own_bit p2 (1 : Int32)) ||| own_bit rr (1 : Int32)))]))
    refine own_fwd (fun t k => XS.lloadN X83.here hx rfl (hb hby at_222) rfl k) ?_
    show own_R p.tables e below P (T83.setTop (mkF m 223 #[.val (.long p0), .second, .val (.long p1), .second, .val (.int p2), .val (.int p3), .val (.int p4), .val (.int rr), .val (.ref b20), .val (.ref b22), .val (.ref b66)] [(.long p1), (.long ((p1 ||| own_bit p2 (1 : Int32)) ||| own_bit rr (1 : Int32)))]))
    refine own_fwd (fun t k => XS.aload X83.here hx rfl (hb hby at_223) rfl rfl k) ?_
    show own_R p.tables e below P (T83.setTop (mkF m 225 #[.val (.long p0), .second, .val (.long p1), .second, .val (.int p2), .val (.int p3), .val (.int p4), .val (.int rr), .val (.ref b20), .val (.ref b22), .val (.ref b66)] [(.ref b20), (.long p1), (.long ((p1 ||| own_bit p2 (1 : Int32)) ||| own_bit rr (1 : Int32)))]))
    refine own_fwd (fun t k => XS.iconst X83.here hx rfl (hb hby at_225) k) ?_
    show own_R p.tables e below P (T83.setTop (mkF m 226 #[.val (.long p0), .second, .val (.long p1), .second, .val (.int p2), .val (.int p3), .val (.int p4), .val (.int rr), .val (.ref b20), .val (.ref b22), .val (.ref b66)] [(.int (1 : Int32)), (.ref b20), (.long p1), (.long ((p1 ||| own_bit p2 (1 : Int32)) ||| own_bit rr (1 : Int32)))]))
    refine own_fwd (own_ldJ X83 hx hZ e83 A21__x83 (j := (1 : Int32)) 1 (by decide) (by decide) (g := (mkF m 226 #[.val (.long p0), .second, .val (.long p1), .second, .val (.int p2), .val (.int p3), .val (.int p4), .val (.int rr), .val (.ref b20), .val (.ref b22), .val (.ref b66)] [(.int (1 : Int32)), (.ref b20), (.long p1), (.long ((p1 ||| own_bit p2 (1 : Int32)) ||| own_bit rr (1 : Int32)))])) rfl rfl (hb hby at_226)) ?_
    show own_R p.tables e below P (T83.setTop (mkF m 227 #[.val (.long p0), .second, .val (.long p1), .second, .val (.int p2), .val (.int p3), .val (.int p4), .val (.int rr), .val (.ref b20), .val (.ref b22), .val (.ref b66)] [(.long ((own_two (own_bit p2 (0 : Int32)) (own_bit p2 (1 : Int32))) 1)), (.long p1), (.long ((p1 ||| own_bit p2 (1 : Int32)) ||| own_bit rr (1 : Int32)))]))
    have hv89 : ((own_two (own_bit p2 (0 : Int32)) (own_bit p2 (1 : Int32))) 1) = (own_bit p2 (1 : Int32)) := (own_two_1 _ _)
    rw [hv89]
    show own_R p.tables e below P (T83.setTop (mkF m 227 #[.val (.long p0), .second, .val (.long p1), .second, .val (.int p2), .val (.int p3), .val (.int p4), .val (.int rr), .val (.ref b20), .val (.ref b22), .val (.ref b66)] [(.long (own_bit p2 (1 : Int32))), (.long p1), (.long ((p1 ||| own_bit p2 (1 : Int32)) ||| own_bit rr (1 : Int32)))]))
    refine own_fwd (fun t k => XS.lor X83.here hx rfl (hb hby at_227) rfl k) ?_
    show own_R p.tables e below P (T83.setTop (mkF m 228 #[.val (.long p0), .second, .val (.long p1), .second, .val (.int p2), .val (.int p3), .val (.int p4), .val (.int rr), .val (.ref b20), .val (.ref b22), .val (.ref b66)] [(.long (p1 ||| (own_bit p2 (1 : Int32)))), (.long ((p1 ||| own_bit p2 (1 : Int32)) ||| own_bit rr (1 : Int32)))]))
    refine own_fwd (fun t k => XS.aload X83.here hx rfl (hb hby at_228) rfl rfl k) ?_
    show own_R p.tables e below P (T83.setTop (mkF m 230 #[.val (.long p0), .second, .val (.long p1), .second, .val (.int p2), .val (.int p3), .val (.int p4), .val (.int rr), .val (.ref b20), .val (.ref b22), .val (.ref b66)] [(.ref b22), (.long (p1 ||| (own_bit p2 (1 : Int32)))), (.long ((p1 ||| own_bit p2 (1 : Int32)) ||| own_bit rr (1 : Int32)))]))
    refine own_fwd (fun t k => XS.iconst X83.here hx rfl (hb hby at_230) k) ?_
    show own_R p.tables e below P (T83.setTop (mkF m 231 #[.val (.long p0), .second, .val (.long p1), .second, .val (.int p2), .val (.int p3), .val (.int p4), .val (.int rr), .val (.ref b20), .val (.ref b22), .val (.ref b66)] [(.int (1 : Int32)), (.ref b22), (.long (p1 ||| (own_bit p2 (1 : Int32)))), (.long ((p1 ||| own_bit p2 (1 : Int32)) ||| own_bit rr (1 : Int32)))]))
    refine own_fwd (own_ldJ X83 hx hZ e83 A23__x83 (j := (1 : Int32)) 1 (by decide) (by decide) (g := (mkF m 231 #[.val (.long p0), .second, .val (.long p1), .second, .val (.int p2), .val (.int p3), .val (.int p4), .val (.int rr), .val (.ref b20), .val (.ref b22), .val (.ref b66)] [(.int (1 : Int32)), (.ref b22), (.long (p1 ||| (own_bit p2 (1 : Int32)))), (.long ((p1 ||| own_bit p2 (1 : Int32)) ||| own_bit rr (1 : Int32)))])) rfl rfl (hb hby at_231)) ?_
    show own_R p.tables e below P (T83.setTop (mkF m 232 #[.val (.long p0), .second, .val (.long p1), .second, .val (.int p2), .val (.int p3), .val (.int p4), .val (.int rr), .val (.ref b20), .val (.ref b22), .val (.ref b66)] [(.long ((own_two (own_bit rr (0 : Int32)) (own_bit rr (1 : Int32))) 1)), (.long (p1 ||| (own_bit p2 (1 : Int32)))), (.long ((p1 ||| own_bit p2 (1 : Int32)) ||| own_bit rr (1 : Int32)))]))
    have hv90 : ((own_two (own_bit rr (0 : Int32)) (own_bit rr (1 : Int32))) 1) = (own_bit rr (1 : Int32)) := (own_two_1 _ _)
    rw [hv90]
    show own_R p.tables e below P (T83.setTop (mkF m 232 #[.val (.long p0), .second, .val (.long p1), .second, .val (.int p2), .val (.int p3), .val (.int p4), .val (.int rr), .val (.ref b20), .val (.ref b22), .val (.ref b66)] [(.long (own_bit rr (1 : Int32))), (.long (p1 ||| (own_bit p2 (1 : Int32)))), (.long ((p1 ||| own_bit p2 (1 : Int32)) ||| own_bit rr (1 : Int32)))]))
    refine own_fwd (fun t k => XS.lor X83.here hx rfl (hb hby at_232) rfl k) ?_
    show own_R p.tables e below P (T83.setTop (mkF m 233 #[.val (.long p0), .second, .val (.long p1), .second, .val (.int p2), .val (.int p3), .val (.int p4), .val (.int rr), .val (.ref b20), .val (.ref b22), .val (.ref b66)] [(.long ((p1 ||| (own_bit p2 (1 : Int32))) ||| (own_bit rr (1 : Int32)))), (.long ((p1 ||| own_bit p2 (1 : Int32)) ||| own_bit rr (1 : Int32)))]))
    refine own_fwd (fun t k => XS.lcmp X83.here hx rfl (hb hby at_233) rfl k) ?_
    show own_R p.tables e below P (T83.setTop (mkF m 234 #[.val (.long p0), .second, .val (.long p1), .second, .val (.int p2), .val (.int p3), .val (.int p4), .val (.int rr), .val (.ref b20), .val (.ref b22), .val (.ref b66)] [(.int (lcmpW ((p1 ||| own_bit p2 (1 : Int32)) ||| own_bit rr (1 : Int32)) ((p1 ||| (own_bit p2 (1 : Int32))) ||| (own_bit rr (1 : Int32)))))]))
    have hc91 : (lcmpW ((p1 ||| own_bit p2 (1 : Int32)) ||| own_bit rr (1 : Int32)) ((p1 ||| (own_bit p2 (1 : Int32))) ||| (own_bit rr (1 : Int32)))) = (0 : Int32) := (lw_eq _ _).mpr rfl
    refine own_fwd (fun t k => XS.ifNo X83.here hx rfl (hb hby at_234) rfl ((if0 _ _).trans (teq hc91).2) k) ?_
    show own_R p.tables e below P (T83.setTop (mkF m 237 #[.val (.long p0), .second, .val (.long p1), .second, .val (.int p2), .val (.int p3), .val (.int p4), .val (.int rr), .val (.ref b20), .val (.ref b22), .val (.ref b66)] []))
    refine own_fwd (fun t k => XS.iconst X83.here hx rfl (hb hby at_237) k) ?_
    show own_R p.tables e below P (T83.setTop (mkF m 238 #[.val (.long p0), .second, .val (.long p1), .second, .val (.int p2), .val (.int p3), .val (.int p4), .val (.int rr), .val (.ref b20), .val (.ref b22), .val (.ref b66)] [(.int (1 : Int32))]))
    refine own_fwd (fun t k => XS.goto X83.here hx rfl (pc0 := 238) (pc' := 242) rfl (hb hby at_238) (by decide) (by decide) k) ?_
    show own_R p.tables e below P (T83.setTop (mkF m 242 #[.val (.long p0), .second, .val (.long p1), .second, .val (.int p2), .val (.int p3), .val (.int p4), .val (.int rr), .val (.ref b20), .val (.ref b22), .val (.ref b66)] [(.int (1 : Int32))]))
    obtain ⟨fs92, hr92, hrun92, hended92, hW92, hsame92⟩ := X83.leave (v := some (.int (1 : Int32))) (fun h => by rw [Bd.returns] at h; cases h)
    refine ⟨_, _, X83.ireturnOut hx (w := (1 : Int32)) Bd.returns rfl (by simp) (hb hby at_242) hr92, fin _ _ ⟨hrun92, hended92, _, _, rfl, ?_, ⟨_, rfl⟩, hW92, hsame92.mono (by decide) (by decide)⟩⟩
    show own_Qlaw Z p0 p1 p2 p3 p4 h0 n0 _ T83.heap _
    rw [e83]
    exact ⟨rfl, N83⟩
set_option maxRecDepth 65536 in
set_option maxHeartbeats 40000000 in
theorem own_comes {Post : Tables → Env → Array Value → State → Outcome → State → Prop} (hpost : ∀ tb e args s v u, (limb_1_1.after args s (.returned v) u = true ∧ limb_1_2.after args s (.returned v) u = true ∧ True) → FrameEnd s (.returned v) u (Jvm.fieldLocs frame_1_writes args s ++ Jvm.arrayLocs frame_1_arrays args s ++ Jvm.staticLocs frame_1_statics s) 16 128 → Post tb e args s (.returned v) u) :
    ArmFor flags0 classFile x code maxLocals ret World_1 tables_1 room_1 Calls_1 rest_1 Pre_1 Post := by
  intro l hfl _ _ p e ha hc hk s m args below hf hA hF happ hP
  obtain ⟨hcalls, hrest, hpre⟩ := hP
  obtain ⟨-, -, -, hnamed, -, -, -, hat⟩ := (Spec.applies_iff hf).mp happ
  obtain ⟨hg, hn⟩ := and_e (Cond.before_iff.mp (show (Jvm.Cond.and given_1 narrow_1).before args s = true from hpre))
  obtain ⟨g1, g2⟩ := and_e hg
  obtain ⟨g3, g4⟩ := and_e g2
  obtain ⟨g5, g6⟩ := and_e g4
  obtain ⟨g7, g8⟩ := and_e g6
  obtain ⟨g9, g10⟩ := and_e g8
  obtain ⟨w0, w1, w2, w3, w4, rfl⟩ : ∃ w0 w1 w2 w3 w4 : Value, args = #[w0, w1, w2, w3, w4] := by
    have hs : args.size = 5 := by simpa [Cond.value, given_1] using g1
    obtain ⟨L⟩ := args
    match L, hs with
    | [w0, w1, w2, w3, w4], _ => exact ⟨w0, w1, w2, w3, w4, rfl⟩
  have hw := fun d (hd : d ∈ tables_1) => atoms_spec (ws := Jvm.Cond.code x code maxLocals ret :: tables_1) hat d (List.mem_cons_of_mem _ hd)
  obtain ⟨i0, ei0⟩ := isL_v g3
  obtain rfl : w0 = (.long i0) := Option.some.inj ei0
  obtain ⟨i1, ei1⟩ := isL_v g5
  obtain rfl : w1 = (.long i1) := Option.some.inj ei1
  obtain ⟨i2, ei2⟩ := is_v g7
  obtain rfl : w2 = (.int i2) := Option.some.inj ei2
  obtain ⟨i3, ei3⟩ := is_v g9
  obtain rfl : w3 = (.int i3) := Option.some.inj ei3
  obtain ⟨i4, ei4⟩ := is_v g10
  obtain rfl : w4 = (.int i4) := Option.some.inj ei4
  obtain ⟨n, o, h1, h2, h3, _, L, rfl, ⟨rfl, N⟩, hq⟩ := own_rmlaw l s _ hw tables_1 i0 i1 i2 i3 i4 s.heap s.heap.size (Nat.le_refl _) p e ha hc hk s m _ below hf ((Spec.applies_iff_loose hf).mp happ).1 ⟨rfl, State.Warmed39.refl s, rfl⟩ trivial
  refine ⟨n, _, h1, h2, h3, hpost _ _ _ _ _ _ ⟨Cond.after_iff.mpr rfl, Cond.after_iff.mpr (eq_i res_at (Term.int_eval (1)) rfl), trivial⟩ ⟨hq.1, hq.2.1, (hq.2.2.sift fun y hy => Or.inr (N y hy)).mono (by decide) (by decide)⟩⟩
theorem main_1_1 : Claimed_1_1 := own_comes fun _ _ _ _ _ _ h hF => ⟨h.1, hF⟩
theorem main_1_2 : Claimed_1_2 := own_comes fun _ _ _ _ _ _ h hF => ⟨h.2.1, hF⟩
end Jvm.Pilot.@@N@@
namespace Jvm.Pilot.@@N@@
open Jvm Jvm.ClassFile Sem Op Lib Jvm.Free Jvm.Stand Jvm.Pilot.@@N@@.Jvm.D
/-! MADE BY PROGRAM (witnessworld.py) out of the Statement's table words and the real class files: 11 classes; the members and pool entries that the words name. The judged class is class 1, her method 2. -/
namespace start1
open Jvm.ClassFile
def u (s : String) : CpInfo := .utf8 (stringToUtf16 s)
/-- a pool by its gaps: so many unusable entries, then the entry; so many at the end -/
def gap : Nat → List CpInfo → List CpInfo
  | 0, r => r
  | n + 1, r => .unusable :: gap n r
def poolList (es : List (Nat × CpInfo)) (last : Nat) : List CpInfo := es.foldr (fun e r => gap e.1 (e.2 :: r)) (gap last [])
def pool (es : List (Nat × CpInfo)) (last : Nat) : Array CpInfo := ⟨poolList es last⟩
def fileOf (pool : Array CpInfo) (this : Nat) (attrs : Array Attribute := #[]) (ms : Array MethodInfo := #[]) (fl : Nat := 33) (sup : Nat := 0) (ifs : Array Nat := #[]) (fds : Array FieldInfo := #[]) : ClassFile where
  minorVersion := 0
  majorVersion := 65
  constantPool := pool
  accessFlags := fl
  thisClass := this
  superClass := sup
  interfaces := ifs
  fields := fds
  methods := ms
  attributes := attrs
def plain (name : String) (sup : Option ClassId) : Class where
  name := name
  kind := .ordinary
  loader := none
  accessFlags := 33
  super := sup
  interfaces := #[]
  cf := none
  fields := #[]
  methods := #[]
  instanceTypes := #[]
  staticTypes := #[]
  resolved := #[]
  callSites := []
  init := .initialized
  statics := none
  mirror := none

def pool0 : Array CpInfo := pool [(5, u "<init>"), (0, u "()V"), (1, .class_ 10), (1, u "java/lang/Object")] 113

def k0m0 : Method := { name := "<init>", desc := "()V", sig := { parameters := [], returnType := none }, accessFlags := 1, code := none }
/-- java/lang/Object -/
def k0 : Class := { plain "java/lang/Object" none with
  accessFlags := 33
  interfaces := #[]
  cf := some (fileOf pool0 8 #[] #[{ accessFlags := 1, nameIndex := 5, descriptorIndex := 6, attributes := #[] }] 33 0 #[] #[])
  fields := #[]
  methods := #[k0m0]
  instanceTypes := #[]
  staticTypes := #[]
  resolved := Array.replicate 124 none
  statics := none }

def pool1 : Array CpInfo := pool [(2, .class_ 4), (1, u "java/lang/Object"), (0, u "<init>"), (0, u "()V"), (0, .methodref 8 9), (0, .class_ 10), (0, .nameAndType 11 12), (0, u "com/example/tracefold/tracefold/Conflicts"), (0, u "mark"), (0, u "([JI)V"), (0, .methodref 14 15), (0, .class_ 16), (0, .nameAndType 17 18), (0, u "com/example/tracefold/tracefold/ConflictsMarkPinLaw"), (0, u "singleBit"), (0, u "(JJ)Z"), (3, u "law"), (0, u "(JJIII)Z")] 4

def k1m0 : Method := { name := "<init>", desc := "()V", sig := { parameters := [], returnType := none }, accessFlags := 2, code := none }
def k1c1 : Code := { maxStack := 6, maxLocals := 6, code := method_2_code, exceptionTable := #[], attributes := #[] }
def k1m1 : Method := { name := "singleBit", desc := "(JJ)Z", sig := { parameters := [.long, .long], returnType := some .boolean }, accessFlags := 10, code := some k1c1 }
def k1c2 : Code := { maxStack := 6, maxLocals := 11, code := code, exceptionTable := #[], attributes := #[] }
def k1m2 : Method := { name := "law", desc := "(JJIII)Z", sig := { parameters := [.long, .long, .int, .int, .int], returnType := some .boolean }, accessFlags := 9, code := some k1c2 }
/-- com/example/tracefold/tracefold/ConflictsMarkPinLaw -/
def k1 : Class := { plain "com/example/tracefold/tracefold/ConflictsMarkPinLaw" (some 0) with
  accessFlags := 49
  interfaces := #[]
  cf := some (fileOf pool1 14 #[] #[{ accessFlags := 2, nameIndex := 5, descriptorIndex := 6, attributes := #[] }, { accessFlags := 10, nameIndex := 17, descriptorIndex := 18, attributes := #[] }, { accessFlags := 9, nameIndex := 22, descriptorIndex := 23, attributes := #[] }] 49 2 #[] #[])
  fields := #[]
  methods := #[k1m0, k1m1, k1m2]
  instanceTypes := #[]
  staticTypes := #[]
  resolved := Array.replicate 28 none
  statics := none }

def pool2 : Array CpInfo := pool [(2, .class_ 4), (1, u "java/lang/Object"), (0, u "<init>"), (0, u "()V"), (4, .class_ 13), (1, u "com/example/tracefold/tracefold/Conflicts"), (0, u "byProblem"), (0, u "Ljava/util/Map;"), (2, u "mark"), (0, u "([JI)V"), (16, .class_ 37), (0, u "com/example/tracefold/tracefold/Conflicts$Sets"), (13, .class_ 53), (1, u "com/example/tracefold/tracefold/Conflicts$Snapshot"), (2, .methodref 11 57), (0, .nameAndType 58 59), (0, u "bit"), (0, u "(II)J"), (14, .long 11400714819323198485)] 46

def k2m0 : Method := { name := "<init>", desc := "()V", sig := { parameters := [], returnType := none }, accessFlags := 0, code := none }
def k2c1 : Code := { maxStack := 6, maxLocals := 2, code := prog_8_method_4_code, exceptionTable := #[], attributes := #[] }
def k2m1 : Method := { name := "mark", desc := "([JI)V", sig := { parameters := [(.array .long), .int], returnType := none }, accessFlags := 8, code := some k2c1 }
def k2c2 : Code := { maxStack := 4, maxLocals := 3, code := prog_8_method_5_code, exceptionTable := #[], attributes := #[] }
def k2m2 : Method := { name := "bit", desc := "(II)J", sig := { parameters := [.int, .int], returnType := some .long }, accessFlags := 10, code := some k2c2 }
/-- com/example/tracefold/tracefold/Conflicts -/
def k2 : Class := { plain "com/example/tracefold/tracefold/Conflicts" (some 0) with
  accessFlags := 48
  interfaces := #[]
  cf := some (fileOf pool2 11 #[.nestMembers #[51, 36]] #[{ accessFlags := 0, nameIndex := 5, descriptorIndex := 6, attributes := #[] }, { accessFlags := 8, nameIndex := 18, descriptorIndex := 19, attributes := #[] }, { accessFlags := 10, nameIndex := 58, descriptorIndex := 59, attributes := #[] }] 48 2 #[] #[{ accessFlags := 18, nameIndex := 14, descriptorIndex := 15, attributes := #[] }])
  fields := #[{ name := "byProblem", type := (.object "java/util/Map"), accessFlags := 18, slot := 0, constantValue := 0 }]
  methods := #[k2m0, k2m1, k2m2]
  instanceTypes := #[(.object "java/util/Map")]
  staticTypes := #[]
  resolved := Array.replicate 121 none
  statics := none }

def pool3 : Array CpInfo := pool [(1, u "java/lang/Cloneable"), (0, .class_ 1), (0, u "java/lang/Object"), (0, .class_ 3)] 3

/-- java/lang/Cloneable -/
def k3 : Class := { plain "java/lang/Cloneable" (some 0) with
  accessFlags := 1537
  interfaces := #[]
  cf := some (fileOf pool3 2 #[] #[] 1537 4 #[] #[])
  fields := #[]
  methods := #[]
  instanceTypes := #[]
  staticTypes := #[]
  resolved := Array.replicate 8 none
  statics := none }

def pool4 : Array CpInfo := pool [(1, u "java/io/Serializable"), (0, .class_ 1), (0, u "java/lang/Object"), (0, .class_ 3)] 3

/-- java/io/Serializable -/
def k4 : Class := { plain "java/io/Serializable" (some 0) with
  accessFlags := 1537
  interfaces := #[]
  cf := some (fileOf pool4 2 #[] #[] 1537 4 #[] #[])
  fields := #[]
  methods := #[]
  instanceTypes := #[]
  staticTypes := #[]
  resolved := Array.replicate 8 none
  statics := none }

/-- the primitive byte -/
def k5 : Class := { plain "byte" none with kind := .primitive 'B', accessFlags := 0x411 }
/-- [B -/
def k6 : Class := { plain "[B" (some 0) with kind := .array 5 .byte, interfaces := #[3, 4], accessFlags := 1041 }

/-- the primitive int -/
def k7 : Class := { plain "int" none with kind := .primitive 'I', accessFlags := 0x411 }
/-- [I -/
def k8 : Class := { plain "[I" (some 0) with kind := .array 7 .int, interfaces := #[3, 4], accessFlags := 1041 }

/-- the primitive long -/
def k9 : Class := { plain "long" none with kind := .primitive 'J', accessFlags := 0x411 }
/-- [J -/
def k10 : Class := { plain "[J" (some 0) with kind := .array 9 .long, interfaces := #[3, 4], accessFlags := 1041 }

def heap : Heap := #[]
def classes : Array Class := #[k0, k1, k2, k3, k4, k5, k6, k7, k8, k9, k10]
def interned : List (Array UInt16 × Addr) := []
def slotsUsed : Nat := 0
def theMethod : MethodId := ⟨1, 2⟩
def args0 : Array Value := #[.long 5, .long 9, .int 3, .int 4, .int 0]
def aboutOver (below : List Frame) : State where
  vm := { classes := classes, interned := interned.toArray }
  heap := heap
  slotsUsed := slotsUsed
  threads := #[{ frames := .invoking theMethod args0 :: below }]
def below0 : List Frame := [.native { method := ⟨0, 0⟩, args := #[] }]
def about1 : State := aboutOver below0
def p0 : Program := .bare "" "" ""
def e0 : Env := launch0.env 0 0 0
theorem w_frames : about1.frames = Frame.invoking theMethod args0 :: below0 := rfl
set_option maxRecDepth 65536 in
theorem w_args : argsFit about1.vm theMethod args0 = true := by decide +kernel
set_option maxRecDepth 65536 in
theorem w_heap : heapFits about1 = true := by decide +kernel
set_option maxRecDepth 65536 in
theorem w_runnable : about1.curStatus? = some .runnable := by decide +kernel
set_option maxRecDepth 65536 in
theorem w_alone : about1.alone = true := by decide +kernel
set_option maxRecDepth 65536 in
theorem w_named : about1.methodNamed? x = some theMethod := by decide +kernel
set_option maxRecDepth 65536 in
theorem w_hears : about1.hears theMethod below0 = true := by decide +kernel
set_option maxRecDepth 65536 in
theorem w_ripe : about1.ripe theMethod args0 below0 = true := by decide +kernel
theorem w_running : about1.status = .running := rfl
set_option maxRecDepth 65536 in
theorem w_room : about1.hasRoom e0.platform room_1 = true :=
  launch0.hasRoom_least _ room_1 (by decide +kernel) (by decide +kernel) (by decide +kernel) (by decide +kernel) (by decide +kernel) (by decide +kernel)
theorem allAtoms_all (ts : List Jvm.Cond) (a : Array Jvm.Value) (st : Jvm.State) : (allAtoms ts).before a st = ts.all (fun c => c.before a st) := by
  induction ts with
  | nil => rfl
  | cons c t ih =>
    show (Jvm.Cond.and c (allAtoms t)).before a st = _
    rw [Jvm.Cond.before_and, ih, List.all_cons]
def words1 : List Jvm.Cond := Jvm.Cond.code x code maxLocals ret :: tables_1
/-- a 'code' word, met by the world's own term for the bytes: nothing is compared byte by byte -/
theorem code_word {y : MethodName} {bytes : ByteArray} {mx : Nat} {rt : Option FieldType} {a : Array Value} {s : State} {m : MethodId} {meth : Method} {c : Code} (h1 : s.methodNamed? y = some m) (h2 : s.vm.method? m = some meth) (h3 : meth.code = some c) (h4 : c.code = bytes)
    (h5 : (c.maxLocals == mx && c.exceptionTable.isEmpty && decide (c.maxStack ≤ mostOperands) && decide (meth.sig.returnType = rt) && !meth.locks && decide (parseMethodDescriptor y.desc = some meth.sig)) = true) : (Jvm.Cond.code y bytes mx rt).before a s = true := by
  simp only [Bool.and_eq_true, beq_iff_eq, Bool.not_eq_true', decide_eq_true_eq] at h5
  obtain ⟨⟨⟨⟨⟨g1, g2⟩, g3⟩, g4⟩, g5⟩, g6⟩ := h5
  simp [Cond.before, Cond.holds, Cond.value, h1, h2, h3, h4, g1, g2, g3, g4, g5, g6]
def isCode : Jvm.Cond → Bool
  | .code _ _ _ _ => true
  | _ => false
theorem all_split {L : List Jvm.Cond} {P : Jvm.Cond → Bool} (h1 : L.all (fun c => isCode c || P c) = true) (h2 : ∀ c ∈ L.filter isCode, P c = true) : L.all P = true := by
  refine List.all_eq_true.mpr fun c hc => ?_
  have h := List.all_eq_true.mp h1 c hc
  rcases Bool.eq_false_or_eq_true (isCode c) with hi | hi
  · exact h2 c (List.mem_filter.mpr ⟨hc, hi⟩)
  · simpa [hi] using h
set_option maxRecDepth 65536 in
theorem w_c0 : (Jvm.Cond.code x code maxLocals ret).before args0 about1 = true := code_word (m := ⟨1, 2⟩) (meth := k1m2) (c := k1c2) (by decide +kernel) rfl rfl rfl (by decide +kernel)
set_option maxRecDepth 65536 in
theorem w_c1 : (Jvm.Cond.code ({ cls := "com/example/tracefold/tracefold/Conflicts", name := "mark", desc := "([JI)V" } : Jvm.MethodName) prog_8_method_4_code (2 : Nat) (Option.none : Option Jvm.ClassFile.FieldType)).before args0 about1 = true := code_word (m := ⟨2, 1⟩) (meth := k2m1) (c := k2c1) (by decide +kernel) rfl rfl rfl (by decide +kernel)
set_option maxRecDepth 65536 in
theorem w_c2 : (Jvm.Cond.code ({ cls := "com/example/tracefold/tracefold/Conflicts", name := "bit", desc := "(II)J" } : Jvm.MethodName) prog_8_method_5_code (3 : Nat) (Option.some Jvm.ClassFile.FieldType.long)).before args0 about1 = true := code_word (m := ⟨2, 2⟩) (meth := k2m2) (c := k2c2) (by decide +kernel) rfl rfl rfl (by decide +kernel)
set_option maxRecDepth 65536 in
theorem w_c3 : (Jvm.Cond.code ({ cls := "com/example/tracefold/tracefold/ConflictsMarkPinLaw", name := "singleBit", desc := "(JJ)Z" } : Jvm.MethodName) method_2_code (6 : Nat) (Option.some Jvm.ClassFile.FieldType.boolean)).before args0 about1 = true := code_word (m := ⟨1, 1⟩) (meth := k1m1) (c := k1c1) (by decide +kernel) rfl rfl rfl (by decide +kernel)
def codes1 : List Jvm.Cond := [Jvm.Cond.code x code maxLocals ret, Jvm.Cond.code ({ cls := "com/example/tracefold/tracefold/Conflicts", name := "mark", desc := "([JI)V" } : Jvm.MethodName) prog_8_method_4_code (2 : Nat) (Option.none : Option Jvm.ClassFile.FieldType), Jvm.Cond.code ({ cls := "com/example/tracefold/tracefold/Conflicts", name := "bit", desc := "(II)J" } : Jvm.MethodName) prog_8_method_5_code (3 : Nat) (Option.some Jvm.ClassFile.FieldType.long), Jvm.Cond.code ({ cls := "com/example/tracefold/tracefold/ConflictsMarkPinLaw", name := "singleBit", desc := "(JJ)Z" } : Jvm.MethodName) method_2_code (6 : Nat) (Option.some Jvm.ClassFile.FieldType.boolean)]
set_option maxRecDepth 65536 in
theorem codes_eq : words1.filter isCode = codes1 := rfl
theorem w_codes : ∀ c ∈ words1.filter isCode, c.before args0 about1 = true := by
  rw [codes_eq]
  intro c hc
  simp only [codes1, List.mem_cons, List.not_mem_nil, or_false] at hc
  rcases hc with rfl | rfl | rfl | rfl
  · exact w_c0
  · exact w_c1
  · exact w_c2
  · exact w_c3
set_option maxRecDepth 65536 in
theorem w_t1 : words1.all (fun c => isCode c || c.before args0 about1) = true := by decide +kernel
theorem w_tables : (allAtoms (Jvm.Cond.code x code maxLocals ret :: tables_1)).before args0 about1 = true := by
  rw [allAtoms_all]
  show words1.all (fun c => c.before args0 about1) = true
  refine all_split ?_ w_codes
  rw [w_t1]
set_option maxRecDepth 65536 in
theorem w_case : (Jvm.Cond.and given_1 narrow_1).before args0 about1 = true := by decide +kernel
theorem w_applies : (headSpec (Jvm.Cond.code x code maxLocals ret :: tables_1) room_1).applies x e0.platform about1 = true :=
  (Spec.applies_iff w_frames).mpr ⟨w_running, w_runnable, w_alone, w_named, w_hears, w_ripe, w_room, w_tables⟩
theorem atStart : AtStart classFile x code maxLocals ret World_1 tables_1 room_1 Calls_1 rest_1 Pre_1 launch0 p0 e0 about1 theMethod args0 below0 :=
  ⟨lists_1, trivial, launch0.admits_env _ _ _, launch0.least_env, fairChoices_fair.cas, fairChoices_fair.clock, w_frames, w_args, w_heap, w_applies, trivial, trivial, w_case⟩
end start1
theorem witness_1 : WitnessClaimed_1 := ⟨start1.p0, start1.e0, start1.about1, start1.theMethod, start1.args0, start1.below0, start1.atStart⟩
end Jvm.Pilot.@@N@@

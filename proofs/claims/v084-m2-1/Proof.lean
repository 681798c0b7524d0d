import JvmDerived
import JvmDerived.Pilot.@@N@@Statement
import JvmDerived.Pilot.@@N@@Code
set_option linter.unusedVariables false
set_option linter.unusedSimpArgs false
namespace Jvm.Pilot.@@N@@
open Jvm Jvm.ClassFile Sem Op Lib Jvm.Free Jvm.Stand Jvm.LawKit Jvm.RoadKit Bundle Jvm.Pilot.@@N@@.Jvm.D
/-! own layer: forward walking in continuation style, arrays as functions -/
def own_R (tb : Tables) (e : Env) (below : List Frame) (P : State → Outcome → Prop) (st : State) : Prop := ∃ t o, Steps tb e below st t ∧ P t o
theorem own_fwd {tb : Tables} {e : Env} {below : List Frame} {P : State → Outcome → Prop} {st st' : State} (k : ∀ t, Steps tb e below st' t → Steps tb e below st t) (h : own_R tb e below P st') : own_R tb e below P st := by
  obtain ⟨t, o, h1, h2⟩ := h; exact ⟨t, o, k t h1, h2⟩
theorem own_trn {tb : Tables} {e : Env} {below : List Frame} {P : State → Outcome → Prop} {st st' : State} (k : Steps tb e below st st') (h : own_R tb e below P st') : own_R tb e below P st := own_fwd (fun _ q => k.trans q) h
theorem own_nm {tb : Tables} {e : Env} {below : List Frame} {P : State → Outcome → Prop} {st : State} (h : ∀ P' : State → Outcome → Prop, (∀ t o, P t o → P' t o) → own_R tb e below P' st) : own_R tb e below P st := h P fun _ _ q => q
/-- an array, n long, place i holds f i -/
def own_AV (Z : State) (h : Heap) (a : Addr) (ty : FieldType) (n : Nat) (f : Nat → Value) : Prop := ∃ c : Cell, Arr Z h a c ty ∧ c.slots.size = n ∧ n < 2 ^ 31 ∧ ∀ i, i < n → c.slots[i]? = some (f i)
abbrev own_AI (Z : State) (h : Heap) (a : Addr) (ty : FieldType) (n : Nat) (f : Nat → Int32) : Prop := own_AV Z h a ty n fun i => .int (f i)
abbrev own_AJ (Z : State) (h : Heap) (a : Addr) (n : Nat) (f : Nat → Int64) : Prop := own_AV Z h a .long n fun i => .long (f i)
def own_upd {α : Type} (f : Nat → α) (i : Nat) (x : α) : Nat → α := fun k => if k = i then x else f k
theorem own_upd_hit {α : Type} (f : Nat → α) (i : Nat) (x : α) : own_upd f i x i = x := if_pos rfl
theorem own_upd_miss {α : Type} (f : Nat → α) {i k : Nat} (x : α) (q : k ≠ i) : own_upd f i x k = f k := if_neg q
section Own
variable {p : Program} {l : Launch} {e : Env} {R : Room} {s : State} {m : MethodId} {args : Array Value} {below : List Frame} {meth : Method} {c : Code} {T : State} {locs : List Loc} {cells slots : Nat} {Z : State} {a0 : Array Value} {h h' : Heap} {a b : Addr} {ty : FieldType} {n : Nat} {f : Nat → Value} {v : Value} {sl : Nat}
theorem own_AV.lt (F : own_AV Z h a ty n f) : a < h.size := by obtain ⟨c, A, -⟩ := F; exact A.lt
theorem own_AV.bd (F : own_AV Z h a ty n f) : n < 2 ^ 31 := by obtain ⟨c, A, -, q, -⟩ := F; exact q
theorem own_AV.ext (F : own_AV Z h a ty n f) (E : Ext h h') : own_AV Z h' a ty n f := by obtain ⟨c, A, r⟩ := F; exact ⟨c, A.ext E, r⟩
theorem own_AV.other (F : own_AV Z h b ty n f) (W : Wr h h' a sl v) (q : b ≠ a) : own_AV Z h' b ty n f := by obtain ⟨c, A, r⟩ := F; exact ⟨c, A.other W q, r⟩
theorem own_AV.keep {ws : List Addr} (F : own_AV Z h a ty n f) (K : Keep h h' ws) (q : a ∉ ws) : own_AV Z h' a ty n f := by obtain ⟨c, A, r⟩ := F; exact ⟨c, ⟨K.2.1 a c A.1 q, A.2⟩, r⟩
theorem own_AV.cong {f' : Nat → Value} (F : own_AV Z h a ty n f) (q : ∀ i, i < n → f' i = f i) : own_AV Z h a ty n f' := by obtain ⟨c, A, r1, r2, r3⟩ := F; exact ⟨c, A, r1, r2, fun i hi => by rw [q i hi]; exact r3 i hi⟩
theorem own_clamp {j : Int32} {i : Nat} (hj : j.toInt = (i : Int)) : j.toNatClampNeg = i ∧ ¬ j < 0 := by
  have q0 : (0 : Int32).toInt = 0 := rfl
  exact ⟨by unfold Int32.toNatClampNeg; omega, by rw [Int32.lt_iff_toInt_lt]; omega⟩
theorem own_inb {cl : Cell} {j : Int32} {i : Nat} (hj : j.toInt = (i : Int)) (S : cl.slots.size = n) (hi : i < n) : ¬ (j < 0 ∨ cl.slots.size ≤ j.toNatClampNeg) := by
  obtain ⟨q1, q2⟩ := own_clamp hj
  rw [q1]; rintro (q | q)
  · exact q2 q
  · omega
theorem own_AV.new {k : ClassId} {z : Int32} (A : Arr Z h a (newA k ty z) ty) (hz : z.toInt = (n : Int)) : own_AV Z h a ty n (fun _ => defaultValue ty) := by
  obtain ⟨q1, q2⟩ := own_clamp hz
  have hb := z.toInt_lt
  refine ⟨_, A, by rw [sz_new]; exact q1, by omega, fun i hi => ?_⟩
  simp [newA, q1, hi]
theorem own_ldI (X : Stand p l e R s m args below meth c T locs cells slots) (hx : p.tables.exec = Jvm.exec) (hZ : Z.Warmed39 s.vm) (eT : T.heap = h) (F : own_AV Z h a .int n f) {j : Int32} (i : Nat) (hj : j.toInt = (i : Int)) (hi : i < n) {g : JFrame} (hg : g.method = m) {rest : List Value} (hs : g.stack = .int j :: .ref a :: rest) (hd : decode c.code g.pc = .ok (.iaload, 1)) :
    ∀ t, Steps p.tables e below (T.setTop { g with pc := g.pc + 1, stack := f i :: rest }) t → Steps p.tables e below (T.setTop g) t := fun t k => by
  obtain ⟨cl, A, S, -, H⟩ := F
  exact X.iaload hx (by rw [eT]; exact A.1) (State.isArrayOf_alike hZ.alike A.2.1) A.2.2 (own_inb hj S hi) (by rw [(own_clamp hj).1]; exact H i hi) hg hs hd t k
theorem own_ldS (X : Stand p l e R s m args below meth c T locs cells slots) (hx : p.tables.exec = Jvm.exec) (hZ : Z.Warmed39 s.vm) (eT : T.heap = h) (F : own_AV Z h a .short n f) {j : Int32} (i : Nat) (hj : j.toInt = (i : Int)) (hi : i < n) {g : JFrame} (hg : g.method = m) {rest : List Value} (hs : g.stack = .int j :: .ref a :: rest) (hd : decode c.code g.pc = .ok (.saload, 1)) :
    ∀ t, Steps p.tables e below (T.setTop { g with pc := g.pc + 1, stack := f i :: rest }) t → Steps p.tables e below (T.setTop g) t := fun t k => by
  obtain ⟨cl, A, S, -, H⟩ := F
  exact X.saload hx (by rw [eT]; exact A.1) (State.isArrayOf_alike hZ.alike A.2.1) A.2.2 (own_inb hj S hi) (by rw [(own_clamp hj).1]; exact H i hi) hg hs hd t k
theorem own_ldC (X : Stand p l e R s m args below meth c T locs cells slots) (hx : p.tables.exec = Jvm.exec) (hZ : Z.Warmed39 s.vm) (eT : T.heap = h) (F : own_AV Z h a .char n f) {j : Int32} (i : Nat) (hj : j.toInt = (i : Int)) (hi : i < n) {g : JFrame} (hg : g.method = m) {rest : List Value} (hs : g.stack = .int j :: .ref a :: rest) (hd : decode c.code g.pc = .ok (.caload, 1)) :
    ∀ t, Steps p.tables e below (T.setTop { g with pc := g.pc + 1, stack := f i :: rest }) t → Steps p.tables e below (T.setTop g) t := fun t k => by
  obtain ⟨cl, A, S, -, H⟩ := F
  exact X.caload hx (by rw [eT]; exact A.1) (State.isArrayOf_alike hZ.alike A.2.1) A.2.2 (own_inb hj S hi) (by rw [(own_clamp hj).1]; exact H i hi) hg hs hd t k
theorem own_ldJ (X : Stand p l e R s m args below meth c T locs cells slots) (hx : p.tables.exec = Jvm.exec) (hZ : Z.Warmed39 s.vm) (eT : T.heap = h) (F : own_AV Z h a .long n f) {j : Int32} (i : Nat) (hj : j.toInt = (i : Int)) (hi : i < n) {g : JFrame} (hg : g.method = m) {rest : List Value} (hs : g.stack = .int j :: .ref a :: rest) (hd : decode c.code g.pc = .ok (.laload, 1)) :
    ∀ t, Steps p.tables e below (T.setTop { g with pc := g.pc + 1, stack := f i :: rest }) t → Steps p.tables e below (T.setTop g) t := fun t k => by
  obtain ⟨cl, A, S, -, H⟩ := F
  exact X.laload hx (by rw [eT]; exact A.1) (State.isArrayOf_alike hZ.alike A.2.1) A.2.2 (own_inb hj S hi) (by rw [(own_clamp hj).1]; exact H i hi) hg hs hd t k
theorem own_len (X : Stand p l e R s m args below meth c T locs cells slots) (hx : p.tables.exec = Jvm.exec) (hZ : Z.Warmed39 s.vm) (eT : T.heap = h) (F : own_AV Z h a ty n f) (z : Int32) (hz : z.toInt = (n : Int)) {g : JFrame} (hg : g.method = m) {rest : List Value} (hs : g.stack = .ref a :: rest) (hd : decode c.code g.pc = .ok (.arraylength, 1)) :
    ∀ t, Steps p.tables e below (T.setTop { g with pc := g.pc + 1, stack := .int z :: rest }) t → Steps p.tables e below (T.setTop g) t := fun t k => by
  obtain ⟨cl, A, S, q, H⟩ := F
  have e1 : cl.slots.size.toInt32 = z := by
    rw [S]; apply Int32.toInt_inj.mp; rw [hz]; exact len_toInt q
  refine X.arraylength hx (by rw [eT]; exact A.1) (State.isArrayOf_alike hZ.alike A.2.1) hg hs hd t ?_
  rw [e1]; exact k
theorem own_AV.set {h' : Heap} {cl : Cell} {j : Int32} {i : Nat} {w : Value} (A : Arr Z h a cl ty) (S : cl.slots.size = n) (q : n < 2 ^ 31) (H : ∀ i, i < n → cl.slots[i]? = some (f i)) (hj : j.toInt = (i : Int)) (hi : i < n) (W : Wr h h' a j.toNatClampNeg w) : own_AV Z h' a ty n (own_upd f i w) := by
  rw [(own_clamp hj).1] at W
  refine ⟨_, A.same W, by rw [sz_set]; exact S, q, fun k hk => ?_⟩
  by_cases e : k = i
  · subst e; rw [own_upd_hit]; simp [Cell.setSlot, S, hi]
  · rw [own_upd_miss _ _ e]; simp only [Cell.setSlot]; rw [Array.getElem?_setIfInBounds_ne (Ne.symm e)]; exact H k hk
theorem own_stI {g0 : Nat → Int32} (X : Stand p l e R s m args below meth c T locs cells slots) (hx : p.tables.exec = Jvm.exec) (hZ : Z.Warmed39 s.vm) (eT : T.heap = h) (F : own_AI Z h a .int n g0) {j x : Int32} (i : Nat) (hj : j.toInt = (i : Int)) (hi : i < n) {g : JFrame} (hg : g.method = m) {rest : List Value} (hs : g.stack = .int x :: .int j :: .ref a :: rest) (hd : decode c.code g.pc = .ok (.iastore, 1)) :
    ∃ T' h', Stand p l e R s m args below meth c T' (locs ++ [⟨a, j.toNatClampNeg⟩]) cells slots ∧ T'.heap = h' ∧ Wr h h' a j.toNatClampNeg (.int x) ∧ own_AI Z h' a .int n (own_upd g0 i x) ∧ ∀ t, Steps p.tables e below (T'.setTop { g with pc := g.pc + 1, stack := rest }) t → Steps p.tables e below (T.setTop g) t := by
  obtain ⟨cl, A, S, q, H⟩ := F
  obtain ⟨T', h', X', e', W, st⟩ := stI X hx hZ eT A (own_inb hj S hi) hg hs hd
  exact ⟨T', h', X', e', W, (own_AV.set A S q H hj hi W).cong fun k _ => by simp only [own_upd]; split <;> rfl, st⟩
theorem own_stS {g0 : Nat → Int32} (X : Stand p l e R s m args below meth c T locs cells slots) (hx : p.tables.exec = Jvm.exec) (hZ : Z.Warmed39 s.vm) (eT : T.heap = h) (F : own_AI Z h a .short n g0) {j x : Int32} (i : Nat) (hj : j.toInt = (i : Int)) (hi : i < n) {g : JFrame} (hg : g.method = m) {rest : List Value} (hs : g.stack = .int x :: .int j :: .ref a :: rest) (hd : decode c.code g.pc = .ok (.sastore, 1)) :
    ∃ T' h', Stand p l e R s m args below meth c T' (locs ++ [⟨a, j.toNatClampNeg⟩]) cells slots ∧ T'.heap = h' ∧ Wr h h' a j.toNatClampNeg (.int (nar .short x)) ∧ own_AI Z h' a .short n (own_upd g0 i (nar .short x)) ∧ ∀ t, Steps p.tables e below (T'.setTop { g with pc := g.pc + 1, stack := rest }) t → Steps p.tables e below (T.setTop g) t := by
  obtain ⟨cl, A, S, q, H⟩ := F
  obtain ⟨T', h', X', e', W, st⟩ := stS X hx hZ eT A (own_inb hj S hi) hg hs hd
  exact ⟨T', h', X', e', W, (own_AV.set A S q H hj hi W).cong fun k _ => by simp only [own_upd]; split <;> rfl, st⟩
theorem own_stC {g0 : Nat → Int32} (X : Stand p l e R s m args below meth c T locs cells slots) (hx : p.tables.exec = Jvm.exec) (hZ : Z.Warmed39 s.vm) (eT : T.heap = h) (F : own_AI Z h a .char n g0) {j x : Int32} (i : Nat) (hj : j.toInt = (i : Int)) (hi : i < n) {g : JFrame} (hg : g.method = m) {rest : List Value} (hs : g.stack = .int x :: .int j :: .ref a :: rest) (hd : decode c.code g.pc = .ok (.castore, 1)) :
    ∃ T' h', Stand p l e R s m args below meth c T' (locs ++ [⟨a, j.toNatClampNeg⟩]) cells slots ∧ T'.heap = h' ∧ Wr h h' a j.toNatClampNeg (.int (nar .char x)) ∧ own_AI Z h' a .char n (own_upd g0 i (nar .char x)) ∧ ∀ t, Steps p.tables e below (T'.setTop { g with pc := g.pc + 1, stack := rest }) t → Steps p.tables e below (T.setTop g) t := by
  obtain ⟨cl, A, S, q, H⟩ := F
  obtain ⟨T', h', X', e', W, st⟩ := stC X hx hZ eT A (own_inb hj S hi) hg hs hd
  exact ⟨T', h', X', e', W, (own_AV.set A S q H hj hi W).cong fun k _ => by simp only [own_upd]; split <;> rfl, st⟩
theorem own_stJ {g0 : Nat → Int64} (X : Stand p l e R s m args below meth c T locs cells slots) (hx : p.tables.exec = Jvm.exec) (hZ : Z.Warmed39 s.vm) (eT : T.heap = h) (F : own_AJ Z h a n g0) {j : Int32} {x : Int64} (i : Nat) (hj : j.toInt = (i : Int)) (hi : i < n) {g : JFrame} (hg : g.method = m) {rest : List Value} (hs : g.stack = .long x :: .int j :: .ref a :: rest) (hd : decode c.code g.pc = .ok (.lastore, 1)) :
    ∃ T' h', Stand p l e R s m args below meth c T' (locs ++ [⟨a, j.toNatClampNeg⟩]) cells slots ∧ T'.heap = h' ∧ Wr h h' a j.toNatClampNeg (.long x) ∧ own_AJ Z h' a n (own_upd g0 i x) ∧ ∀ t, Steps p.tables e below (T'.setTop { g with pc := g.pc + 1, stack := rest }) t → Steps p.tables e below (T.setTop g) t := by
  obtain ⟨cl, A, S, q, H⟩ := F
  obtain ⟨T', h', X', e', W, st⟩ := stJ X hx hZ eT A (own_inb hj S hi) hg hs hd
  exact ⟨T', h', X', e', W, (own_AV.set A S q H hj hi W).cong fun k _ => by simp only [own_upd]; split <;> rfl, st⟩
theorem own_newA (X : Stand p l e R s m args below meth c T locs cells slots) (hx : p.tables.exec = Jvm.exec) (hZ : Z.Warmed39 s.vm) {aty : ArrayType} (w : (Cond.arrayClass (newarray.typeOf aty)).before a0 Z = true) (eT : T.heap = h) {z : Int32} (hz : z.toInt = (n : Int)) {cap : Nat} (hcap : n ≤ cap) {g : JFrame} (hg : g.method = m) (hd : decode c.code g.pc = .ok (.newarray aty, 2)) {rest : List Value} (hs : g.stack = .int z :: rest)
    (hb : cap * 8 ≤ 536870912) (hc : cells + 1 ≤ R.cells) (hl : slots + cap ≤ R.slots) {ad : String} (had : "[" ++ (newarray.typeOf aty).toString = ad) :
    ∃ T' h' b, b = h.size ∧ Stand p l e R s m args below meth c T' locs (cells + 1) (slots + cap) ∧ T'.heap = h' ∧ Ext h h' ∧ own_AV Z h' b (newarray.typeOf aty) n (fun _ => defaultValue (newarray.typeOf aty)) ∧ Exa Z h' b ad ∧
      ∀ t, Steps p.tables e below (T'.setTop { g with pc := g.pc + 2, stack := .ref b :: rest }) t → Steps p.tables e below (T.setTop g) t := by
  obtain ⟨q1, q2⟩ := own_clamp hz
  obtain ⟨T', h', k, X', e', E, A, Ea, st⟩ := newPE X hx hZ w eT hg hd hs q2 (by rw [q1]; exact hcap) hb hc hl had
  exact ⟨T', h', _, rfl, X', e', E, own_AV.new A hz, Ea, st⟩
end Own
def own_two {α : Type} (x y : α) : Nat → α
  | 0 => x
  | _ => y
theorem own_two_0 {α : Type} (x y : α) : own_two x y 0 = x := rfl
theorem own_two_1 {α : Type} (x y : α) : own_two x y 1 = y := rfl
theorem own_nlt {i n : Nat} (hi : i < n) (hn : n < 2 ^ 31) : i.toInt32 < n.toInt32 := by
  rw [Int32.lt_iff_toInt_lt, len_toInt hn, len_toInt (by omega)]; omega
theorem own_nge {i n : Nat} (hi : n ≤ i) (hn : i < 2 ^ 31) : ¬ i.toInt32 < n.toInt32 := by
  rw [Int32.lt_iff_toInt_lt, len_toInt hn, len_toInt (by omega)]; omega
theorem own_nsucc {i : Nat} (hn : i + 1 < 2 ^ 31) : i.toInt32 + (1 : Int32) = (i + 1).toInt32 := by
  have e1 : (1 : Int32).toInt = 1 := rfl
  have h1 := c_iadd i.toInt32 1
  have h2 := rng32 (i.toInt32 + 1)
  rw [← Int32.toInt_inj, len_toInt hn]
  rw [len_toInt (by omega), e1] at h1
  omega
theorem own_and3 (x : Int32) : (x &&& (3 : Int32)) = 0 ∨ (x &&& (3 : Int32)) = 1 ∨ (x &&& (3 : Int32)) = 2 ∨ (x &&& (3 : Int32)) = 3 := by
  have h := c_mask x 3 2 (by decide) (by decide)
  have e : ((2 ^ 2 : Nat) : Int) = 4 := by decide
  rw [e] at h
  have e0 : (0 : Int32).toInt = 0 := rfl
  have e1 : (1 : Int32).toInt = 1 := rfl
  have e2 : (2 : Int32).toInt = 2 := rfl
  have e3 : (3 : Int32).toInt = 3 := rfl
  simp only [← Int32.toInt_inj]
  omega
theorem own_i0 : (0 : Int32).toInt = 0 := rfl
theorem own_i1 : (1 : Int32).toInt = 1 := rfl
theorem own_i16 : (16 : Int32).toInt = 16 := rfl
theorem own_add {a b : Int32} {i j : Nat} (ha : a.toInt = (i : Int)) (hb : b.toInt = (j : Int)) (h : i + j < 2 ^ 31) : (a + b).toInt = ((i + j : Nat) : Int) := by
  have a1 := c_iadd a b
  have r := rng32 (a + b)
  omega
theorem own_pred {a : Int32} {i : Nat} (ha : a.toInt = ((i + 1 : Nat) : Int)) : (a - (1 : Int32)).toInt = (i : Int) := by
  have a1 := c_isub a 1
  have r := rng32 (a - 1); have r' := rng32 a
  rw [own_i1] at a1
  omega
theorem own_half {a : Int32} {i : Nat} (ha : a.toInt = (i : Int)) : ((a.toUInt32 >>> ((1 : Int32) &&& 31).toUInt32).toInt32).toInt = ((i / 2 : Nat) : Int) := by
  have h := c_iushr a 1 1 (by decide) (by decide)
  rw [h, ha]
  have r := rng32 a
  omega
def own_Val (bf : Int32) (F K : Nat) (ft : Nat → Int64) (fs : Nat → Int32) (q : Int) (r : Int32) : Prop := ∃ i, F ≤ i ∧ i ≤ F + K ∧ (∀ j, F ≤ j → j < i → (ft j).toInt ≤ q) ∧ (∀ j, i ≤ j → j < F + K → q < (ft j).toInt) ∧ r = (if i = F then bf else fs (i - 1))
def own_Asc (F K : Nat) (ft : Nat → Int64) : Prop := ∀ i j, F ≤ i → i < j → j < F + K → (ft i).toInt < (ft j).toInt
theorem own_val_back {bf0 bf : Int32} {F0 K0 F K : Nat} {ft : Nat → Int64} {fs : Nat → Int32} {d q : Int} {r : Int32} (h1 : F0 ≤ F) (h2 : F + K = F0 + K0) (hd : ∀ j, F0 ≤ j → j < F → (ft j).toInt ≤ d) (hb : bf = if F = F0 then bf0 else fs (F - 1)) (hq : d ≤ q) (V : own_Val bf F K ft fs q r) : own_Val bf0 F0 K0 ft fs q r := by
  obtain ⟨i, a1, a2, a3, a4, a5⟩ := V
  refine ⟨i, by omega, by omega, fun j b1 b2 => ?_, fun j b1 b2 => a4 j b1 (by omega), ?_⟩
  · by_cases c : j < F
    · exact Int.le_trans (hd j b1 c) hq
    · exact a3 j (by omega) b2
  · rw [a5]
    by_cases c : i = F
    · rw [if_pos c, hb, c]
    · rw [if_neg c, if_neg (by omega)]
theorem own_add_no {bf0 bf size : Int32} {F0 K0 F K : Nat} {ft : Nat → Int64} {fs : Nat → Int32} {t d : Int} (h1 : F0 ≤ F) (h2 : F + K = F0 + K0) (hd : ∀ j, F0 ≤ j → j < F → (ft j).toInt ≤ d) (hb : bf = if F = F0 then bf0 else fs (F - 1)) (hlt : ∀ j, F0 ≤ j → j < F0 + K0 → (ft j).toInt < t) (hs : (if K = 0 then bf else fs (F + K - 1)) = size) :
    ∀ (q : Int) (r : Int32), d ≤ q → own_Val bf F K ft fs q r → (t ≤ q ∧ r = size) ∨ (q < t ∧ own_Val bf0 F0 K0 ft fs q r) := by
  intro q r hq V
  by_cases c : q < t
  · exact Or.inr ⟨c, own_val_back h1 h2 hd hb hq V⟩
  · refine Or.inl ⟨by omega, ?_⟩
    obtain ⟨i, a1, a2, a3, a4, a5⟩ := V
    have e : i = F + K := by
      rcases Nat.lt_or_ge i (F + K) with l | l
      · have := a4 i (Nat.le_refl _) l
        have := hlt i (by omega) (by omega)
        omega
      · omega
    rw [a5, ← hs, e]
    by_cases c2 : K = 0
    · rw [if_pos (by omega), if_pos c2]
    · rw [if_neg (by omega), if_neg c2]
theorem own_add_yes {bf0 bf size : Int32} {F0 K0 F K : Nat} {ft : Nat → Int64} {fs : Nat → Int32} {t : Int64} {d : Int} (h1 : F0 ≤ F) (h2 : F + K = F0 + K0) (hd : ∀ j, F0 ≤ j → j < F → (ft j).toInt ≤ d) (hb : bf = if F = F0 then bf0 else fs (F - 1)) (hlt : ∀ j, F0 ≤ j → j < F0 + K0 → (ft j).toInt < t.toInt) :
    ∀ (q : Int) (r : Int32), d ≤ q → own_Val bf F (K + 1) (own_upd ft (F + K) t) (own_upd fs (F + K) size) q r → (t.toInt ≤ q ∧ r = size) ∨ (q < t.toInt ∧ own_Val bf0 F0 K0 ft fs q r) := by
  intro q r hq V
  obtain ⟨i, a1, a2, a3, a4, a5⟩ := V
  by_cases c : q < t.toInt
  · have e : i ≤ F + K := by
      rcases Nat.lt_or_ge (F + K) i with l | l
      · have := a3 (F + K) (by omega) l
        rw [own_upd_hit] at this
        omega
      · exact l
    refine Or.inr ⟨c, own_val_back h1 h2 hd hb hq ⟨i, a1, e, fun j b1 b2 => ?_, fun j b1 b2 => ?_, ?_⟩⟩
    · have := a3 j b1 b2; rw [own_upd_miss _ _ (by omega)] at this; exact this
    · have := a4 j b1 (by omega); rw [own_upd_miss _ _ (by omega)] at this; exact this
    · rw [a5]
      by_cases c2 : i = F
      · rw [if_pos c2, if_pos c2]
      · rw [if_neg c2, if_neg c2, own_upd_miss _ _ (by omega)]
  · refine Or.inl ⟨by omega, ?_⟩
    have e : i = F + K + 1 := by
      rcases Nat.lt_or_ge i (F + K + 1) with l | l
      · exfalso
        have q1 := a4 (F + K) (by omega) (by omega)
        rw [own_upd_hit] at q1
        omega
      · omega
    rw [a5, if_neg (by omega), e, show F + K + 1 - 1 = F + K from rfl, own_upd_hit]
theorem own_asc_sub {F0 K0 F K : Nat} {ft : Nat → Int64} (h1 : F0 ≤ F) (h2 : F + K = F0 + K0) (A : own_Asc F0 K0 ft) : own_Asc F K ft := fun i j a b c => A i j (by omega) b (by omega)
theorem own_asc_up {F K : Nat} {ft : Nat → Int64} {t : Int64} (A : own_Asc F K ft) (hlt : ∀ j, F ≤ j → j < F + K → (ft j).toInt < t.toInt) : own_Asc F (K + 1) (own_upd ft (F + K) t) := fun i j a b c => by
  rw [own_upd_miss _ _ (by omega : i ≠ F + K)]
  by_cases e : j = F + K
  · rw [e, own_upd_hit]; exact hlt i a (by omega)
  · rw [own_upd_miss _ _ e]; exact A i j a b (by omega)
theorem own_d1_0 : decode prog_88_method_1_code 0 = .ok (.aload_n 0, 1) := by decide +kernel
theorem own_d1_1 : decode prog_88_method_1_code 1 = .ok (.invokespecial 1, 3) := by decide +kernel
theorem own_d1_4 : decode prog_88_method_1_code 4 = .ok (.aload_n 0, 1) := by decide +kernel
theorem own_d1_5 : decode prog_88_method_1_code 5 = .ok (.bipush 16, 2) := by decide +kernel
theorem own_d1_7 : decode prog_88_method_1_code 7 = .ok (.newarray .long, 2) := by decide +kernel
theorem own_d1_9 : decode prog_88_method_1_code 9 = .ok (.putfield 9, 3) := by decide +kernel
theorem own_d1_12 : decode prog_88_method_1_code 12 = .ok (.aload_n 0, 1) := by decide +kernel
theorem own_d1_13 : decode prog_88_method_1_code 13 = .ok (.bipush 16, 2) := by decide +kernel
theorem own_d1_15 : decode prog_88_method_1_code 15 = .ok (.newarray .int, 2) := by decide +kernel
theorem own_d1_17 : decode prog_88_method_1_code 17 = .ok (.putfield 13, 3) := by decide +kernel
theorem own_d1_20 : decode prog_88_method_1_code 20 = .ok (.aload_n 0, 1) := by decide +kernel
theorem own_d1_21 : decode prog_88_method_1_code 21 = .ok (.lload_n 1, 1) := by decide +kernel
theorem own_d1_22 : decode prog_88_method_1_code 22 = .ok (.putfield 17, 3) := by decide +kernel
theorem own_d1_25 : decode prog_88_method_1_code 25 = .ok (.aload_n 0, 1) := by decide +kernel
theorem own_d1_26 : decode prog_88_method_1_code 26 = .ok (.iload_n 3, 1) := by decide +kernel
theorem own_d1_27 : decode prog_88_method_1_code 27 = .ok (.putfield 21, 3) := by decide +kernel
theorem own_d1_30 : decode prog_88_method_1_code 30 = .ok (.return_, 1) := by decide +kernel
theorem own_pn0 : plainName "com/example/ramp99/ramp99/service/policy/SizeHistory" = true := by first | (simp [plainName, overriddenIn]; done) | decide +kernel
theorem own_ef1 (m : MethodId) (a1 : Addr) (q1 : Int64) (p1 : Int32) : entryFrame m #[(.ref a1), (.long q1), (.int p1)] 4 = mkF m 0 #[.val (.ref a1), .val (.long q1), .second, .val (.int p1)] [] := by first | (simp [entryFrame, mkF, argsToLocals, Value.category]; done) | rfl
def own_Q1 (Z : State) (a1 : Addr) (q1 : Int64) (p1 : Int32) (h0 : Heap) (n0 : Nat) (v : Option Value) (h : Heap) (L : List Loc) : Prop := v = none ∧ Fr n0 L ∧ Keep h0 h [a1] ∧ ∃ tA sA, own_AJ Z h tA 16 (fun _ => (0 : Int64)) ∧ own_AI Z h sA .int 16 (fun _ => (0 : Int32)) ∧ h0.size ≤ tA ∧ h0.size ≤ sA ∧ tA ≠ sA ∧ Exa Z h a1 "com/example/ramp99/ramp99/service/policy/SizeHistory" ∧ Fld Z h a1 "com/example/ramp99/ramp99/service/policy/SizeHistory" "times" "[J" (.ref tA) ∧ Fld Z h a1 "com/example/ramp99/ramp99/service/policy/SizeHistory" "sizes" "[I" (.ref sA) ∧ Fld Z h a1 "com/example/ramp99/ramp99/service/policy/SizeHistory" "spanNanos" "J" (.long q1) ∧ Fld Z h a1 "com/example/ramp99/ramp99/service/policy/SizeHistory" "before" "I" (.int p1) ∧ Fld Z h a1 "com/example/ramp99/ramp99/service/policy/SizeHistory" "first" "I" (.int (0 : Int32)) ∧ Fld Z h a1 "com/example/ramp99/ramp99/service/policy/SizeHistory" "count" "I" (.int (0 : Int32))
set_option maxRecDepth 65536 in
set_option maxHeartbeats 40000000 in
theorem own_rm1 (l : Launch) (Z : State) (a0 : Array Value) (hw : ∀ d ∈ tables_1, d.before a0 Z = true) (ws : List Jvm.Cond) (a1 : Addr) (q1 : Int64) (p1 : Int32) (h0 : Heap) (n0 : Nat) (Z0 : n0 ≤ h0.size) (pE : Exa Z h0 a1 "com/example/ramp99/ramp99/service/policy/SizeHistory") (pF0 : Fld Z h0 a1 "com/example/ramp99/ramp99/service/policy/SizeHistory" "times" "[J" .null) (pF1 : Fld Z h0 a1 "com/example/ramp99/ramp99/service/policy/SizeHistory" "sizes" "[I" .null) (pF2 : Fld Z h0 a1 "com/example/ramp99/ramp99/service/policy/SizeHistory" "spanNanos" "J" (.long (0 : Int64))) (pF3 : Fld Z h0 a1 "com/example/ramp99/ramp99/service/policy/SizeHistory" "before" "I" (.int (0 : Int32))) (pF4 : Fld Z h0 a1 "com/example/ramp99/ramp99/service/policy/SizeHistory" "first" "I" (.int (0 : Int32))) (pF5 : Fld Z h0 a1 "com/example/ramp99/ramp99/service/policy/SizeHistory" "count" "I" (.int (0 : Int32))) (pg : n0 ≤ a1) :
    MetFree l (⟨"com/example/ramp99/ramp99/service/policy/SizeHistory", "<init>", "(JI)V"⟩ : MethodName) (head1 (Jvm.Cond.code (⟨"com/example/ramp99/ramp99/service/policy/SizeHistory", "<init>", "(JI)V"⟩ : MethodName) prog_88_method_1_code 4 none :: ws) ({ frames := 1, cells := 2, slots := 32, locals := 12 } : Room)) (fun a U => a = #[(.ref a1), (.long q1), (.int p1)] ∧ Z.Warmed39 U.vm ∧ U.heap = h0) (fun _ _ _ _ _ => True) (fun _ U o U' => ∃ v L, o = .returned v ∧ own_Q1 Z a1 q1 p1 h0 n0 v U'.heap L ∧ FrameEnd U o U' L ({ frames := 1, cells := 2, slots := 32, locals := 12 } : Room).cells ({ frames := 1, cells := 2, slots := 32, locals := 12 } : Room).slots) := by
  refine MetFree.of_bodySF (plainFor_of_name own_pn0) hisR ?_
  intro p e s m args below meth c s₁ Bd hml0 hP hK
  obtain ⟨rfl, hZ, hh⟩ := hP
  have hx := Bd.exec
  have hby := Bd.bytes
  have hml : c.maxLocals = 4 := hml0
  have hown : s.vm.findClass "com/example/ramp99/ramp99/service/policy/SizeHistory" = some m.cls := findClass_of_methodNamed Bd.named
  have hnm := (name_of_methodNamed Bd.named Bd.method).1
  have X0 : Stand p l e ({ frames := 1, cells := 2, slots := 32, locals := 12 } : Room) s m #[(.ref a1), (.long q1), (.int p1)] below meth c s₁ [] 0 0 := Stand.of_body Bd
  have e0 : s₁.heap = h0 := by rw [← hh, Bd.state]; rfl
  have N0 := Fr.nil n0
  refine own_nm (st := s₁.setTop (entryFrame m #[(.ref a1), (.long q1), (.int p1)] 4)) fun P fin => ?_
  refine own_fwd (fun tt kt => castTop (own_ef1 m a1 q1 p1) kt) ?_
  show own_R p.tables e below P (s₁.setTop (mkF m 0 #[.val (.ref a1), .val (.long q1), .second, .val (.int p1)] []))
  have K0 := Keep.refl h0 [a1]
  refine own_fwd (fun tt kt => XS.aloadN X0.here hx rfl (hb hby own_d1_0) rfl rfl kt) ?_
  show own_R p.tables e below P (s₁.setTop (mkF m 1 #[.val (.ref a1), .val (.long q1), .second, .val (.int p1)] [(.ref a1)]))
  obtain ⟨T1, X1, e1, st1⟩ := initO X0 hx hZ hown (hw _ (List.mem_of_getElem? (i := 7) rfl)) (hw _ (List.mem_of_getElem? (i := 8) rfl)) (hw _ (List.mem_of_getElem? (i := 9) rfl)) e0 (g := (mkF m 1 #[.val (.ref a1), .val (.long q1), .second, .val (.int p1)] [(.ref a1)])) rfl (by rw [hml]; rfl) rfl (hb hby own_d1_1) (by decide) (W := 0) (by show 2 * 0 + _ ≤ _; exact Nat.le_of_eq rfl) (by decide)
  refine own_fwd st1 ?_
  show own_R p.tables e below P (T1.setTop (mkF m 4 #[.val (.ref a1), .val (.long q1), .second, .val (.int p1)] []))
  refine own_fwd (fun tt kt => XS.aloadN X1.here hx rfl (hb hby own_d1_4) rfl rfl kt) ?_
  show own_R p.tables e below P (T1.setTop (mkF m 5 #[.val (.ref a1), .val (.long q1), .second, .val (.int p1)] [(.ref a1)]))
  refine own_fwd (fun tt kt => XS.bipush X1.here hx rfl (hb hby own_d1_5) kt) ?_
  show own_R p.tables e below P (T1.setTop (mkF m 7 #[.val (.ref a1), .val (.long q1), .second, .val (.int p1)] [(.int (16 : Int32)), (.ref a1)]))
  obtain ⟨T2, h2, b2, g2, X2, e2, E2, A2, B2, st2⟩ := own_newA (n := 16) X1 hx hZ (hw _ (List.mem_of_getElem? (i := 10) rfl)) e1 (z := (16 : Int32)) (by decide) (cap := 16) (by decide) (g := (mkF m 7 #[.val (.ref a1), .val (.long q1), .second, .val (.int p1)] [(.int (16 : Int32)), (.ref a1)])) rfl (hb hby own_d1_7) rfl (by decide) (by decide) (by decide) (ad := "[J") (by decide)
  have ne2_a1 : a1 ≠ b2 := Nat.ne_of_lt (by rw [g2]; exact pE.lt)
  have ge_b2 : n0 ≤ b2 := by rw [g2]; exact Z0
  have sz_b2 : h0.size ≤ b2 := by rw [g2]; exact (Nat.le_refl h0.size)
  have pE_x2 := pE.ext E2
  have pF0_x2 := pF0.ext E2
  have pF1_x2 := pF1.ext E2
  have pF2_x2 := pF2.ext E2
  have pF3_x2 := pF3.ext E2
  have pF4_x2 := pF4.ext E2
  have pF5_x2 := pF5.ext E2
  have A2_ : own_AJ Z h2 b2 16 (fun _ => (0 : Int64)) := A2
  have Z2 : n0 ≤ h2.size := Nat.le_trans Z0 E2.1
  have K2 := K0.ext E2
  have Y2 : h0.size ≤ h2.size := Nat.le_trans (Nat.le_refl h0.size) E2.1
  refine own_fwd st2 ?_
  show own_R p.tables e below P (T2.setTop (mkF m 9 #[.val (.ref a1), .val (.long q1), .second, .val (.int p1)] [(.ref b2), (.ref a1)]))
  obtain ⟨T3, h3, X3, e3, W3, st3⟩ := putF X2 hx hZ hown (host := "") (Or.inl (hw _ (List.mem_of_getElem? (i := 11) rfl))) Via.refl e2 pF0_x2 pE_x2 (Or.inl (hw _ (List.mem_of_getElem? (i := 12) rfl))) (hw _ (List.mem_of_getElem? (i := 2) rfl)) (ty := (.array .long)) (by decide) rfl rfl (g := (mkF m 9 #[.val (.ref a1), .val (.long q1), .second, .val (.int p1)] [(.ref b2), (.ref a1)])) rfl rfl (hb hby own_d1_9)
  have F3_ := pF0_x2.same W3
  have pE_x3 := pE_x2.wr W3
  have pF1_x3 := pF1_x2.other W3 (Or.inr (slot_ne (Or.inl (hw _ (List.mem_of_getElem? (i := 15) rfl))) (Or.inl (hw _ (List.mem_of_getElem? (i := 12) rfl))) (by decide) (t := (.array .int)) (t' := (.array .long)) (by decide) (by decide)))
  have pF2_x3 := pF2_x2.other W3 (Or.inr (slot_ne (Or.inr (hw _ (List.mem_of_getElem? (i := 17) rfl))) (Or.inl (hw _ (List.mem_of_getElem? (i := 12) rfl))) (by decide) (t := .long) (t' := (.array .long)) (by decide) (by decide)))
  have pF3_x3 := pF3_x2.other W3 (Or.inr (slot_ne (Or.inl (hw _ (List.mem_of_getElem? (i := 19) rfl))) (Or.inl (hw _ (List.mem_of_getElem? (i := 12) rfl))) (by decide) (t := .int) (t' := (.array .long)) (by decide) (by decide)))
  have pF4_x3 := pF4_x2.other W3 (Or.inr (slot_ne (Or.inl (hw _ (List.mem_of_getElem? (i := 28) rfl))) (Or.inl (hw _ (List.mem_of_getElem? (i := 12) rfl))) (by decide) (t := .int) (t' := (.array .long)) (by decide) (by decide)))
  have pF5_x3 := pF5_x2.other W3 (Or.inr (slot_ne (Or.inl (hw _ (List.mem_of_getElem? (i := 26) rfl))) (Or.inl (hw _ (List.mem_of_getElem? (i := 12) rfl))) (by decide) (t := .int) (t' := (.array .long)) (by decide) (by decide)))
  have A2__x3 := A2_.other W3 (Ne.symm ne2_a1)
  have B2_x3 := B2.wr W3
  have N3 := Fr.snoc X3 N0 pg
  have Z3 : n0 ≤ h3.size := by rw [W3.size]; exact Z2
  have K3 := K2.wr W3 (Or.inl (List.mem_of_getElem? (i := 0) rfl))
  have Y3 : h0.size ≤ h3.size := by rw [W3.size]; exact Y2
  refine own_fwd st3 ?_
  show own_R p.tables e below P (T3.setTop (mkF m 12 #[.val (.ref a1), .val (.long q1), .second, .val (.int p1)] []))
  refine own_fwd (fun tt kt => XS.aloadN X3.here hx rfl (hb hby own_d1_12) rfl rfl kt) ?_
  show own_R p.tables e below P (T3.setTop (mkF m 13 #[.val (.ref a1), .val (.long q1), .second, .val (.int p1)] [(.ref a1)]))
  refine own_fwd (fun tt kt => XS.bipush X3.here hx rfl (hb hby own_d1_13) kt) ?_
  show own_R p.tables e below P (T3.setTop (mkF m 15 #[.val (.ref a1), .val (.long q1), .second, .val (.int p1)] [(.int (16 : Int32)), (.ref a1)]))
  obtain ⟨T4, h4, b4, g4, X4, e4, E4, A4, B4, st4⟩ := own_newA (n := 16) X3 hx hZ (hw _ (List.mem_of_getElem? (i := 13) rfl)) e3 (z := (16 : Int32)) (by decide) (cap := 16) (by decide) (g := (mkF m 15 #[.val (.ref a1), .val (.long q1), .second, .val (.int p1)] [(.int (16 : Int32)), (.ref a1)])) rfl (hb hby own_d1_15) rfl (by decide) (by decide) (by decide) (ad := "[I") (by decide)
  have ne4_a1 : a1 ≠ b4 := Nat.ne_of_lt (by rw [g4]; exact pE_x3.lt)
  have ne4_b2 : b2 ≠ b4 := Nat.ne_of_lt (by rw [g4]; exact A2__x3.lt)
  have ge_b4 : n0 ≤ b4 := by rw [g4]; exact Z3
  have sz_b4 : h0.size ≤ b4 := by rw [g4]; exact Y3
  have pE_x4 := pE_x3.ext E4
  have F3__x4 := F3_.ext E4
  have pF1_x4 := pF1_x3.ext E4
  have pF2_x4 := pF2_x3.ext E4
  have pF3_x4 := pF3_x3.ext E4
  have pF4_x4 := pF4_x3.ext E4
  have pF5_x4 := pF5_x3.ext E4
  have A2__x4 := A2__x3.ext E4
  have B2_x4 := B2_x3.ext E4
  have A4_ : own_AI Z h4 b4 .int 16 (fun _ => (0 : Int32)) := A4
  have Z4 : n0 ≤ h4.size := Nat.le_trans Z3 E4.1
  have K4 := K3.ext E4
  have Y4 : h0.size ≤ h4.size := Nat.le_trans Y3 E4.1
  refine own_fwd st4 ?_
  show own_R p.tables e below P (T4.setTop (mkF m 17 #[.val (.ref a1), .val (.long q1), .second, .val (.int p1)] [(.ref b4), (.ref a1)]))
  obtain ⟨T5, h5, X5, e5, W5, st5⟩ := putF X4 hx hZ hown (host := "") (Or.inl (hw _ (List.mem_of_getElem? (i := 14) rfl))) Via.refl e4 pF1_x4 pE_x4 (Or.inl (hw _ (List.mem_of_getElem? (i := 15) rfl))) (hw _ (List.mem_of_getElem? (i := 2) rfl)) (ty := (.array .int)) (by decide) rfl rfl (g := (mkF m 17 #[.val (.ref a1), .val (.long q1), .second, .val (.int p1)] [(.ref b4), (.ref a1)])) rfl rfl (hb hby own_d1_17)
  have F5_ := pF1_x4.same W5
  have pE_x5 := pE_x4.wr W5
  have F3__x5 := F3__x4.other W5 (Or.inr (slot_ne (Or.inl (hw _ (List.mem_of_getElem? (i := 12) rfl))) (Or.inl (hw _ (List.mem_of_getElem? (i := 15) rfl))) (by decide) (t := (.array .long)) (t' := (.array .int)) (by decide) (by decide)))
  have pF2_x5 := pF2_x4.other W5 (Or.inr (slot_ne (Or.inr (hw _ (List.mem_of_getElem? (i := 17) rfl))) (Or.inl (hw _ (List.mem_of_getElem? (i := 15) rfl))) (by decide) (t := .long) (t' := (.array .int)) (by decide) (by decide)))
  have pF3_x5 := pF3_x4.other W5 (Or.inr (slot_ne (Or.inl (hw _ (List.mem_of_getElem? (i := 19) rfl))) (Or.inl (hw _ (List.mem_of_getElem? (i := 15) rfl))) (by decide) (t := .int) (t' := (.array .int)) (by decide) (by decide)))
  have pF4_x5 := pF4_x4.other W5 (Or.inr (slot_ne (Or.inl (hw _ (List.mem_of_getElem? (i := 28) rfl))) (Or.inl (hw _ (List.mem_of_getElem? (i := 15) rfl))) (by decide) (t := .int) (t' := (.array .int)) (by decide) (by decide)))
  have pF5_x5 := pF5_x4.other W5 (Or.inr (slot_ne (Or.inl (hw _ (List.mem_of_getElem? (i := 26) rfl))) (Or.inl (hw _ (List.mem_of_getElem? (i := 15) rfl))) (by decide) (t := .int) (t' := (.array .int)) (by decide) (by decide)))
  have A2__x5 := A2__x4.other W5 (Ne.symm ne2_a1)
  have B2_x5 := B2_x4.wr W5
  have A4__x5 := A4_.other W5 (Ne.symm ne4_a1)
  have B4_x5 := B4.wr W5
  have N5 := Fr.snoc X5 N3 pg
  have Z5 : n0 ≤ h5.size := by rw [W5.size]; exact Z4
  have K5 := K4.wr W5 (Or.inl (List.mem_of_getElem? (i := 0) rfl))
  have Y5 : h0.size ≤ h5.size := by rw [W5.size]; exact Y4
  refine own_fwd st5 ?_
  show own_R p.tables e below P (T5.setTop (mkF m 20 #[.val (.ref a1), .val (.long q1), .second, .val (.int p1)] []))
  refine own_fwd (fun tt kt => XS.aloadN X5.here hx rfl (hb hby own_d1_20) rfl rfl kt) ?_
  show own_R p.tables e below P (T5.setTop (mkF m 21 #[.val (.ref a1), .val (.long q1), .second, .val (.int p1)] [(.ref a1)]))
  refine own_fwd (fun tt kt => XS.lloadN X5.here hx rfl (hb hby own_d1_21) rfl kt) ?_
  show own_R p.tables e below P (T5.setTop (mkF m 22 #[.val (.ref a1), .val (.long q1), .second, .val (.int p1)] [(.long q1), (.ref a1)]))
  obtain ⟨T6, h6, X6, e6, W6, st6⟩ := putF X5 hx hZ hown (host := "") (Or.inl (hw _ (List.mem_of_getElem? (i := 16) rfl))) Via.refl e5 pF2_x5 pE_x5 (Or.inr ⟨(hw _ (List.mem_of_getElem? (i := 17) rfl)), rfl, hnm⟩) (hw _ (List.mem_of_getElem? (i := 2) rfl)) (ty := .long) (by decide) rfl rfl (g := (mkF m 22 #[.val (.ref a1), .val (.long q1), .second, .val (.int p1)] [(.long q1), (.ref a1)])) rfl rfl (hb hby own_d1_22)
  have F6_ := pF2_x5.same W6
  have pE_x6 := pE_x5.wr W6
  have F3__x6 := F3__x5.other W6 (Or.inr (slot_ne (Or.inl (hw _ (List.mem_of_getElem? (i := 12) rfl))) (Or.inr (hw _ (List.mem_of_getElem? (i := 17) rfl))) (by decide) (t := (.array .long)) (t' := .long) (by decide) (by decide)))
  have F5__x6 := F5_.other W6 (Or.inr (slot_ne (Or.inl (hw _ (List.mem_of_getElem? (i := 15) rfl))) (Or.inr (hw _ (List.mem_of_getElem? (i := 17) rfl))) (by decide) (t := (.array .int)) (t' := .long) (by decide) (by decide)))
  have pF3_x6 := pF3_x5.other W6 (Or.inr (slot_ne (Or.inl (hw _ (List.mem_of_getElem? (i := 19) rfl))) (Or.inr (hw _ (List.mem_of_getElem? (i := 17) rfl))) (by decide) (t := .int) (t' := .long) (by decide) (by decide)))
  have pF4_x6 := pF4_x5.other W6 (Or.inr (slot_ne (Or.inl (hw _ (List.mem_of_getElem? (i := 28) rfl))) (Or.inr (hw _ (List.mem_of_getElem? (i := 17) rfl))) (by decide) (t := .int) (t' := .long) (by decide) (by decide)))
  have pF5_x6 := pF5_x5.other W6 (Or.inr (slot_ne (Or.inl (hw _ (List.mem_of_getElem? (i := 26) rfl))) (Or.inr (hw _ (List.mem_of_getElem? (i := 17) rfl))) (by decide) (t := .int) (t' := .long) (by decide) (by decide)))
  have A2__x6 := A2__x5.other W6 (Ne.symm ne2_a1)
  have B2_x6 := B2_x5.wr W6
  have A4__x6 := A4__x5.other W6 (Ne.symm ne4_a1)
  have B4_x6 := B4_x5.wr W6
  have N6 := Fr.snoc X6 N5 pg
  have Z6 : n0 ≤ h6.size := by rw [W6.size]; exact Z5
  have K6 := K5.wr W6 (Or.inl (List.mem_of_getElem? (i := 0) rfl))
  have Y6 : h0.size ≤ h6.size := by rw [W6.size]; exact Y5
  refine own_fwd st6 ?_
  show own_R p.tables e below P (T6.setTop (mkF m 25 #[.val (.ref a1), .val (.long q1), .second, .val (.int p1)] []))
  refine own_fwd (fun tt kt => XS.aloadN X6.here hx rfl (hb hby own_d1_25) rfl rfl kt) ?_
  show own_R p.tables e below P (T6.setTop (mkF m 26 #[.val (.ref a1), .val (.long q1), .second, .val (.int p1)] [(.ref a1)]))
  refine own_fwd (fun tt kt => XS.iloadN X6.here hx rfl (hb hby own_d1_26) rfl kt) ?_
  show own_R p.tables e below P (T6.setTop (mkF m 27 #[.val (.ref a1), .val (.long q1), .second, .val (.int p1)] [(.int p1), (.ref a1)]))
  obtain ⟨T7, h7, X7, e7, W7, st7⟩ := putF X6 hx hZ hown (host := "") (Or.inl (hw _ (List.mem_of_getElem? (i := 18) rfl))) Via.refl e6 pF3_x6 pE_x6 (Or.inl (hw _ (List.mem_of_getElem? (i := 19) rfl))) (hw _ (List.mem_of_getElem? (i := 2) rfl)) (ty := .int) (by decide) rfl rfl (g := (mkF m 27 #[.val (.ref a1), .val (.long q1), .second, .val (.int p1)] [(.int p1), (.ref a1)])) rfl rfl (hb hby own_d1_27)
  have F7_ := pF3_x6.same W7
  have pE_x7 := pE_x6.wr W7
  have F3__x7 := F3__x6.other W7 (Or.inr (slot_ne (Or.inl (hw _ (List.mem_of_getElem? (i := 12) rfl))) (Or.inl (hw _ (List.mem_of_getElem? (i := 19) rfl))) (by decide) (t := (.array .long)) (t' := .int) (by decide) (by decide)))
  have F5__x7 := F5__x6.other W7 (Or.inr (slot_ne (Or.inl (hw _ (List.mem_of_getElem? (i := 15) rfl))) (Or.inl (hw _ (List.mem_of_getElem? (i := 19) rfl))) (by decide) (t := (.array .int)) (t' := .int) (by decide) (by decide)))
  have F6__x7 := F6_.other W7 (Or.inr (slot_ne (Or.inr (hw _ (List.mem_of_getElem? (i := 17) rfl))) (Or.inl (hw _ (List.mem_of_getElem? (i := 19) rfl))) (by decide) (t := .long) (t' := .int) (by decide) (by decide)))
  have pF4_x7 := pF4_x6.other W7 (Or.inr (slot_ne (Or.inl (hw _ (List.mem_of_getElem? (i := 28) rfl))) (Or.inl (hw _ (List.mem_of_getElem? (i := 19) rfl))) (by decide) (t := .int) (t' := .int) (by decide) (by decide)))
  have pF5_x7 := pF5_x6.other W7 (Or.inr (slot_ne (Or.inl (hw _ (List.mem_of_getElem? (i := 26) rfl))) (Or.inl (hw _ (List.mem_of_getElem? (i := 19) rfl))) (by decide) (t := .int) (t' := .int) (by decide) (by decide)))
  have A2__x7 := A2__x6.other W7 (Ne.symm ne2_a1)
  have B2_x7 := B2_x6.wr W7
  have A4__x7 := A4__x6.other W7 (Ne.symm ne4_a1)
  have B4_x7 := B4_x6.wr W7
  have N7 := Fr.snoc X7 N6 pg
  have Z7 : n0 ≤ h7.size := by rw [W7.size]; exact Z6
  have K7 := K6.wr W7 (Or.inl (List.mem_of_getElem? (i := 0) rfl))
  have Y7 : h0.size ≤ h7.size := by rw [W7.size]; exact Y6
  refine own_fwd st7 ?_
  show own_R p.tables e below P (T7.setTop (mkF m 30 #[.val (.ref a1), .val (.long q1), .second, .val (.int p1)] []))
  obtain ⟨fs8, hr8, hrun8, hended8, hW8, hsame8⟩ := X7.leave (v := none) (fun _ => rfl)
  refine ⟨_, _, X7.returnOut hx Bd.returns (hb hby own_d1_30) hr8, fin _ _ ⟨hrun8, hended8, _, _, rfl, ?_, ⟨_, rfl⟩, hW8, hsame8.mono (by decide) (by decide)⟩⟩
  show own_Q1 Z a1 q1 p1 h0 n0 _ T7.heap _
  rw [e7]
  exact ⟨rfl, N7, K7, b2, b4, A2__x7, A4__x7, sz_b2, sz_b4, ne4_b2, pE_x7, F3__x7, F5__x7, F6__x7, F7_, pF4_x7, pF5_x7⟩
theorem own_d3_0 : decode prog_88_method_3_code 0 = .ok (.aload_n 0, 1) := by decide +kernel
theorem own_d3_1 : decode prog_88_method_3_code 1 = .ok (.getfield 28, 3) := by decide +kernel
theorem own_d3_4 : decode prog_88_method_3_code 4 = .ok (.ifCond .le 58, 3) := by decide +kernel
theorem own_d3_7 : decode prog_88_method_3_code 7 = .ok (.aload_n 0, 1) := by decide +kernel
theorem own_d3_8 : decode prog_88_method_3_code 8 = .ok (.getfield 9, 3) := by decide +kernel
theorem own_d3_11 : decode prog_88_method_3_code 11 = .ok (.aload_n 0, 1) := by decide +kernel
theorem own_d3_12 : decode prog_88_method_3_code 12 = .ok (.getfield 25, 3) := by decide +kernel
theorem own_d3_15 : decode prog_88_method_3_code 15 = .ok (.laload, 1) := by decide +kernel
theorem own_d3_16 : decode prog_88_method_3_code 16 = .ok (.lload_n 1, 1) := by decide +kernel
theorem own_d3_17 : decode prog_88_method_3_code 17 = .ok (.aload_n 0, 1) := by decide +kernel
theorem own_d3_18 : decode prog_88_method_3_code 18 = .ok (.getfield 17, 3) := by decide +kernel
theorem own_d3_21 : decode prog_88_method_3_code 21 = .ok (.lsub, 1) := by decide +kernel
theorem own_d3_22 : decode prog_88_method_3_code 22 = .ok (.lcmp, 1) := by decide +kernel
theorem own_d3_23 : decode prog_88_method_3_code 23 = .ok (.ifCond .gt 39, 3) := by decide +kernel
theorem own_d3_26 : decode prog_88_method_3_code 26 = .ok (.aload_n 0, 1) := by decide +kernel
theorem own_d3_27 : decode prog_88_method_3_code 27 = .ok (.aload_n 0, 1) := by decide +kernel
theorem own_d3_28 : decode prog_88_method_3_code 28 = .ok (.getfield 13, 3) := by decide +kernel
theorem own_d3_31 : decode prog_88_method_3_code 31 = .ok (.aload_n 0, 1) := by decide +kernel
theorem own_d3_32 : decode prog_88_method_3_code 32 = .ok (.getfield 25, 3) := by decide +kernel
theorem own_d3_35 : decode prog_88_method_3_code 35 = .ok (.iaload, 1) := by decide +kernel
theorem own_d3_36 : decode prog_88_method_3_code 36 = .ok (.putfield 21, 3) := by decide +kernel
theorem own_d3_39 : decode prog_88_method_3_code 39 = .ok (.aload_n 0, 1) := by decide +kernel
theorem own_d3_40 : decode prog_88_method_3_code 40 = .ok (.dup, 1) := by decide +kernel
theorem own_d3_41 : decode prog_88_method_3_code 41 = .ok (.getfield 25, 3) := by decide +kernel
theorem own_d3_44 : decode prog_88_method_3_code 44 = .ok (.iconst 1, 1) := by decide +kernel
theorem own_d3_45 : decode prog_88_method_3_code 45 = .ok (.iadd, 1) := by decide +kernel
theorem own_d3_46 : decode prog_88_method_3_code 46 = .ok (.putfield 25, 3) := by decide +kernel
theorem own_d3_49 : decode prog_88_method_3_code 49 = .ok (.aload_n 0, 1) := by decide +kernel
theorem own_d3_50 : decode prog_88_method_3_code 50 = .ok (.dup, 1) := by decide +kernel
theorem own_d3_51 : decode prog_88_method_3_code 51 = .ok (.getfield 28, 3) := by decide +kernel
theorem own_d3_54 : decode prog_88_method_3_code 54 = .ok (.iconst 1, 1) := by decide +kernel
theorem own_d3_55 : decode prog_88_method_3_code 55 = .ok (.isub, 1) := by decide +kernel
theorem own_d3_56 : decode prog_88_method_3_code 56 = .ok (.putfield 28, 3) := by decide +kernel
theorem own_d3_59 : decode prog_88_method_3_code 59 = .ok (.goto (-59), 3) := by decide +kernel
theorem own_d3_62 : decode prog_88_method_3_code 62 = .ok (.aload_n 0, 1) := by decide +kernel
theorem own_d3_63 : decode prog_88_method_3_code 63 = .ok (.getfield 28, 3) := by decide +kernel
theorem own_d3_66 : decode prog_88_method_3_code 66 = .ok (.ifCond .ne 10, 3) := by decide +kernel
theorem own_d3_69 : decode prog_88_method_3_code 69 = .ok (.aload_n 0, 1) := by decide +kernel
theorem own_d3_70 : decode prog_88_method_3_code 70 = .ok (.getfield 21, 3) := by decide +kernel
theorem own_d3_73 : decode prog_88_method_3_code 73 = .ok (.goto 19, 3) := by decide +kernel
theorem own_d3_76 : decode prog_88_method_3_code 76 = .ok (.aload_n 0, 1) := by decide +kernel
theorem own_d3_77 : decode prog_88_method_3_code 77 = .ok (.getfield 13, 3) := by decide +kernel
theorem own_d3_80 : decode prog_88_method_3_code 80 = .ok (.aload_n 0, 1) := by decide +kernel
theorem own_d3_81 : decode prog_88_method_3_code 81 = .ok (.getfield 25, 3) := by decide +kernel
theorem own_d3_84 : decode prog_88_method_3_code 84 = .ok (.aload_n 0, 1) := by decide +kernel
theorem own_d3_85 : decode prog_88_method_3_code 85 = .ok (.getfield 28, 3) := by decide +kernel
theorem own_d3_88 : decode prog_88_method_3_code 88 = .ok (.iadd, 1) := by decide +kernel
theorem own_d3_89 : decode prog_88_method_3_code 89 = .ok (.iconst 1, 1) := by decide +kernel
theorem own_d3_90 : decode prog_88_method_3_code 90 = .ok (.isub, 1) := by decide +kernel
theorem own_d3_91 : decode prog_88_method_3_code 91 = .ok (.iaload, 1) := by decide +kernel
theorem own_d3_92 : decode prog_88_method_3_code 92 = .ok (.iload_n 3, 1) := by decide +kernel
theorem own_d3_93 : decode prog_88_method_3_code 93 = .ok (.if_icmp .ne 4, 3) := by decide +kernel
theorem own_d3_96 : decode prog_88_method_3_code 96 = .ok (.return_, 1) := by decide +kernel
theorem own_d3_97 : decode prog_88_method_3_code 97 = .ok (.aload_n 0, 1) := by decide +kernel
theorem own_d3_98 : decode prog_88_method_3_code 98 = .ok (.getfield 25, 3) := by decide +kernel
theorem own_d3_101 : decode prog_88_method_3_code 101 = .ok (.aload_n 0, 1) := by decide +kernel
theorem own_d3_102 : decode prog_88_method_3_code 102 = .ok (.getfield 28, 3) := by decide +kernel
theorem own_d3_105 : decode prog_88_method_3_code 105 = .ok (.iadd, 1) := by decide +kernel
theorem own_d3_106 : decode prog_88_method_3_code 106 = .ok (.aload_n 0, 1) := by decide +kernel
theorem own_d3_107 : decode prog_88_method_3_code 107 = .ok (.getfield 9, 3) := by decide +kernel
theorem own_d3_110 : decode prog_88_method_3_code 110 = .ok (.arraylength, 1) := by decide +kernel
theorem own_d3_111 : decode prog_88_method_3_code 111 = .ok (.if_icmp .ne 98, 3) := by decide +kernel
theorem own_d3_114 : decode prog_88_method_3_code 114 = .ok (.iconst 2, 1) := by decide +kernel
theorem own_d3_115 : decode prog_88_method_3_code 115 = .ok (.aload_n 0, 1) := by decide +kernel
theorem own_d3_116 : decode prog_88_method_3_code 116 = .ok (.getfield 28, 3) := by decide +kernel
theorem own_d3_119 : decode prog_88_method_3_code 119 = .ok (.imul, 1) := by decide +kernel
theorem own_d3_120 : decode prog_88_method_3_code 120 = .ok (.aload_n 0, 1) := by decide +kernel
theorem own_d3_121 : decode prog_88_method_3_code 121 = .ok (.getfield 9, 3) := by decide +kernel
theorem own_d3_124 : decode prog_88_method_3_code 124 = .ok (.arraylength, 1) := by decide +kernel
theorem own_d3_125 : decode prog_88_method_3_code 125 = .ok (.if_icmp .le 39, 3) := by decide +kernel
theorem own_d3_128 : decode prog_88_method_3_code 128 = .ok (.aload_n 0, 1) := by decide +kernel
theorem own_d3_129 : decode prog_88_method_3_code 129 = .ok (.aload_n 0, 1) := by decide +kernel
theorem own_d3_130 : decode prog_88_method_3_code 130 = .ok (.getfield 9, 3) := by decide +kernel
theorem own_d3_133 : decode prog_88_method_3_code 133 = .ok (.iconst 2, 1) := by decide +kernel
theorem own_d3_134 : decode prog_88_method_3_code 134 = .ok (.aload_n 0, 1) := by decide +kernel
theorem own_d3_135 : decode prog_88_method_3_code 135 = .ok (.getfield 9, 3) := by decide +kernel
theorem own_d3_138 : decode prog_88_method_3_code 138 = .ok (.arraylength, 1) := by decide +kernel
theorem own_d3_139 : decode prog_88_method_3_code 139 = .ok (.imul, 1) := by decide +kernel
theorem own_d3_140 : decode prog_88_method_3_code 140 = .ok (.invokestatic 31, 3) := by decide +kernel
theorem own_d3_143 : decode prog_88_method_3_code 143 = .ok (.putfield 9, 3) := by decide +kernel
theorem own_d3_146 : decode prog_88_method_3_code 146 = .ok (.aload_n 0, 1) := by decide +kernel
theorem own_d3_147 : decode prog_88_method_3_code 147 = .ok (.aload_n 0, 1) := by decide +kernel
theorem own_d3_148 : decode prog_88_method_3_code 148 = .ok (.getfield 13, 3) := by decide +kernel
theorem own_d3_151 : decode prog_88_method_3_code 151 = .ok (.iconst 2, 1) := by decide +kernel
theorem own_d3_152 : decode prog_88_method_3_code 152 = .ok (.aload_n 0, 1) := by decide +kernel
theorem own_d3_153 : decode prog_88_method_3_code 153 = .ok (.getfield 13, 3) := by decide +kernel
theorem own_d3_156 : decode prog_88_method_3_code 156 = .ok (.arraylength, 1) := by decide +kernel
theorem own_d3_157 : decode prog_88_method_3_code 157 = .ok (.imul, 1) := by decide +kernel
theorem own_d3_158 : decode prog_88_method_3_code 158 = .ok (.invokestatic 37, 3) := by decide +kernel
theorem own_d3_161 : decode prog_88_method_3_code 161 = .ok (.putfield 13, 3) := by decide +kernel
theorem own_d3_164 : decode prog_88_method_3_code 164 = .ok (.aload_n 0, 1) := by decide +kernel
theorem own_d3_165 : decode prog_88_method_3_code 165 = .ok (.getfield 9, 3) := by decide +kernel
theorem own_d3_168 : decode prog_88_method_3_code 168 = .ok (.aload_n 0, 1) := by decide +kernel
theorem own_d3_169 : decode prog_88_method_3_code 169 = .ok (.getfield 25, 3) := by decide +kernel
theorem own_d3_172 : decode prog_88_method_3_code 172 = .ok (.aload_n 0, 1) := by decide +kernel
theorem own_d3_173 : decode prog_88_method_3_code 173 = .ok (.getfield 9, 3) := by decide +kernel
theorem own_d3_176 : decode prog_88_method_3_code 176 = .ok (.iconst 0, 1) := by decide +kernel
theorem own_d3_177 : decode prog_88_method_3_code 177 = .ok (.aload_n 0, 1) := by decide +kernel
theorem own_d3_178 : decode prog_88_method_3_code 178 = .ok (.getfield 28, 3) := by decide +kernel
theorem own_d3_181 : decode prog_88_method_3_code 181 = .ok (.invokestatic 40, 3) := by decide +kernel
theorem own_d3_184 : decode prog_88_method_3_code 184 = .ok (.aload_n 0, 1) := by decide +kernel
theorem own_d3_185 : decode prog_88_method_3_code 185 = .ok (.getfield 13, 3) := by decide +kernel
theorem own_d3_188 : decode prog_88_method_3_code 188 = .ok (.aload_n 0, 1) := by decide +kernel
theorem own_d3_189 : decode prog_88_method_3_code 189 = .ok (.getfield 25, 3) := by decide +kernel
theorem own_d3_192 : decode prog_88_method_3_code 192 = .ok (.aload_n 0, 1) := by decide +kernel
theorem own_d3_193 : decode prog_88_method_3_code 193 = .ok (.getfield 13, 3) := by decide +kernel
theorem own_d3_196 : decode prog_88_method_3_code 196 = .ok (.iconst 0, 1) := by decide +kernel
theorem own_d3_197 : decode prog_88_method_3_code 197 = .ok (.aload_n 0, 1) := by decide +kernel
theorem own_d3_198 : decode prog_88_method_3_code 198 = .ok (.getfield 28, 3) := by decide +kernel
theorem own_d3_201 : decode prog_88_method_3_code 201 = .ok (.invokestatic 40, 3) := by decide +kernel
theorem own_d3_204 : decode prog_88_method_3_code 204 = .ok (.aload_n 0, 1) := by decide +kernel
theorem own_d3_205 : decode prog_88_method_3_code 205 = .ok (.iconst 0, 1) := by decide +kernel
theorem own_d3_206 : decode prog_88_method_3_code 206 = .ok (.putfield 25, 3) := by decide +kernel
theorem own_d3_209 : decode prog_88_method_3_code 209 = .ok (.aload_n 0, 1) := by decide +kernel
theorem own_d3_210 : decode prog_88_method_3_code 210 = .ok (.getfield 9, 3) := by decide +kernel
theorem own_d3_213 : decode prog_88_method_3_code 213 = .ok (.aload_n 0, 1) := by decide +kernel
theorem own_d3_214 : decode prog_88_method_3_code 214 = .ok (.getfield 25, 3) := by decide +kernel
theorem own_d3_217 : decode prog_88_method_3_code 217 = .ok (.aload_n 0, 1) := by decide +kernel
theorem own_d3_218 : decode prog_88_method_3_code 218 = .ok (.getfield 28, 3) := by decide +kernel
theorem own_d3_221 : decode prog_88_method_3_code 221 = .ok (.iadd, 1) := by decide +kernel
theorem own_d3_222 : decode prog_88_method_3_code 222 = .ok (.lload_n 1, 1) := by decide +kernel
theorem own_d3_223 : decode prog_88_method_3_code 223 = .ok (.lastore, 1) := by decide +kernel
theorem own_d3_224 : decode prog_88_method_3_code 224 = .ok (.aload_n 0, 1) := by decide +kernel
theorem own_d3_225 : decode prog_88_method_3_code 225 = .ok (.getfield 13, 3) := by decide +kernel
theorem own_d3_228 : decode prog_88_method_3_code 228 = .ok (.aload_n 0, 1) := by decide +kernel
theorem own_d3_229 : decode prog_88_method_3_code 229 = .ok (.getfield 25, 3) := by decide +kernel
theorem own_d3_232 : decode prog_88_method_3_code 232 = .ok (.aload_n 0, 1) := by decide +kernel
theorem own_d3_233 : decode prog_88_method_3_code 233 = .ok (.getfield 28, 3) := by decide +kernel
theorem own_d3_236 : decode prog_88_method_3_code 236 = .ok (.iadd, 1) := by decide +kernel
theorem own_d3_237 : decode prog_88_method_3_code 237 = .ok (.iload_n 3, 1) := by decide +kernel
theorem own_d3_238 : decode prog_88_method_3_code 238 = .ok (.iastore, 1) := by decide +kernel
theorem own_d3_239 : decode prog_88_method_3_code 239 = .ok (.aload_n 0, 1) := by decide +kernel
theorem own_d3_240 : decode prog_88_method_3_code 240 = .ok (.dup, 1) := by decide +kernel
theorem own_d3_241 : decode prog_88_method_3_code 241 = .ok (.getfield 28, 3) := by decide +kernel
theorem own_d3_244 : decode prog_88_method_3_code 244 = .ok (.iconst 1, 1) := by decide +kernel
theorem own_d3_245 : decode prog_88_method_3_code 245 = .ok (.iadd, 1) := by decide +kernel
theorem own_d3_246 : decode prog_88_method_3_code 246 = .ok (.putfield 28, 3) := by decide +kernel
theorem own_d3_249 : decode prog_88_method_3_code 249 = .ok (.return_, 1) := by decide +kernel
theorem own_ef3 (m : MethodId) (a1 : Addr) (t : Int64) (sz : Int32) : entryFrame m #[(.ref a1), (.long t), (.int sz)] 4 = mkF m 0 #[.val (.ref a1), .val (.long t), .second, .val (.int sz)] [] := by first | (simp [entryFrame, mkF, argsToLocals, Value.category]; done) | rfl
def own_Q3 (Z : State) (a1 tA sA : Addr) (t sp : Int64) (sz bf0 fi0 ct0 : Int32) (ft : Nat → Int64) (fs : Nat → Int32) (F0 K0 : Nat) (h0 : Heap) (n0 : Nat) (v : Option Value) (h : Heap) (L : List Loc) : Prop := v = none ∧ Fr n0 L ∧ Keep h0 h [a1, tA, sA] ∧ ∃ (F K : Nat) (fi ct bf : Int32) (ft' : Nat → Int64) (fs' : Nat → Int32), own_AJ Z h tA 16 ft' ∧ own_AI Z h sA .int 16 fs' ∧ fi.toInt = (F : Int) ∧ ct.toInt = (K : Int) ∧ F + K ≤ F0 + K0 + 1 ∧ own_Asc F K ft' ∧ (∀ j, F ≤ j → j < F + K → (ft' j).toInt ≤ t.toInt) ∧ (∀ (q : Int) (r : Int32), t.toInt - sp.toInt ≤ q → own_Val bf F K ft' fs' q r → (t.toInt ≤ q ∧ r = sz) ∨ (q < t.toInt ∧ own_Val bf0 F0 K0 ft fs q r)) ∧ Exa Z h a1 "com/example/ramp99/ramp99/service/policy/SizeHistory" ∧ Fld Z h a1 "com/example/ramp99/ramp99/service/policy/SizeHistory" "times" "[J" (.ref tA) ∧ Fld Z h a1 "com/example/ramp99/ramp99/service/policy/SizeHistory" "sizes" "[I" (.ref sA) ∧ Fld Z h a1 "com/example/ramp99/ramp99/service/policy/SizeHistory" "spanNanos" "J" (.long sp) ∧ Fld Z h a1 "com/example/ramp99/ramp99/service/policy/SizeHistory" "before" "I" (.int bf) ∧ Fld Z h a1 "com/example/ramp99/ramp99/service/policy/SizeHistory" "first" "I" (.int fi) ∧ Fld Z h a1 "com/example/ramp99/ramp99/service/policy/SizeHistory" "count" "I" (.int ct)
set_option maxRecDepth 65536 in
set_option maxHeartbeats 40000000 in
theorem own_rm3 (l : Launch) (Z : State) (a0 : Array Value) (hw : ∀ d ∈ tables_1, d.before a0 Z = true) (ws : List Jvm.Cond) (a1 tA sA : Addr) (t sp : Int64) (sz bf0 fi0 ct0 : Int32) (ft : Nat → Int64) (fs : Nat → Int32) (F0 K0 : Nat) (h0 : Heap) (n0 : Nat) (Z0 : n0 ≤ h0.size) (pE : Exa Z h0 a1 "com/example/ramp99/ramp99/service/policy/SizeHistory") (pF0 : Fld Z h0 a1 "com/example/ramp99/ramp99/service/policy/SizeHistory" "times" "[J" (.ref tA)) (pF1 : Fld Z h0 a1 "com/example/ramp99/ramp99/service/policy/SizeHistory" "sizes" "[I" (.ref sA)) (pF2 : Fld Z h0 a1 "com/example/ramp99/ramp99/service/policy/SizeHistory" "spanNanos" "J" (.long sp)) (pF3 : Fld Z h0 a1 "com/example/ramp99/ramp99/service/policy/SizeHistory" "before" "I" (.int bf0)) (pF4 : Fld Z h0 a1 "com/example/ramp99/ramp99/service/policy/SizeHistory" "first" "I" (.int fi0)) (pF5 : Fld Z h0 a1 "com/example/ramp99/ramp99/service/policy/SizeHistory" "count" "I" (.int ct0)) (pT : own_AJ Z h0 tA 16 ft) (pS : own_AI Z h0 sA .int 16 fs) (pg : n0 ≤ a1) (pgt : n0 ≤ tA) (pgs : n0 ≤ sA) (n1 : a1 ≠ tA) (n2 : a1 ≠ sA) (n3 : tA ≠ sA) (hF : fi0.toInt = (F0 : Int)) (hKc : ct0.toInt = (K0 : Int)) (bFK : F0 + K0 < 10) (pAsc : own_Asc F0 K0 ft) (hlt : ∀ j, F0 ≤ j → j < F0 + K0 → (ft j).toInt < t.toInt) (hsub : (t - sp).toInt = t.toInt - sp.toInt) :
    MetFree l (⟨"com/example/ramp99/ramp99/service/policy/SizeHistory", "add", "(JI)V"⟩ : MethodName) (head1 (Jvm.Cond.code (⟨"com/example/ramp99/ramp99/service/policy/SizeHistory", "add", "(JI)V"⟩ : MethodName) prog_88_method_3_code 4 none :: ws) ({ frames := 0, cells := 0, slots := 0, locals := 0 } : Room)) (fun a U => a = #[(.ref a1), (.long t), (.int sz)] ∧ Z.Warmed39 U.vm ∧ U.heap = h0) (fun _ _ _ _ _ => True) (fun _ U o U' => ∃ v L, o = .returned v ∧ own_Q3 Z a1 tA sA t sp sz bf0 fi0 ct0 ft fs F0 K0 h0 n0 v U'.heap L ∧ FrameEnd U o U' L ({ frames := 0, cells := 0, slots := 0, locals := 0 } : Room).cells ({ frames := 0, cells := 0, slots := 0, locals := 0 } : Room).slots) := by
  refine MetFree.of_bodySF (plainFor_of_name own_pn0) hisR ?_
  intro p e s m args below meth c s₁ Bd hml0 hP hK
  obtain ⟨rfl, hZ, hh⟩ := hP
  have hx := Bd.exec
  have hby := Bd.bytes
  have hml : c.maxLocals = 4 := hml0
  have hown : s.vm.findClass "com/example/ramp99/ramp99/service/policy/SizeHistory" = some m.cls := findClass_of_methodNamed Bd.named
  have hnm := (name_of_methodNamed Bd.named Bd.method).1
  have X0 : Stand p l e ({ frames := 0, cells := 0, slots := 0, locals := 0 } : Room) s m #[(.ref a1), (.long t), (.int sz)] below meth c s₁ [] 0 0 := Stand.of_body Bd
  have e0 : s₁.heap = h0 := by rw [← hh, Bd.state]; rfl
  have N0 := Fr.nil n0
  refine own_nm (st := s₁.setTop (entryFrame m #[(.ref a1), (.long t), (.int sz)] 4)) fun P fin => ?_
  refine own_fwd (fun tt kt => castTop (own_ef3 m a1 t sz) kt) ?_
  show own_R p.tables e below P (s₁.setTop (mkF m 0 #[.val (.ref a1), .val (.long t), .second, .val (.int sz)] []))
  have loop : ∀ (K F : Nat) (fi ct bf : Int32) (T : State) (h : Heap) (locs : List Loc) (X : Stand p l e ({ frames := 0, cells := 0, slots := 0, locals := 0 } : Room) s m #[(.ref a1), (.long t), (.int sz)] below meth c T locs 0 0) (eT : T.heap = h) (N : Fr n0 locs) (Zs : n0 ≤ h.size) (Y : h0.size ≤ h.size) (Kp : Keep h0 h [a1, tA, sA]) (gE : Exa Z h a1 "com/example/ramp99/ramp99/service/policy/SizeHistory") (gT : Fld Z h a1 "com/example/ramp99/ramp99/service/policy/SizeHistory" "times" "[J" (.ref tA)) (gS : Fld Z h a1 "com/example/ramp99/ramp99/service/policy/SizeHistory" "sizes" "[I" (.ref sA)) (gP : Fld Z h a1 "com/example/ramp99/ramp99/service/policy/SizeHistory" "spanNanos" "J" (.long sp)) (gB : Fld Z h a1 "com/example/ramp99/ramp99/service/policy/SizeHistory" "before" "I" (.int bf)) (gF : Fld Z h a1 "com/example/ramp99/ramp99/service/policy/SizeHistory" "first" "I" (.int fi)) (gC : Fld Z h a1 "com/example/ramp99/ramp99/service/policy/SizeHistory" "count" "I" (.int ct)) (gA : own_AJ Z h tA 16 ft) (gI : own_AI Z h sA .int 16 fs), fi.toInt = (F : Int) → ct.toInt = (K : Int) → F0 ≤ F → F + K = F0 + K0 → (∀ j, F0 ≤ j → j < F → (ft j).toInt ≤ t.toInt - sp.toInt) → bf = (if F = F0 then bf0 else fs (F - 1)) → own_R p.tables e below P (T.setTop (mkF m 0 #[.val (.ref a1), .val (.long t), .second, .val (.int sz)] [])) := by
    intro K
    induction K with
    | zero =>
      intro F fi ct bf T h locs X eT N Zs Y Kp gE gT gS gP gB gF gC gA gI dF dK d1 d2 d3 d4
      refine own_fwd (fun tt kt => XS.aloadN X.here hx rfl (hb hby own_d3_0) rfl rfl kt) ?_
      show own_R p.tables e below P (T.setTop (mkF m 1 #[.val (.ref a1), .val (.long t), .second, .val (.int sz)] [(.ref a1)]))
      obtain ⟨T9, X9, e9, st9⟩ := getF X hx hZ hown (host := "") (Or.inl (hw _ (List.mem_of_getElem? (i := 25) rfl))) Via.refl eT gC (g := (mkF m 1 #[.val (.ref a1), .val (.long t), .second, .val (.int sz)] [(.ref a1)])) rfl rfl (hb hby own_d3_1)
      refine own_fwd st9 ?_
      show own_R p.tables e below P (T9.setTop (mkF m 4 #[.val (.ref a1), .val (.long t), .second, .val (.int sz)] [(.int ct)]))
      have hc10 : ¬ ((0 : Int32) < ct) := by rw [Int32.lt_iff_toInt_lt, own_i0]; omega
      refine own_fwd (fun tt kt => XS.ifYes X9.here hx rfl (pc0 := 4) (pc' := 62) rfl (hb hby own_d3_4) rfl ((if0 _ _).trans (flt hc10).2.2.2) (by decide) (by decide) kt) ?_
      show own_R p.tables e below P (T9.setTop (mkF m 62 #[.val (.ref a1), .val (.long t), .second, .val (.int sz)] []))
      refine own_fwd (fun tt kt => XS.aloadN X9.here hx rfl (hb hby own_d3_62) rfl rfl kt) ?_
      show own_R p.tables e below P (T9.setTop (mkF m 63 #[.val (.ref a1), .val (.long t), .second, .val (.int sz)] [(.ref a1)]))
      obtain ⟨T11, X11, e11, st11⟩ := getF X9 hx hZ hown (host := "") (Or.inl (hw _ (List.mem_of_getElem? (i := 25) rfl))) Via.refl e9 gC (g := (mkF m 63 #[.val (.ref a1), .val (.long t), .second, .val (.int sz)] [(.ref a1)])) rfl rfl (hb hby own_d3_63)
      refine own_fwd st11 ?_
      show own_R p.tables e below P (T11.setTop (mkF m 66 #[.val (.ref a1), .val (.long t), .second, .val (.int sz)] [(.int ct)]))
      have hc12 : ct = (0 : Int32) := by rw [← Int32.toInt_inj, dK, own_i0]; rfl
      refine own_fwd (fun tt kt => XS.ifNo X11.here hx rfl (hb hby own_d3_66) rfl ((if0 _ _).trans (teq hc12).2) kt) ?_
      show own_R p.tables e below P (T11.setTop (mkF m 69 #[.val (.ref a1), .val (.long t), .second, .val (.int sz)] []))
      refine own_fwd (fun tt kt => XS.aloadN X11.here hx rfl (hb hby own_d3_69) rfl rfl kt) ?_
      show own_R p.tables e below P (T11.setTop (mkF m 70 #[.val (.ref a1), .val (.long t), .second, .val (.int sz)] [(.ref a1)]))
      obtain ⟨T13, X13, e13, st13⟩ := getF X11 hx hZ hown (host := "") (Or.inl (hw _ (List.mem_of_getElem? (i := 18) rfl))) Via.refl e11 gB (g := (mkF m 70 #[.val (.ref a1), .val (.long t), .second, .val (.int sz)] [(.ref a1)])) rfl rfl (hb hby own_d3_70)
      refine own_fwd st13 ?_
      show own_R p.tables e below P (T13.setTop (mkF m 73 #[.val (.ref a1), .val (.long t), .second, .val (.int sz)] [(.int bf)]))
      refine own_fwd (fun tt kt => XS.goto X13.here hx rfl (pc0 := 73) (pc' := 92) rfl (hb hby own_d3_73) (by decide) (by decide) kt) ?_
      show own_R p.tables e below P (T13.setTop (mkF m 92 #[.val (.ref a1), .val (.long t), .second, .val (.int sz)] [(.int bf)]))
      refine own_fwd (fun tt kt => XS.iloadN X13.here hx rfl (hb hby own_d3_92) rfl kt) ?_
      show own_R p.tables e below P (T13.setTop (mkF m 93 #[.val (.ref a1), .val (.long t), .second, .val (.int sz)] [(.int sz), (.int bf)]))
      by_cases hc14 : bf = sz
      · refine own_fwd (fun tt kt => XS.icmpNo X13.here hx rfl (hb hby own_d3_93) rfl (teq hc14).2 kt) ?_
        show own_R p.tables e below P (T13.setTop (mkF m 96 #[.val (.ref a1), .val (.long t), .second, .val (.int sz)] []))
        obtain ⟨fs15, hr15, hrun15, hended15, hW15, hsame15⟩ := X13.leave (v := none) (fun _ => rfl)
        refine ⟨_, _, X13.returnOut hx Bd.returns (hb hby own_d3_96) hr15, fin _ _ ⟨hrun15, hended15, _, _, rfl, ?_, ⟨_, rfl⟩, hW15, hsame15.mono (by decide) (by decide)⟩⟩
        show own_Q3 Z a1 tA sA t sp sz bf0 fi0 ct0 ft fs F0 K0 h0 n0 _ T13.heap _
        rw [e13]
        exact ⟨rfl, N, Kp, F, 0, fi, ct, bf, ft, fs, gA, gI, dF, dK, by omega, own_asc_sub d1 d2 pAsc, fun j a b => Int.le_of_lt (hlt j (by omega) (by omega)), own_add_no d1 d2 d3 d4 hlt (by rw [if_pos rfl]; exact hc14), gE, gT, gS, gP, gB, gF, gC⟩
      · refine own_fwd (fun tt kt => XS.icmpYes X13.here hx rfl (pc0 := 93) (pc' := 97) rfl (hb hby own_d3_93) rfl (feq hc14).2 (by decide) (by decide) kt) ?_
        show own_R p.tables e below P (T13.setTop (mkF m 97 #[.val (.ref a1), .val (.long t), .second, .val (.int sz)] []))
        refine own_fwd (fun tt kt => XS.aloadN X13.here hx rfl (hb hby own_d3_97) rfl rfl kt) ?_
        show own_R p.tables e below P (T13.setTop (mkF m 98 #[.val (.ref a1), .val (.long t), .second, .val (.int sz)] [(.ref a1)]))
        obtain ⟨T16, X16, e16, st16⟩ := getF X13 hx hZ hown (host := "") (Or.inl (hw _ (List.mem_of_getElem? (i := 27) rfl))) Via.refl e13 gF (g := (mkF m 98 #[.val (.ref a1), .val (.long t), .second, .val (.int sz)] [(.ref a1)])) rfl rfl (hb hby own_d3_98)
        refine own_fwd st16 ?_
        show own_R p.tables e below P (T16.setTop (mkF m 101 #[.val (.ref a1), .val (.long t), .second, .val (.int sz)] [(.int fi)]))
        refine own_fwd (fun tt kt => XS.aloadN X16.here hx rfl (hb hby own_d3_101) rfl rfl kt) ?_
        show own_R p.tables e below P (T16.setTop (mkF m 102 #[.val (.ref a1), .val (.long t), .second, .val (.int sz)] [(.ref a1), (.int fi)]))
        obtain ⟨T17, X17, e17, st17⟩ := getF X16 hx hZ hown (host := "") (Or.inl (hw _ (List.mem_of_getElem? (i := 25) rfl))) Via.refl e16 gC (g := (mkF m 102 #[.val (.ref a1), .val (.long t), .second, .val (.int sz)] [(.ref a1), (.int fi)])) rfl rfl (hb hby own_d3_102)
        refine own_fwd st17 ?_
        show own_R p.tables e below P (T17.setTop (mkF m 105 #[.val (.ref a1), .val (.long t), .second, .val (.int sz)] [(.int ct), (.int fi)]))
        refine own_fwd (fun tt kt => XS.iadd X17.here hx rfl (hb hby own_d3_105) rfl kt) ?_
        show own_R p.tables e below P (T17.setTop (mkF m 106 #[.val (.ref a1), .val (.long t), .second, .val (.int sz)] [(.int (fi + ct))]))
        refine own_fwd (fun tt kt => XS.aloadN X17.here hx rfl (hb hby own_d3_106) rfl rfl kt) ?_
        show own_R p.tables e below P (T17.setTop (mkF m 107 #[.val (.ref a1), .val (.long t), .second, .val (.int sz)] [(.ref a1), (.int (fi + ct))]))
        obtain ⟨T18, X18, e18, st18⟩ := getF X17 hx hZ hown (host := "") (Or.inl (hw _ (List.mem_of_getElem? (i := 11) rfl))) Via.refl e17 gT (g := (mkF m 107 #[.val (.ref a1), .val (.long t), .second, .val (.int sz)] [(.ref a1), (.int (fi + ct))])) rfl rfl (hb hby own_d3_107)
        refine own_fwd st18 ?_
        show own_R p.tables e below P (T18.setTop (mkF m 110 #[.val (.ref a1), .val (.long t), .second, .val (.int sz)] [(.ref tA), (.int (fi + ct))]))
        refine own_fwd (own_len X18 hx hZ e18 gA (16 : Int32) (by decide) (g := (mkF m 110 #[.val (.ref a1), .val (.long t), .second, .val (.int sz)] [(.ref tA), (.int (fi + ct))])) rfl rfl (hb hby own_d3_110)) ?_
        show own_R p.tables e below P (T18.setTop (mkF m 111 #[.val (.ref a1), .val (.long t), .second, .val (.int sz)] [(.int (16 : Int32)), (.int (fi + ct))]))
        have hc19 : ¬ ((fi + ct) = (16 : Int32)) := fun q => by have q' := own_add dF dK (by omega); rw [q, own_i16] at q'; omega
        refine own_fwd (fun tt kt => XS.icmpYes X18.here hx rfl (pc0 := 111) (pc' := 209) rfl (hb hby own_d3_111) rfl (feq hc19).2 (by decide) (by decide) kt) ?_
        show own_R p.tables e below P (T18.setTop (mkF m 209 #[.val (.ref a1), .val (.long t), .second, .val (.int sz)] []))
        refine own_fwd (fun tt kt => XS.aloadN X18.here hx rfl (hb hby own_d3_209) rfl rfl kt) ?_
        show own_R p.tables e below P (T18.setTop (mkF m 210 #[.val (.ref a1), .val (.long t), .second, .val (.int sz)] [(.ref a1)]))
        obtain ⟨T20, X20, e20, st20⟩ := getF X18 hx hZ hown (host := "") (Or.inl (hw _ (List.mem_of_getElem? (i := 11) rfl))) Via.refl e18 gT (g := (mkF m 210 #[.val (.ref a1), .val (.long t), .second, .val (.int sz)] [(.ref a1)])) rfl rfl (hb hby own_d3_210)
        refine own_fwd st20 ?_
        show own_R p.tables e below P (T20.setTop (mkF m 213 #[.val (.ref a1), .val (.long t), .second, .val (.int sz)] [(.ref tA)]))
        refine own_fwd (fun tt kt => XS.aloadN X20.here hx rfl (hb hby own_d3_213) rfl rfl kt) ?_
        show own_R p.tables e below P (T20.setTop (mkF m 214 #[.val (.ref a1), .val (.long t), .second, .val (.int sz)] [(.ref a1), (.ref tA)]))
        obtain ⟨T21, X21, e21, st21⟩ := getF X20 hx hZ hown (host := "") (Or.inl (hw _ (List.mem_of_getElem? (i := 27) rfl))) Via.refl e20 gF (g := (mkF m 214 #[.val (.ref a1), .val (.long t), .second, .val (.int sz)] [(.ref a1), (.ref tA)])) rfl rfl (hb hby own_d3_214)
        refine own_fwd st21 ?_
        show own_R p.tables e below P (T21.setTop (mkF m 217 #[.val (.ref a1), .val (.long t), .second, .val (.int sz)] [(.int fi), (.ref tA)]))
        refine own_fwd (fun tt kt => XS.aloadN X21.here hx rfl (hb hby own_d3_217) rfl rfl kt) ?_
        show own_R p.tables e below P (T21.setTop (mkF m 218 #[.val (.ref a1), .val (.long t), .second, .val (.int sz)] [(.ref a1), (.int fi), (.ref tA)]))
        obtain ⟨T22, X22, e22, st22⟩ := getF X21 hx hZ hown (host := "") (Or.inl (hw _ (List.mem_of_getElem? (i := 25) rfl))) Via.refl e21 gC (g := (mkF m 218 #[.val (.ref a1), .val (.long t), .second, .val (.int sz)] [(.ref a1), (.int fi), (.ref tA)])) rfl rfl (hb hby own_d3_218)
        refine own_fwd st22 ?_
        show own_R p.tables e below P (T22.setTop (mkF m 221 #[.val (.ref a1), .val (.long t), .second, .val (.int sz)] [(.int ct), (.int fi), (.ref tA)]))
        refine own_fwd (fun tt kt => XS.iadd X22.here hx rfl (hb hby own_d3_221) rfl kt) ?_
        show own_R p.tables e below P (T22.setTop (mkF m 222 #[.val (.ref a1), .val (.long t), .second, .val (.int sz)] [(.int (fi + ct)), (.ref tA)]))
        refine own_fwd (fun tt kt => XS.lloadN X22.here hx rfl (hb hby own_d3_222) rfl kt) ?_
        show own_R p.tables e below P (T22.setTop (mkF m 223 #[.val (.ref a1), .val (.long t), .second, .val (.int sz)] [(.long t), (.int (fi + ct)), (.ref tA)]))
        obtain ⟨T23, h23, X23, e23, W23, A23_, st23⟩ := own_stJ X22 hx hZ e22 gA (j := (fi + ct)) (F + 0) (own_add dF dK (by omega)) (by omega) (g := (mkF m 223 #[.val (.ref a1), .val (.long t), .second, .val (.int sz)] [(.long t), (.int (fi + ct)), (.ref tA)])) rfl rfl (hb hby own_d3_223)
        have gE_x23 := gE.wr W23
        have gT_x23 := gT.other W23 (Or.inl n1)
        have gS_x23 := gS.other W23 (Or.inl n1)
        have gP_x23 := gP.other W23 (Or.inl n1)
        have gB_x23 := gB.other W23 (Or.inl n1)
        have gF_x23 := gF.other W23 (Or.inl n1)
        have gC_x23 := gC.other W23 (Or.inl n1)
        have gI_x23 := gI.other W23 (Ne.symm n3)
        have N23 := Fr.snoc X23 N pgt
        have Z23 : n0 ≤ h23.size := by rw [W23.size]; exact Zs
        have K23 := Kp.wr W23 (Or.inl (List.mem_of_getElem? (i := 1) rfl))
        have Y23 : h0.size ≤ h23.size := by rw [W23.size]; exact Y
        refine own_fwd st23 ?_
        show own_R p.tables e below P (T23.setTop (mkF m 224 #[.val (.ref a1), .val (.long t), .second, .val (.int sz)] []))
        refine own_fwd (fun tt kt => XS.aloadN X23.here hx rfl (hb hby own_d3_224) rfl rfl kt) ?_
        show own_R p.tables e below P (T23.setTop (mkF m 225 #[.val (.ref a1), .val (.long t), .second, .val (.int sz)] [(.ref a1)]))
        obtain ⟨T24, X24, e24, st24⟩ := getF X23 hx hZ hown (host := "") (Or.inl (hw _ (List.mem_of_getElem? (i := 14) rfl))) Via.refl e23 gS_x23 (g := (mkF m 225 #[.val (.ref a1), .val (.long t), .second, .val (.int sz)] [(.ref a1)])) rfl rfl (hb hby own_d3_225)
        refine own_fwd st24 ?_
        show own_R p.tables e below P (T24.setTop (mkF m 228 #[.val (.ref a1), .val (.long t), .second, .val (.int sz)] [(.ref sA)]))
        refine own_fwd (fun tt kt => XS.aloadN X24.here hx rfl (hb hby own_d3_228) rfl rfl kt) ?_
        show own_R p.tables e below P (T24.setTop (mkF m 229 #[.val (.ref a1), .val (.long t), .second, .val (.int sz)] [(.ref a1), (.ref sA)]))
        obtain ⟨T25, X25, e25, st25⟩ := getF X24 hx hZ hown (host := "") (Or.inl (hw _ (List.mem_of_getElem? (i := 27) rfl))) Via.refl e24 gF_x23 (g := (mkF m 229 #[.val (.ref a1), .val (.long t), .second, .val (.int sz)] [(.ref a1), (.ref sA)])) rfl rfl (hb hby own_d3_229)
        refine own_fwd st25 ?_
        show own_R p.tables e below P (T25.setTop (mkF m 232 #[.val (.ref a1), .val (.long t), .second, .val (.int sz)] [(.int fi), (.ref sA)]))
        refine own_fwd (fun tt kt => XS.aloadN X25.here hx rfl (hb hby own_d3_232) rfl rfl kt) ?_
        show own_R p.tables e below P (T25.setTop (mkF m 233 #[.val (.ref a1), .val (.long t), .second, .val (.int sz)] [(.ref a1), (.int fi), (.ref sA)]))
        obtain ⟨T26, X26, e26, st26⟩ := getF X25 hx hZ hown (host := "") (Or.inl (hw _ (List.mem_of_getElem? (i := 25) rfl))) Via.refl e25 gC_x23 (g := (mkF m 233 #[.val (.ref a1), .val (.long t), .second, .val (.int sz)] [(.ref a1), (.int fi), (.ref sA)])) rfl rfl (hb hby own_d3_233)
        refine own_fwd st26 ?_
        show own_R p.tables e below P (T26.setTop (mkF m 236 #[.val (.ref a1), .val (.long t), .second, .val (.int sz)] [(.int ct), (.int fi), (.ref sA)]))
        refine own_fwd (fun tt kt => XS.iadd X26.here hx rfl (hb hby own_d3_236) rfl kt) ?_
        show own_R p.tables e below P (T26.setTop (mkF m 237 #[.val (.ref a1), .val (.long t), .second, .val (.int sz)] [(.int (fi + ct)), (.ref sA)]))
        refine own_fwd (fun tt kt => XS.iloadN X26.here hx rfl (hb hby own_d3_237) rfl kt) ?_
        show own_R p.tables e below P (T26.setTop (mkF m 238 #[.val (.ref a1), .val (.long t), .second, .val (.int sz)] [(.int sz), (.int (fi + ct)), (.ref sA)]))
        obtain ⟨T27, h27, X27, e27, W27, A27_, st27⟩ := own_stI X26 hx hZ e26 gI_x23 (j := (fi + ct)) (F + 0) (own_add dF dK (by omega)) (by omega) (g := (mkF m 238 #[.val (.ref a1), .val (.long t), .second, .val (.int sz)] [(.int sz), (.int (fi + ct)), (.ref sA)])) rfl rfl (hb hby own_d3_238)
        have gE_x27 := gE_x23.wr W27
        have gT_x27 := gT_x23.other W27 (Or.inl n2)
        have gS_x27 := gS_x23.other W27 (Or.inl n2)
        have gP_x27 := gP_x23.other W27 (Or.inl n2)
        have gB_x27 := gB_x23.other W27 (Or.inl n2)
        have gF_x27 := gF_x23.other W27 (Or.inl n2)
        have gC_x27 := gC_x23.other W27 (Or.inl n2)
        have A23__x27 := A23_.other W27 n3
        have N27 := Fr.snoc X27 N23 pgs
        have Z27 : n0 ≤ h27.size := by rw [W27.size]; exact Z23
        have K27 := K23.wr W27 (Or.inl (List.mem_of_getElem? (i := 2) rfl))
        have Y27 : h0.size ≤ h27.size := by rw [W27.size]; exact Y23
        refine own_fwd st27 ?_
        show own_R p.tables e below P (T27.setTop (mkF m 239 #[.val (.ref a1), .val (.long t), .second, .val (.int sz)] []))
        refine own_fwd (fun tt kt => XS.aloadN X27.here hx rfl (hb hby own_d3_239) rfl rfl kt) ?_
        show own_R p.tables e below P (T27.setTop (mkF m 240 #[.val (.ref a1), .val (.long t), .second, .val (.int sz)] [(.ref a1)]))
        refine own_fwd (fun tt kt => XS.dup X27.here hx rfl (hb hby own_d3_240) rfl rfl kt) ?_
        show own_R p.tables e below P (T27.setTop (mkF m 241 #[.val (.ref a1), .val (.long t), .second, .val (.int sz)] [(.ref a1), (.ref a1)]))
        obtain ⟨T28, X28, e28, st28⟩ := getF X27 hx hZ hown (host := "") (Or.inl (hw _ (List.mem_of_getElem? (i := 25) rfl))) Via.refl e27 gC_x27 (g := (mkF m 241 #[.val (.ref a1), .val (.long t), .second, .val (.int sz)] [(.ref a1), (.ref a1)])) rfl rfl (hb hby own_d3_241)
        refine own_fwd st28 ?_
        show own_R p.tables e below P (T28.setTop (mkF m 244 #[.val (.ref a1), .val (.long t), .second, .val (.int sz)] [(.int ct), (.ref a1)]))
        refine own_fwd (fun tt kt => XS.iconst X28.here hx rfl (hb hby own_d3_244) kt) ?_
        show own_R p.tables e below P (T28.setTop (mkF m 245 #[.val (.ref a1), .val (.long t), .second, .val (.int sz)] [(.int (1 : Int32)), (.int ct), (.ref a1)]))
        refine own_fwd (fun tt kt => XS.iadd X28.here hx rfl (hb hby own_d3_245) rfl kt) ?_
        show own_R p.tables e below P (T28.setTop (mkF m 246 #[.val (.ref a1), .val (.long t), .second, .val (.int sz)] [(.int (ct + (1 : Int32))), (.ref a1)]))
        obtain ⟨T29, h29, X29, e29, W29, st29⟩ := putF X28 hx hZ hown (host := "") (Or.inl (hw _ (List.mem_of_getElem? (i := 25) rfl))) Via.refl e28 gC_x27 gE_x27 (Or.inl (hw _ (List.mem_of_getElem? (i := 26) rfl))) (hw _ (List.mem_of_getElem? (i := 2) rfl)) (ty := .int) (by decide) rfl rfl (g := (mkF m 246 #[.val (.ref a1), .val (.long t), .second, .val (.int sz)] [(.int (ct + (1 : Int32))), (.ref a1)])) rfl rfl (hb hby own_d3_246)
        have F29_ := gC_x27.same W29
        have gE_x29 := gE_x27.wr W29
        have gT_x29 := gT_x27.other W29 (Or.inr (slot_ne (Or.inl (hw _ (List.mem_of_getElem? (i := 12) rfl))) (Or.inl (hw _ (List.mem_of_getElem? (i := 26) rfl))) (by decide) (t := (.array .long)) (t' := .int) (by decide) (by decide)))
        have gS_x29 := gS_x27.other W29 (Or.inr (slot_ne (Or.inl (hw _ (List.mem_of_getElem? (i := 15) rfl))) (Or.inl (hw _ (List.mem_of_getElem? (i := 26) rfl))) (by decide) (t := (.array .int)) (t' := .int) (by decide) (by decide)))
        have gP_x29 := gP_x27.other W29 (Or.inr (slot_ne (Or.inr (hw _ (List.mem_of_getElem? (i := 17) rfl))) (Or.inl (hw _ (List.mem_of_getElem? (i := 26) rfl))) (by decide) (t := .long) (t' := .int) (by decide) (by decide)))
        have gB_x29 := gB_x27.other W29 (Or.inr (slot_ne (Or.inl (hw _ (List.mem_of_getElem? (i := 19) rfl))) (Or.inl (hw _ (List.mem_of_getElem? (i := 26) rfl))) (by decide) (t := .int) (t' := .int) (by decide) (by decide)))
        have gF_x29 := gF_x27.other W29 (Or.inr (slot_ne (Or.inl (hw _ (List.mem_of_getElem? (i := 28) rfl))) (Or.inl (hw _ (List.mem_of_getElem? (i := 26) rfl))) (by decide) (t := .int) (t' := .int) (by decide) (by decide)))
        have A23__x29 := A23__x27.other W29 (Ne.symm n1)
        have A27__x29 := A27_.other W29 (Ne.symm n2)
        have N29 := Fr.snoc X29 N27 pg
        have Z29 : n0 ≤ h29.size := by rw [W29.size]; exact Z27
        have K29 := K27.wr W29 (Or.inl (List.mem_of_getElem? (i := 0) rfl))
        have Y29 : h0.size ≤ h29.size := by rw [W29.size]; exact Y27
        refine own_fwd st29 ?_
        show own_R p.tables e below P (T29.setTop (mkF m 249 #[.val (.ref a1), .val (.long t), .second, .val (.int sz)] []))
        obtain ⟨fs30, hr30, hrun30, hended30, hW30, hsame30⟩ := X29.leave (v := none) (fun _ => rfl)
        refine ⟨_, _, X29.returnOut hx Bd.returns (hb hby own_d3_249) hr30, fin _ _ ⟨hrun30, hended30, _, _, rfl, ?_, ⟨_, rfl⟩, hW30, hsame30.mono (by decide) (by decide)⟩⟩
        show own_Q3 Z a1 tA sA t sp sz bf0 fi0 ct0 ft fs F0 K0 h0 n0 _ T29.heap _
        rw [e29]
        exact ⟨rfl, N29, K29, F, 0 + 1, fi, (ct + (1 : Int32)), bf, _, _, A23__x29, A27__x29, dF, own_add dK own_i1 (by omega), by omega, own_asc_up (own_asc_sub d1 d2 pAsc) (fun j a b => hlt j (by omega) (by omega)), fun j a b => by
          by_cases c : j = F + 0
          · rw [c, own_upd_hit]; exact Int.le_refl _
          · rw [own_upd_miss _ _ c]; exact Int.le_of_lt (hlt j (by omega) (by omega)), own_add_yes d1 d2 d3 d4 hlt, gE_x29, gT_x29, gS_x29, gP_x29, gB_x29, gF_x29, F29_⟩
    | succ K ih =>
      intro F fi ct bf T h locs X eT N Zs Y Kp gE gT gS gP gB gF gC gA gI dF dK d1 d2 d3 d4
      refine own_fwd (fun tt kt => XS.aloadN X.here hx rfl (hb hby own_d3_0) rfl rfl kt) ?_
      show own_R p.tables e below P (T.setTop (mkF m 1 #[.val (.ref a1), .val (.long t), .second, .val (.int sz)] [(.ref a1)]))
      obtain ⟨T31, X31, e31, st31⟩ := getF X hx hZ hown (host := "") (Or.inl (hw _ (List.mem_of_getElem? (i := 25) rfl))) Via.refl eT gC (g := (mkF m 1 #[.val (.ref a1), .val (.long t), .second, .val (.int sz)] [(.ref a1)])) rfl rfl (hb hby own_d3_1)
      refine own_fwd st31 ?_
      show own_R p.tables e below P (T31.setTop (mkF m 4 #[.val (.ref a1), .val (.long t), .second, .val (.int sz)] [(.int ct)]))
      have hc32 : (0 : Int32) < ct := by rw [Int32.lt_iff_toInt_lt, own_i0]; omega
      refine own_fwd (fun tt kt => XS.ifNo X31.here hx rfl (hb hby own_d3_4) rfl ((if0 _ _).trans (tlt hc32).2.2.2) kt) ?_
      show own_R p.tables e below P (T31.setTop (mkF m 7 #[.val (.ref a1), .val (.long t), .second, .val (.int sz)] []))
      refine own_fwd (fun tt kt => XS.aloadN X31.here hx rfl (hb hby own_d3_7) rfl rfl kt) ?_
      show own_R p.tables e below P (T31.setTop (mkF m 8 #[.val (.ref a1), .val (.long t), .second, .val (.int sz)] [(.ref a1)]))
      obtain ⟨T33, X33, e33, st33⟩ := getF X31 hx hZ hown (host := "") (Or.inl (hw _ (List.mem_of_getElem? (i := 11) rfl))) Via.refl e31 gT (g := (mkF m 8 #[.val (.ref a1), .val (.long t), .second, .val (.int sz)] [(.ref a1)])) rfl rfl (hb hby own_d3_8)
      refine own_fwd st33 ?_
      show own_R p.tables e below P (T33.setTop (mkF m 11 #[.val (.ref a1), .val (.long t), .second, .val (.int sz)] [(.ref tA)]))
      refine own_fwd (fun tt kt => XS.aloadN X33.here hx rfl (hb hby own_d3_11) rfl rfl kt) ?_
      show own_R p.tables e below P (T33.setTop (mkF m 12 #[.val (.ref a1), .val (.long t), .second, .val (.int sz)] [(.ref a1), (.ref tA)]))
      obtain ⟨T34, X34, e34, st34⟩ := getF X33 hx hZ hown (host := "") (Or.inl (hw _ (List.mem_of_getElem? (i := 27) rfl))) Via.refl e33 gF (g := (mkF m 12 #[.val (.ref a1), .val (.long t), .second, .val (.int sz)] [(.ref a1), (.ref tA)])) rfl rfl (hb hby own_d3_12)
      refine own_fwd st34 ?_
      show own_R p.tables e below P (T34.setTop (mkF m 15 #[.val (.ref a1), .val (.long t), .second, .val (.int sz)] [(.int fi), (.ref tA)]))
      refine own_fwd (own_ldJ X34 hx hZ e34 gA (j := fi) F dF (by omega) (g := (mkF m 15 #[.val (.ref a1), .val (.long t), .second, .val (.int sz)] [(.int fi), (.ref tA)])) rfl rfl (hb hby own_d3_15)) ?_
      show own_R p.tables e below P (T34.setTop (mkF m 16 #[.val (.ref a1), .val (.long t), .second, .val (.int sz)] [(.long (ft F))]))
      refine own_fwd (fun tt kt => XS.lloadN X34.here hx rfl (hb hby own_d3_16) rfl kt) ?_
      show own_R p.tables e below P (T34.setTop (mkF m 17 #[.val (.ref a1), .val (.long t), .second, .val (.int sz)] [(.long t), (.long (ft F))]))
      refine own_fwd (fun tt kt => XS.aloadN X34.here hx rfl (hb hby own_d3_17) rfl rfl kt) ?_
      show own_R p.tables e below P (T34.setTop (mkF m 18 #[.val (.ref a1), .val (.long t), .second, .val (.int sz)] [(.ref a1), (.long t), (.long (ft F))]))
      obtain ⟨T35, X35, e35, st35⟩ := getF X34 hx hZ hown (host := "") (Or.inl (hw _ (List.mem_of_getElem? (i := 16) rfl))) Via.refl e34 gP (g := (mkF m 18 #[.val (.ref a1), .val (.long t), .second, .val (.int sz)] [(.ref a1), (.long t), (.long (ft F))])) rfl rfl (hb hby own_d3_18)
      refine own_fwd st35 ?_
      show own_R p.tables e below P (T35.setTop (mkF m 21 #[.val (.ref a1), .val (.long t), .second, .val (.int sz)] [(.long sp), (.long t), (.long (ft F))]))
      refine own_fwd (fun tt kt => XS.lsub X35.here hx rfl (hb hby own_d3_21) rfl kt) ?_
      show own_R p.tables e below P (T35.setTop (mkF m 22 #[.val (.ref a1), .val (.long t), .second, .val (.int sz)] [(.long (t - sp)), (.long (ft F))]))
      refine own_fwd (fun tt kt => XS.lcmp X35.here hx rfl (hb hby own_d3_22) rfl kt) ?_
      show own_R p.tables e below P (T35.setTop (mkF m 23 #[.val (.ref a1), .val (.long t), .second, .val (.int sz)] [(.int (lcmpW (ft F) (t - sp)))]))
      by_cases hc36 : (0 : Int32) < (lcmpW (ft F) (t - sp))
      · refine own_fwd (fun tt kt => XS.ifYes X35.here hx rfl (pc0 := 23) (pc' := 62) rfl (hb hby own_d3_23) rfl ((if0 _ _).trans (tlt hc36).2.2.1) (by decide) (by decide) kt) ?_
        show own_R p.tables e below P (T35.setTop (mkF m 62 #[.val (.ref a1), .val (.long t), .second, .val (.int sz)] []))
        refine own_fwd (fun tt kt => XS.aloadN X35.here hx rfl (hb hby own_d3_62) rfl rfl kt) ?_
        show own_R p.tables e below P (T35.setTop (mkF m 63 #[.val (.ref a1), .val (.long t), .second, .val (.int sz)] [(.ref a1)]))
        obtain ⟨T37, X37, e37, st37⟩ := getF X35 hx hZ hown (host := "") (Or.inl (hw _ (List.mem_of_getElem? (i := 25) rfl))) Via.refl e35 gC (g := (mkF m 63 #[.val (.ref a1), .val (.long t), .second, .val (.int sz)] [(.ref a1)])) rfl rfl (hb hby own_d3_63)
        refine own_fwd st37 ?_
        show own_R p.tables e below P (T37.setTop (mkF m 66 #[.val (.ref a1), .val (.long t), .second, .val (.int sz)] [(.int ct)]))
        have hc38 : ¬ (ct = (0 : Int32)) := fun q => by rw [q, own_i0] at dK; omega
        refine own_fwd (fun tt kt => XS.ifYes X37.here hx rfl (pc0 := 66) (pc' := 76) rfl (hb hby own_d3_66) rfl ((if0 _ _).trans (feq hc38).2) (by decide) (by decide) kt) ?_
        show own_R p.tables e below P (T37.setTop (mkF m 76 #[.val (.ref a1), .val (.long t), .second, .val (.int sz)] []))
        refine own_fwd (fun tt kt => XS.aloadN X37.here hx rfl (hb hby own_d3_76) rfl rfl kt) ?_
        show own_R p.tables e below P (T37.setTop (mkF m 77 #[.val (.ref a1), .val (.long t), .second, .val (.int sz)] [(.ref a1)]))
        obtain ⟨T39, X39, e39, st39⟩ := getF X37 hx hZ hown (host := "") (Or.inl (hw _ (List.mem_of_getElem? (i := 14) rfl))) Via.refl e37 gS (g := (mkF m 77 #[.val (.ref a1), .val (.long t), .second, .val (.int sz)] [(.ref a1)])) rfl rfl (hb hby own_d3_77)
        refine own_fwd st39 ?_
        show own_R p.tables e below P (T39.setTop (mkF m 80 #[.val (.ref a1), .val (.long t), .second, .val (.int sz)] [(.ref sA)]))
        refine own_fwd (fun tt kt => XS.aloadN X39.here hx rfl (hb hby own_d3_80) rfl rfl kt) ?_
        show own_R p.tables e below P (T39.setTop (mkF m 81 #[.val (.ref a1), .val (.long t), .second, .val (.int sz)] [(.ref a1), (.ref sA)]))
        obtain ⟨T40, X40, e40, st40⟩ := getF X39 hx hZ hown (host := "") (Or.inl (hw _ (List.mem_of_getElem? (i := 27) rfl))) Via.refl e39 gF (g := (mkF m 81 #[.val (.ref a1), .val (.long t), .second, .val (.int sz)] [(.ref a1), (.ref sA)])) rfl rfl (hb hby own_d3_81)
        refine own_fwd st40 ?_
        show own_R p.tables e below P (T40.setTop (mkF m 84 #[.val (.ref a1), .val (.long t), .second, .val (.int sz)] [(.int fi), (.ref sA)]))
        refine own_fwd (fun tt kt => XS.aloadN X40.here hx rfl (hb hby own_d3_84) rfl rfl kt) ?_
        show own_R p.tables e below P (T40.setTop (mkF m 85 #[.val (.ref a1), .val (.long t), .second, .val (.int sz)] [(.ref a1), (.int fi), (.ref sA)]))
        obtain ⟨T41, X41, e41, st41⟩ := getF X40 hx hZ hown (host := "") (Or.inl (hw _ (List.mem_of_getElem? (i := 25) rfl))) Via.refl e40 gC (g := (mkF m 85 #[.val (.ref a1), .val (.long t), .second, .val (.int sz)] [(.ref a1), (.int fi), (.ref sA)])) rfl rfl (hb hby own_d3_85)
        refine own_fwd st41 ?_
        show own_R p.tables e below P (T41.setTop (mkF m 88 #[.val (.ref a1), .val (.long t), .second, .val (.int sz)] [(.int ct), (.int fi), (.ref sA)]))
        refine own_fwd (fun tt kt => XS.iadd X41.here hx rfl (hb hby own_d3_88) rfl kt) ?_
        show own_R p.tables e below P (T41.setTop (mkF m 89 #[.val (.ref a1), .val (.long t), .second, .val (.int sz)] [(.int (fi + ct)), (.ref sA)]))
        refine own_fwd (fun tt kt => XS.iconst X41.here hx rfl (hb hby own_d3_89) kt) ?_
        show own_R p.tables e below P (T41.setTop (mkF m 90 #[.val (.ref a1), .val (.long t), .second, .val (.int sz)] [(.int (1 : Int32)), (.int (fi + ct)), (.ref sA)]))
        refine own_fwd (fun tt kt => XS.isub X41.here hx rfl (hb hby own_d3_90) rfl kt) ?_
        show own_R p.tables e below P (T41.setTop (mkF m 91 #[.val (.ref a1), .val (.long t), .second, .val (.int sz)] [(.int ((fi + ct) - (1 : Int32))), (.ref sA)]))
        refine own_fwd (own_ldI X41 hx hZ e41 gI (j := ((fi + ct) - (1 : Int32))) (F + K) (own_pred (i := F + K) (own_add (i := F) (j := K + 1) dF dK (by omega))) (by omega) (g := (mkF m 91 #[.val (.ref a1), .val (.long t), .second, .val (.int sz)] [(.int ((fi + ct) - (1 : Int32))), (.ref sA)])) rfl rfl (hb hby own_d3_91)) ?_
        show own_R p.tables e below P (T41.setTop (mkF m 92 #[.val (.ref a1), .val (.long t), .second, .val (.int sz)] [(.int (fs (F + K)))]))
        refine own_fwd (fun tt kt => XS.iloadN X41.here hx rfl (hb hby own_d3_92) rfl kt) ?_
        show own_R p.tables e below P (T41.setTop (mkF m 93 #[.val (.ref a1), .val (.long t), .second, .val (.int sz)] [(.int sz), (.int (fs (F + K)))]))
        by_cases hc42 : (fs (F + K)) = sz
        · refine own_fwd (fun tt kt => XS.icmpNo X41.here hx rfl (hb hby own_d3_93) rfl (teq hc42).2 kt) ?_
          show own_R p.tables e below P (T41.setTop (mkF m 96 #[.val (.ref a1), .val (.long t), .second, .val (.int sz)] []))
          obtain ⟨fs43, hr43, hrun43, hended43, hW43, hsame43⟩ := X41.leave (v := none) (fun _ => rfl)
          refine ⟨_, _, X41.returnOut hx Bd.returns (hb hby own_d3_96) hr43, fin _ _ ⟨hrun43, hended43, _, _, rfl, ?_, ⟨_, rfl⟩, hW43, hsame43.mono (by decide) (by decide)⟩⟩
          show own_Q3 Z a1 tA sA t sp sz bf0 fi0 ct0 ft fs F0 K0 h0 n0 _ T41.heap _
          rw [e41]
          exact ⟨rfl, N, Kp, F, (K + 1), fi, ct, bf, ft, fs, gA, gI, dF, dK, by omega, own_asc_sub d1 d2 pAsc, fun j a b => Int.le_of_lt (hlt j (by omega) (by omega)), own_add_no d1 d2 d3 d4 hlt (by rw [if_neg (by omega)]; exact hc42), gE, gT, gS, gP, gB, gF, gC⟩
        · refine own_fwd (fun tt kt => XS.icmpYes X41.here hx rfl (pc0 := 93) (pc' := 97) rfl (hb hby own_d3_93) rfl (feq hc42).2 (by decide) (by decide) kt) ?_
          show own_R p.tables e below P (T41.setTop (mkF m 97 #[.val (.ref a1), .val (.long t), .second, .val (.int sz)] []))
          refine own_fwd (fun tt kt => XS.aloadN X41.here hx rfl (hb hby own_d3_97) rfl rfl kt) ?_
          show own_R p.tables e below P (T41.setTop (mkF m 98 #[.val (.ref a1), .val (.long t), .second, .val (.int sz)] [(.ref a1)]))
          obtain ⟨T44, X44, e44, st44⟩ := getF X41 hx hZ hown (host := "") (Or.inl (hw _ (List.mem_of_getElem? (i := 27) rfl))) Via.refl e41 gF (g := (mkF m 98 #[.val (.ref a1), .val (.long t), .second, .val (.int sz)] [(.ref a1)])) rfl rfl (hb hby own_d3_98)
          refine own_fwd st44 ?_
          show own_R p.tables e below P (T44.setTop (mkF m 101 #[.val (.ref a1), .val (.long t), .second, .val (.int sz)] [(.int fi)]))
          refine own_fwd (fun tt kt => XS.aloadN X44.here hx rfl (hb hby own_d3_101) rfl rfl kt) ?_
          show own_R p.tables e below P (T44.setTop (mkF m 102 #[.val (.ref a1), .val (.long t), .second, .val (.int sz)] [(.ref a1), (.int fi)]))
          obtain ⟨T45, X45, e45, st45⟩ := getF X44 hx hZ hown (host := "") (Or.inl (hw _ (List.mem_of_getElem? (i := 25) rfl))) Via.refl e44 gC (g := (mkF m 102 #[.val (.ref a1), .val (.long t), .second, .val (.int sz)] [(.ref a1), (.int fi)])) rfl rfl (hb hby own_d3_102)
          refine own_fwd st45 ?_
          show own_R p.tables e below P (T45.setTop (mkF m 105 #[.val (.ref a1), .val (.long t), .second, .val (.int sz)] [(.int ct), (.int fi)]))
          refine own_fwd (fun tt kt => XS.iadd X45.here hx rfl (hb hby own_d3_105) rfl kt) ?_
          show own_R p.tables e below P (T45.setTop (mkF m 106 #[.val (.ref a1), .val (.long t), .second, .val (.int sz)] [(.int (fi + ct))]))
          refine own_fwd (fun tt kt => XS.aloadN X45.here hx rfl (hb hby own_d3_106) rfl rfl kt) ?_
          show own_R p.tables e below P (T45.setTop (mkF m 107 #[.val (.ref a1), .val (.long t), .second, .val (.int sz)] [(.ref a1), (.int (fi + ct))]))
          obtain ⟨T46, X46, e46, st46⟩ := getF X45 hx hZ hown (host := "") (Or.inl (hw _ (List.mem_of_getElem? (i := 11) rfl))) Via.refl e45 gT (g := (mkF m 107 #[.val (.ref a1), .val (.long t), .second, .val (.int sz)] [(.ref a1), (.int (fi + ct))])) rfl rfl (hb hby own_d3_107)
          refine own_fwd st46 ?_
          show own_R p.tables e below P (T46.setTop (mkF m 110 #[.val (.ref a1), .val (.long t), .second, .val (.int sz)] [(.ref tA), (.int (fi + ct))]))
          refine own_fwd (own_len X46 hx hZ e46 gA (16 : Int32) (by decide) (g := (mkF m 110 #[.val (.ref a1), .val (.long t), .second, .val (.int sz)] [(.ref tA), (.int (fi + ct))])) rfl rfl (hb hby own_d3_110)) ?_
          show own_R p.tables e below P (T46.setTop (mkF m 111 #[.val (.ref a1), .val (.long t), .second, .val (.int sz)] [(.int (16 : Int32)), (.int (fi + ct))]))
          have hc47 : ¬ ((fi + ct) = (16 : Int32)) := fun q => by have q' := own_add dF dK (by omega); rw [q, own_i16] at q'; omega
          refine own_fwd (fun tt kt => XS.icmpYes X46.here hx rfl (pc0 := 111) (pc' := 209) rfl (hb hby own_d3_111) rfl (feq hc47).2 (by decide) (by decide) kt) ?_
          show own_R p.tables e below P (T46.setTop (mkF m 209 #[.val (.ref a1), .val (.long t), .second, .val (.int sz)] []))
          refine own_fwd (fun tt kt => XS.aloadN X46.here hx rfl (hb hby own_d3_209) rfl rfl kt) ?_
          show own_R p.tables e below P (T46.setTop (mkF m 210 #[.val (.ref a1), .val (.long t), .second, .val (.int sz)] [(.ref a1)]))
          obtain ⟨T48, X48, e48, st48⟩ := getF X46 hx hZ hown (host := "") (Or.inl (hw _ (List.mem_of_getElem? (i := 11) rfl))) Via.refl e46 gT (g := (mkF m 210 #[.val (.ref a1), .val (.long t), .second, .val (.int sz)] [(.ref a1)])) rfl rfl (hb hby own_d3_210)
          refine own_fwd st48 ?_
          show own_R p.tables e below P (T48.setTop (mkF m 213 #[.val (.ref a1), .val (.long t), .second, .val (.int sz)] [(.ref tA)]))
          refine own_fwd (fun tt kt => XS.aloadN X48.here hx rfl (hb hby own_d3_213) rfl rfl kt) ?_
          show own_R p.tables e below P (T48.setTop (mkF m 214 #[.val (.ref a1), .val (.long t), .second, .val (.int sz)] [(.ref a1), (.ref tA)]))
          obtain ⟨T49, X49, e49, st49⟩ := getF X48 hx hZ hown (host := "") (Or.inl (hw _ (List.mem_of_getElem? (i := 27) rfl))) Via.refl e48 gF (g := (mkF m 214 #[.val (.ref a1), .val (.long t), .second, .val (.int sz)] [(.ref a1), (.ref tA)])) rfl rfl (hb hby own_d3_214)
          refine own_fwd st49 ?_
          show own_R p.tables e below P (T49.setTop (mkF m 217 #[.val (.ref a1), .val (.long t), .second, .val (.int sz)] [(.int fi), (.ref tA)]))
          refine own_fwd (fun tt kt => XS.aloadN X49.here hx rfl (hb hby own_d3_217) rfl rfl kt) ?_
          show own_R p.tables e below P (T49.setTop (mkF m 218 #[.val (.ref a1), .val (.long t), .second, .val (.int sz)] [(.ref a1), (.int fi), (.ref tA)]))
          obtain ⟨T50, X50, e50, st50⟩ := getF X49 hx hZ hown (host := "") (Or.inl (hw _ (List.mem_of_getElem? (i := 25) rfl))) Via.refl e49 gC (g := (mkF m 218 #[.val (.ref a1), .val (.long t), .second, .val (.int sz)] [(.ref a1), (.int fi), (.ref tA)])) rfl rfl (hb hby own_d3_218)
          refine own_fwd st50 ?_
          show own_R p.tables e below P (T50.setTop (mkF m 221 #[.val (.ref a1), .val (.long t), .second, .val (.int sz)] [(.int ct), (.int fi), (.ref tA)]))
          refine own_fwd (fun tt kt => XS.iadd X50.here hx rfl (hb hby own_d3_221) rfl kt) ?_
          show own_R p.tables e below P (T50.setTop (mkF m 222 #[.val (.ref a1), .val (.long t), .second, .val (.int sz)] [(.int (fi + ct)), (.ref tA)]))
          refine own_fwd (fun tt kt => XS.lloadN X50.here hx rfl (hb hby own_d3_222) rfl kt) ?_
          show own_R p.tables e below P (T50.setTop (mkF m 223 #[.val (.ref a1), .val (.long t), .second, .val (.int sz)] [(.long t), (.int (fi + ct)), (.ref tA)]))
          obtain ⟨T51, h51, X51, e51, W51, A51_, st51⟩ := own_stJ X50 hx hZ e50 gA (j := (fi + ct)) (F + (K + 1)) (own_add dF dK (by omega)) (by omega) (g := (mkF m 223 #[.val (.ref a1), .val (.long t), .second, .val (.int sz)] [(.long t), (.int (fi + ct)), (.ref tA)])) rfl rfl (hb hby own_d3_223)
          have gE_x51 := gE.wr W51
          have gT_x51 := gT.other W51 (Or.inl n1)
          have gS_x51 := gS.other W51 (Or.inl n1)
          have gP_x51 := gP.other W51 (Or.inl n1)
          have gB_x51 := gB.other W51 (Or.inl n1)
          have gF_x51 := gF.other W51 (Or.inl n1)
          have gC_x51 := gC.other W51 (Or.inl n1)
          have gI_x51 := gI.other W51 (Ne.symm n3)
          have N51 := Fr.snoc X51 N pgt
          have Z51 : n0 ≤ h51.size := by rw [W51.size]; exact Zs
          have K51 := Kp.wr W51 (Or.inl (List.mem_of_getElem? (i := 1) rfl))
          have Y51 : h0.size ≤ h51.size := by rw [W51.size]; exact Y
          refine own_fwd st51 ?_
          show own_R p.tables e below P (T51.setTop (mkF m 224 #[.val (.ref a1), .val (.long t), .second, .val (.int sz)] []))
          refine own_fwd (fun tt kt => XS.aloadN X51.here hx rfl (hb hby own_d3_224) rfl rfl kt) ?_
          show own_R p.tables e below P (T51.setTop (mkF m 225 #[.val (.ref a1), .val (.long t), .second, .val (.int sz)] [(.ref a1)]))
          obtain ⟨T52, X52, e52, st52⟩ := getF X51 hx hZ hown (host := "") (Or.inl (hw _ (List.mem_of_getElem? (i := 14) rfl))) Via.refl e51 gS_x51 (g := (mkF m 225 #[.val (.ref a1), .val (.long t), .second, .val (.int sz)] [(.ref a1)])) rfl rfl (hb hby own_d3_225)
          refine own_fwd st52 ?_
          show own_R p.tables e below P (T52.setTop (mkF m 228 #[.val (.ref a1), .val (.long t), .second, .val (.int sz)] [(.ref sA)]))
          refine own_fwd (fun tt kt => XS.aloadN X52.here hx rfl (hb hby own_d3_228) rfl rfl kt) ?_
          show own_R p.tables e below P (T52.setTop (mkF m 229 #[.val (.ref a1), .val (.long t), .second, .val (.int sz)] [(.ref a1), (.ref sA)]))
          obtain ⟨T53, X53, e53, st53⟩ := getF X52 hx hZ hown (host := "") (Or.inl (hw _ (List.mem_of_getElem? (i := 27) rfl))) Via.refl e52 gF_x51 (g := (mkF m 229 #[.val (.ref a1), .val (.long t), .second, .val (.int sz)] [(.ref a1), (.ref sA)])) rfl rfl (hb hby own_d3_229)
          refine own_fwd st53 ?_
          show own_R p.tables e below P (T53.setTop (mkF m 232 #[.val (.ref a1), .val (.long t), .second, .val (.int sz)] [(.int fi), (.ref sA)]))
          refine own_fwd (fun tt kt => XS.aloadN X53.here hx rfl (hb hby own_d3_232) rfl rfl kt) ?_
          show own_R p.tables e below P (T53.setTop (mkF m 233 #[.val (.ref a1), .val (.long t), .second, .val (.int sz)] [(.ref a1), (.int fi), (.ref sA)]))
          obtain ⟨T54, X54, e54, st54⟩ := getF X53 hx hZ hown (host := "") (Or.inl (hw _ (List.mem_of_getElem? (i := 25) rfl))) Via.refl e53 gC_x51 (g := (mkF m 233 #[.val (.ref a1), .val (.long t), .second, .val (.int sz)] [(.ref a1), (.int fi), (.ref sA)])) rfl rfl (hb hby own_d3_233)
          refine own_fwd st54 ?_
          show own_R p.tables e below P (T54.setTop (mkF m 236 #[.val (.ref a1), .val (.long t), .second, .val (.int sz)] [(.int ct), (.int fi), (.ref sA)]))
          refine own_fwd (fun tt kt => XS.iadd X54.here hx rfl (hb hby own_d3_236) rfl kt) ?_
          show own_R p.tables e below P (T54.setTop (mkF m 237 #[.val (.ref a1), .val (.long t), .second, .val (.int sz)] [(.int (fi + ct)), (.ref sA)]))
          refine own_fwd (fun tt kt => XS.iloadN X54.here hx rfl (hb hby own_d3_237) rfl kt) ?_
          show own_R p.tables e below P (T54.setTop (mkF m 238 #[.val (.ref a1), .val (.long t), .second, .val (.int sz)] [(.int sz), (.int (fi + ct)), (.ref sA)]))
          obtain ⟨T55, h55, X55, e55, W55, A55_, st55⟩ := own_stI X54 hx hZ e54 gI_x51 (j := (fi + ct)) (F + (K + 1)) (own_add dF dK (by omega)) (by omega) (g := (mkF m 238 #[.val (.ref a1), .val (.long t), .second, .val (.int sz)] [(.int sz), (.int (fi + ct)), (.ref sA)])) rfl rfl (hb hby own_d3_238)
          have gE_x55 := gE_x51.wr W55
          have gT_x55 := gT_x51.other W55 (Or.inl n2)
          have gS_x55 := gS_x51.other W55 (Or.inl n2)
          have gP_x55 := gP_x51.other W55 (Or.inl n2)
          have gB_x55 := gB_x51.other W55 (Or.inl n2)
          have gF_x55 := gF_x51.other W55 (Or.inl n2)
          have gC_x55 := gC_x51.other W55 (Or.inl n2)
          have A51__x55 := A51_.other W55 n3
          have N55 := Fr.snoc X55 N51 pgs
          have Z55 : n0 ≤ h55.size := by rw [W55.size]; exact Z51
          have K55 := K51.wr W55 (Or.inl (List.mem_of_getElem? (i := 2) rfl))
          have Y55 : h0.size ≤ h55.size := by rw [W55.size]; exact Y51
          refine own_fwd st55 ?_
          show own_R p.tables e below P (T55.setTop (mkF m 239 #[.val (.ref a1), .val (.long t), .second, .val (.int sz)] []))
          refine own_fwd (fun tt kt => XS.aloadN X55.here hx rfl (hb hby own_d3_239) rfl rfl kt) ?_
          show own_R p.tables e below P (T55.setTop (mkF m 240 #[.val (.ref a1), .val (.long t), .second, .val (.int sz)] [(.ref a1)]))
          refine own_fwd (fun tt kt => XS.dup X55.here hx rfl (hb hby own_d3_240) rfl rfl kt) ?_
          show own_R p.tables e below P (T55.setTop (mkF m 241 #[.val (.ref a1), .val (.long t), .second, .val (.int sz)] [(.ref a1), (.ref a1)]))
          obtain ⟨T56, X56, e56, st56⟩ := getF X55 hx hZ hown (host := "") (Or.inl (hw _ (List.mem_of_getElem? (i := 25) rfl))) Via.refl e55 gC_x55 (g := (mkF m 241 #[.val (.ref a1), .val (.long t), .second, .val (.int sz)] [(.ref a1), (.ref a1)])) rfl rfl (hb hby own_d3_241)
          refine own_fwd st56 ?_
          show own_R p.tables e below P (T56.setTop (mkF m 244 #[.val (.ref a1), .val (.long t), .second, .val (.int sz)] [(.int ct), (.ref a1)]))
          refine own_fwd (fun tt kt => XS.iconst X56.here hx rfl (hb hby own_d3_244) kt) ?_
          show own_R p.tables e below P (T56.setTop (mkF m 245 #[.val (.ref a1), .val (.long t), .second, .val (.int sz)] [(.int (1 : Int32)), (.int ct), (.ref a1)]))
          refine own_fwd (fun tt kt => XS.iadd X56.here hx rfl (hb hby own_d3_245) rfl kt) ?_
          show own_R p.tables e below P (T56.setTop (mkF m 246 #[.val (.ref a1), .val (.long t), .second, .val (.int sz)] [(.int (ct + (1 : Int32))), (.ref a1)]))
          obtain ⟨T57, h57, X57, e57, W57, st57⟩ := putF X56 hx hZ hown (host := "") (Or.inl (hw _ (List.mem_of_getElem? (i := 25) rfl))) Via.refl e56 gC_x55 gE_x55 (Or.inl (hw _ (List.mem_of_getElem? (i := 26) rfl))) (hw _ (List.mem_of_getElem? (i := 2) rfl)) (ty := .int) (by decide) rfl rfl (g := (mkF m 246 #[.val (.ref a1), .val (.long t), .second, .val (.int sz)] [(.int (ct + (1 : Int32))), (.ref a1)])) rfl rfl (hb hby own_d3_246)
          have F57_ := gC_x55.same W57
          have gE_x57 := gE_x55.wr W57
          have gT_x57 := gT_x55.other W57 (Or.inr (slot_ne (Or.inl (hw _ (List.mem_of_getElem? (i := 12) rfl))) (Or.inl (hw _ (List.mem_of_getElem? (i := 26) rfl))) (by decide) (t := (.array .long)) (t' := .int) (by decide) (by decide)))
          have gS_x57 := gS_x55.other W57 (Or.inr (slot_ne (Or.inl (hw _ (List.mem_of_getElem? (i := 15) rfl))) (Or.inl (hw _ (List.mem_of_getElem? (i := 26) rfl))) (by decide) (t := (.array .int)) (t' := .int) (by decide) (by decide)))
          have gP_x57 := gP_x55.other W57 (Or.inr (slot_ne (Or.inr (hw _ (List.mem_of_getElem? (i := 17) rfl))) (Or.inl (hw _ (List.mem_of_getElem? (i := 26) rfl))) (by decide) (t := .long) (t' := .int) (by decide) (by decide)))
          have gB_x57 := gB_x55.other W57 (Or.inr (slot_ne (Or.inl (hw _ (List.mem_of_getElem? (i := 19) rfl))) (Or.inl (hw _ (List.mem_of_getElem? (i := 26) rfl))) (by decide) (t := .int) (t' := .int) (by decide) (by decide)))
          have gF_x57 := gF_x55.other W57 (Or.inr (slot_ne (Or.inl (hw _ (List.mem_of_getElem? (i := 28) rfl))) (Or.inl (hw _ (List.mem_of_getElem? (i := 26) rfl))) (by decide) (t := .int) (t' := .int) (by decide) (by decide)))
          have A51__x57 := A51__x55.other W57 (Ne.symm n1)
          have A55__x57 := A55_.other W57 (Ne.symm n2)
          have N57 := Fr.snoc X57 N55 pg
          have Z57 : n0 ≤ h57.size := by rw [W57.size]; exact Z55
          have K57 := K55.wr W57 (Or.inl (List.mem_of_getElem? (i := 0) rfl))
          have Y57 : h0.size ≤ h57.size := by rw [W57.size]; exact Y55
          refine own_fwd st57 ?_
          show own_R p.tables e below P (T57.setTop (mkF m 249 #[.val (.ref a1), .val (.long t), .second, .val (.int sz)] []))
          obtain ⟨fs58, hr58, hrun58, hended58, hW58, hsame58⟩ := X57.leave (v := none) (fun _ => rfl)
          refine ⟨_, _, X57.returnOut hx Bd.returns (hb hby own_d3_249) hr58, fin _ _ ⟨hrun58, hended58, _, _, rfl, ?_, ⟨_, rfl⟩, hW58, hsame58.mono (by decide) (by decide)⟩⟩
          show own_Q3 Z a1 tA sA t sp sz bf0 fi0 ct0 ft fs F0 K0 h0 n0 _ T57.heap _
          rw [e57]
          exact ⟨rfl, N57, K57, F, (K + 1) + 1, fi, (ct + (1 : Int32)), bf, _, _, A51__x57, A55__x57, dF, own_add dK own_i1 (by omega), by omega, own_asc_up (own_asc_sub d1 d2 pAsc) (fun j a b => hlt j (by omega) (by omega)), fun j a b => by
            by_cases c : j = F + (K + 1)
            · rw [c, own_upd_hit]; exact Int.le_refl _
            · rw [own_upd_miss _ _ c]; exact Int.le_of_lt (hlt j (by omega) (by omega)), own_add_yes d1 d2 d3 d4 hlt, gE_x57, gT_x57, gS_x57, gP_x57, gB_x57, gF_x57, F57_⟩
      · refine own_fwd (fun tt kt => XS.ifNo X35.here hx rfl (hb hby own_d3_23) rfl ((if0 _ _).trans (flt hc36).2.2.1) kt) ?_
        show own_R p.tables e below P (T35.setTop (mkF m 26 #[.val (.ref a1), .val (.long t), .second, .val (.int sz)] []))
        refine own_fwd (fun tt kt => XS.aloadN X35.here hx rfl (hb hby own_d3_26) rfl rfl kt) ?_
        show own_R p.tables e below P (T35.setTop (mkF m 27 #[.val (.ref a1), .val (.long t), .second, .val (.int sz)] [(.ref a1)]))
        refine own_fwd (fun tt kt => XS.aloadN X35.here hx rfl (hb hby own_d3_27) rfl rfl kt) ?_
        show own_R p.tables e below P (T35.setTop (mkF m 28 #[.val (.ref a1), .val (.long t), .second, .val (.int sz)] [(.ref a1), (.ref a1)]))
        obtain ⟨T59, X59, e59, st59⟩ := getF X35 hx hZ hown (host := "") (Or.inl (hw _ (List.mem_of_getElem? (i := 14) rfl))) Via.refl e35 gS (g := (mkF m 28 #[.val (.ref a1), .val (.long t), .second, .val (.int sz)] [(.ref a1), (.ref a1)])) rfl rfl (hb hby own_d3_28)
        refine own_fwd st59 ?_
        show own_R p.tables e below P (T59.setTop (mkF m 31 #[.val (.ref a1), .val (.long t), .second, .val (.int sz)] [(.ref sA), (.ref a1)]))
        refine own_fwd (fun tt kt => XS.aloadN X59.here hx rfl (hb hby own_d3_31) rfl rfl kt) ?_
        show own_R p.tables e below P (T59.setTop (mkF m 32 #[.val (.ref a1), .val (.long t), .second, .val (.int sz)] [(.ref a1), (.ref sA), (.ref a1)]))
        obtain ⟨T60, X60, e60, st60⟩ := getF X59 hx hZ hown (host := "") (Or.inl (hw _ (List.mem_of_getElem? (i := 27) rfl))) Via.refl e59 gF (g := (mkF m 32 #[.val (.ref a1), .val (.long t), .second, .val (.int sz)] [(.ref a1), (.ref sA), (.ref a1)])) rfl rfl (hb hby own_d3_32)
        refine own_fwd st60 ?_
        show own_R p.tables e below P (T60.setTop (mkF m 35 #[.val (.ref a1), .val (.long t), .second, .val (.int sz)] [(.int fi), (.ref sA), (.ref a1)]))
        refine own_fwd (own_ldI X60 hx hZ e60 gI (j := fi) F dF (by omega) (g := (mkF m 35 #[.val (.ref a1), .val (.long t), .second, .val (.int sz)] [(.int fi), (.ref sA), (.ref a1)])) rfl rfl (hb hby own_d3_35)) ?_
        show own_R p.tables e below P (T60.setTop (mkF m 36 #[.val (.ref a1), .val (.long t), .second, .val (.int sz)] [(.int (fs F)), (.ref a1)]))
        obtain ⟨T61, h61, X61, e61, W61, st61⟩ := putF X60 hx hZ hown (host := "") (Or.inl (hw _ (List.mem_of_getElem? (i := 18) rfl))) Via.refl e60 gB gE (Or.inl (hw _ (List.mem_of_getElem? (i := 19) rfl))) (hw _ (List.mem_of_getElem? (i := 2) rfl)) (ty := .int) (by decide) rfl rfl (g := (mkF m 36 #[.val (.ref a1), .val (.long t), .second, .val (.int sz)] [(.int (fs F)), (.ref a1)])) rfl rfl (hb hby own_d3_36)
        have F61_ := gB.same W61
        have gE_x61 := gE.wr W61
        have gT_x61 := gT.other W61 (Or.inr (slot_ne (Or.inl (hw _ (List.mem_of_getElem? (i := 12) rfl))) (Or.inl (hw _ (List.mem_of_getElem? (i := 19) rfl))) (by decide) (t := (.array .long)) (t' := .int) (by decide) (by decide)))
        have gS_x61 := gS.other W61 (Or.inr (slot_ne (Or.inl (hw _ (List.mem_of_getElem? (i := 15) rfl))) (Or.inl (hw _ (List.mem_of_getElem? (i := 19) rfl))) (by decide) (t := (.array .int)) (t' := .int) (by decide) (by decide)))
        have gP_x61 := gP.other W61 (Or.inr (slot_ne (Or.inr (hw _ (List.mem_of_getElem? (i := 17) rfl))) (Or.inl (hw _ (List.mem_of_getElem? (i := 19) rfl))) (by decide) (t := .long) (t' := .int) (by decide) (by decide)))
        have gF_x61 := gF.other W61 (Or.inr (slot_ne (Or.inl (hw _ (List.mem_of_getElem? (i := 28) rfl))) (Or.inl (hw _ (List.mem_of_getElem? (i := 19) rfl))) (by decide) (t := .int) (t' := .int) (by decide) (by decide)))
        have gC_x61 := gC.other W61 (Or.inr (slot_ne (Or.inl (hw _ (List.mem_of_getElem? (i := 26) rfl))) (Or.inl (hw _ (List.mem_of_getElem? (i := 19) rfl))) (by decide) (t := .int) (t' := .int) (by decide) (by decide)))
        have gA_x61 := gA.other W61 (Ne.symm n1)
        have gI_x61 := gI.other W61 (Ne.symm n2)
        have N61 := Fr.snoc X61 N pg
        have Z61 : n0 ≤ h61.size := by rw [W61.size]; exact Zs
        have K61 := Kp.wr W61 (Or.inl (List.mem_of_getElem? (i := 0) rfl))
        have Y61 : h0.size ≤ h61.size := by rw [W61.size]; exact Y
        refine own_fwd st61 ?_
        show own_R p.tables e below P (T61.setTop (mkF m 39 #[.val (.ref a1), .val (.long t), .second, .val (.int sz)] []))
        refine own_fwd (fun tt kt => XS.aloadN X61.here hx rfl (hb hby own_d3_39) rfl rfl kt) ?_
        show own_R p.tables e below P (T61.setTop (mkF m 40 #[.val (.ref a1), .val (.long t), .second, .val (.int sz)] [(.ref a1)]))
        refine own_fwd (fun tt kt => XS.dup X61.here hx rfl (hb hby own_d3_40) rfl rfl kt) ?_
        show own_R p.tables e below P (T61.setTop (mkF m 41 #[.val (.ref a1), .val (.long t), .second, .val (.int sz)] [(.ref a1), (.ref a1)]))
        obtain ⟨T62, X62, e62, st62⟩ := getF X61 hx hZ hown (host := "") (Or.inl (hw _ (List.mem_of_getElem? (i := 27) rfl))) Via.refl e61 gF_x61 (g := (mkF m 41 #[.val (.ref a1), .val (.long t), .second, .val (.int sz)] [(.ref a1), (.ref a1)])) rfl rfl (hb hby own_d3_41)
        refine own_fwd st62 ?_
        show own_R p.tables e below P (T62.setTop (mkF m 44 #[.val (.ref a1), .val (.long t), .second, .val (.int sz)] [(.int fi), (.ref a1)]))
        refine own_fwd (fun tt kt => XS.iconst X62.here hx rfl (hb hby own_d3_44) kt) ?_
        show own_R p.tables e below P (T62.setTop (mkF m 45 #[.val (.ref a1), .val (.long t), .second, .val (.int sz)] [(.int (1 : Int32)), (.int fi), (.ref a1)]))
        refine own_fwd (fun tt kt => XS.iadd X62.here hx rfl (hb hby own_d3_45) rfl kt) ?_
        show own_R p.tables e below P (T62.setTop (mkF m 46 #[.val (.ref a1), .val (.long t), .second, .val (.int sz)] [(.int (fi + (1 : Int32))), (.ref a1)]))
        obtain ⟨T63, h63, X63, e63, W63, st63⟩ := putF X62 hx hZ hown (host := "") (Or.inl (hw _ (List.mem_of_getElem? (i := 27) rfl))) Via.refl e62 gF_x61 gE_x61 (Or.inl (hw _ (List.mem_of_getElem? (i := 28) rfl))) (hw _ (List.mem_of_getElem? (i := 2) rfl)) (ty := .int) (by decide) rfl rfl (g := (mkF m 46 #[.val (.ref a1), .val (.long t), .second, .val (.int sz)] [(.int (fi + (1 : Int32))), (.ref a1)])) rfl rfl (hb hby own_d3_46)
        have F63_ := gF_x61.same W63
        have gE_x63 := gE_x61.wr W63
        have gT_x63 := gT_x61.other W63 (Or.inr (slot_ne (Or.inl (hw _ (List.mem_of_getElem? (i := 12) rfl))) (Or.inl (hw _ (List.mem_of_getElem? (i := 28) rfl))) (by decide) (t := (.array .long)) (t' := .int) (by decide) (by decide)))
        have gS_x63 := gS_x61.other W63 (Or.inr (slot_ne (Or.inl (hw _ (List.mem_of_getElem? (i := 15) rfl))) (Or.inl (hw _ (List.mem_of_getElem? (i := 28) rfl))) (by decide) (t := (.array .int)) (t' := .int) (by decide) (by decide)))
        have gP_x63 := gP_x61.other W63 (Or.inr (slot_ne (Or.inr (hw _ (List.mem_of_getElem? (i := 17) rfl))) (Or.inl (hw _ (List.mem_of_getElem? (i := 28) rfl))) (by decide) (t := .long) (t' := .int) (by decide) (by decide)))
        have F61__x63 := F61_.other W63 (Or.inr (slot_ne (Or.inl (hw _ (List.mem_of_getElem? (i := 19) rfl))) (Or.inl (hw _ (List.mem_of_getElem? (i := 28) rfl))) (by decide) (t := .int) (t' := .int) (by decide) (by decide)))
        have gC_x63 := gC_x61.other W63 (Or.inr (slot_ne (Or.inl (hw _ (List.mem_of_getElem? (i := 26) rfl))) (Or.inl (hw _ (List.mem_of_getElem? (i := 28) rfl))) (by decide) (t := .int) (t' := .int) (by decide) (by decide)))
        have gA_x63 := gA_x61.other W63 (Ne.symm n1)
        have gI_x63 := gI_x61.other W63 (Ne.symm n2)
        have N63 := Fr.snoc X63 N61 pg
        have Z63 : n0 ≤ h63.size := by rw [W63.size]; exact Z61
        have K63 := K61.wr W63 (Or.inl (List.mem_of_getElem? (i := 0) rfl))
        have Y63 : h0.size ≤ h63.size := by rw [W63.size]; exact Y61
        refine own_fwd st63 ?_
        show own_R p.tables e below P (T63.setTop (mkF m 49 #[.val (.ref a1), .val (.long t), .second, .val (.int sz)] []))
        refine own_fwd (fun tt kt => XS.aloadN X63.here hx rfl (hb hby own_d3_49) rfl rfl kt) ?_
        show own_R p.tables e below P (T63.setTop (mkF m 50 #[.val (.ref a1), .val (.long t), .second, .val (.int sz)] [(.ref a1)]))
        refine own_fwd (fun tt kt => XS.dup X63.here hx rfl (hb hby own_d3_50) rfl rfl kt) ?_
        show own_R p.tables e below P (T63.setTop (mkF m 51 #[.val (.ref a1), .val (.long t), .second, .val (.int sz)] [(.ref a1), (.ref a1)]))
        obtain ⟨T64, X64, e64, st64⟩ := getF X63 hx hZ hown (host := "") (Or.inl (hw _ (List.mem_of_getElem? (i := 25) rfl))) Via.refl e63 gC_x63 (g := (mkF m 51 #[.val (.ref a1), .val (.long t), .second, .val (.int sz)] [(.ref a1), (.ref a1)])) rfl rfl (hb hby own_d3_51)
        refine own_fwd st64 ?_
        show own_R p.tables e below P (T64.setTop (mkF m 54 #[.val (.ref a1), .val (.long t), .second, .val (.int sz)] [(.int ct), (.ref a1)]))
        refine own_fwd (fun tt kt => XS.iconst X64.here hx rfl (hb hby own_d3_54) kt) ?_
        show own_R p.tables e below P (T64.setTop (mkF m 55 #[.val (.ref a1), .val (.long t), .second, .val (.int sz)] [(.int (1 : Int32)), (.int ct), (.ref a1)]))
        refine own_fwd (fun tt kt => XS.isub X64.here hx rfl (hb hby own_d3_55) rfl kt) ?_
        show own_R p.tables e below P (T64.setTop (mkF m 56 #[.val (.ref a1), .val (.long t), .second, .val (.int sz)] [(.int (ct - (1 : Int32))), (.ref a1)]))
        obtain ⟨T65, h65, X65, e65, W65, st65⟩ := putF X64 hx hZ hown (host := "") (Or.inl (hw _ (List.mem_of_getElem? (i := 25) rfl))) Via.refl e64 gC_x63 gE_x63 (Or.inl (hw _ (List.mem_of_getElem? (i := 26) rfl))) (hw _ (List.mem_of_getElem? (i := 2) rfl)) (ty := .int) (by decide) rfl rfl (g := (mkF m 56 #[.val (.ref a1), .val (.long t), .second, .val (.int sz)] [(.int (ct - (1 : Int32))), (.ref a1)])) rfl rfl (hb hby own_d3_56)
        have F65_ := gC_x63.same W65
        have gE_x65 := gE_x63.wr W65
        have gT_x65 := gT_x63.other W65 (Or.inr (slot_ne (Or.inl (hw _ (List.mem_of_getElem? (i := 12) rfl))) (Or.inl (hw _ (List.mem_of_getElem? (i := 26) rfl))) (by decide) (t := (.array .long)) (t' := .int) (by decide) (by decide)))
        have gS_x65 := gS_x63.other W65 (Or.inr (slot_ne (Or.inl (hw _ (List.mem_of_getElem? (i := 15) rfl))) (Or.inl (hw _ (List.mem_of_getElem? (i := 26) rfl))) (by decide) (t := (.array .int)) (t' := .int) (by decide) (by decide)))
        have gP_x65 := gP_x63.other W65 (Or.inr (slot_ne (Or.inr (hw _ (List.mem_of_getElem? (i := 17) rfl))) (Or.inl (hw _ (List.mem_of_getElem? (i := 26) rfl))) (by decide) (t := .long) (t' := .int) (by decide) (by decide)))
        have F61__x65 := F61__x63.other W65 (Or.inr (slot_ne (Or.inl (hw _ (List.mem_of_getElem? (i := 19) rfl))) (Or.inl (hw _ (List.mem_of_getElem? (i := 26) rfl))) (by decide) (t := .int) (t' := .int) (by decide) (by decide)))
        have F63__x65 := F63_.other W65 (Or.inr (slot_ne (Or.inl (hw _ (List.mem_of_getElem? (i := 28) rfl))) (Or.inl (hw _ (List.mem_of_getElem? (i := 26) rfl))) (by decide) (t := .int) (t' := .int) (by decide) (by decide)))
        have gA_x65 := gA_x63.other W65 (Ne.symm n1)
        have gI_x65 := gI_x63.other W65 (Ne.symm n2)
        have N65 := Fr.snoc X65 N63 pg
        have Z65 : n0 ≤ h65.size := by rw [W65.size]; exact Z63
        have K65 := K63.wr W65 (Or.inl (List.mem_of_getElem? (i := 0) rfl))
        have Y65 : h0.size ≤ h65.size := by rw [W65.size]; exact Y63
        refine own_fwd st65 ?_
        show own_R p.tables e below P (T65.setTop (mkF m 59 #[.val (.ref a1), .val (.long t), .second, .val (.int sz)] []))
        refine own_fwd (fun tt kt => XS.goto X65.here hx rfl (pc0 := 59) (pc' := 0) rfl (hb hby own_d3_59) (by decide) (by decide) kt) ?_
        show own_R p.tables e below P (T65.setTop (mkF m 0 #[.val (.ref a1), .val (.long t), .second, .val (.int sz)] []))
        exact ih (F + 1) _ _ _ _ _ _ X65 e65 N65 Z65 Y65 K65 gE_x65 gT_x65 gS_x65 gP_x65 F61__x65 F63__x65 F65_ gA_x65 gI_x65 (own_add dF own_i1 (by omega)) (own_pred dK) (by omega) (by omega) (fun j a b => by
          by_cases c : j < F
          · exact d3 j a c
          · obtain rfl : j = F := by omega
            have q := hc36
            rw [lw_gt, Int64.lt_iff_toInt_lt, hsub] at q
            omega) (by rw [if_neg (by omega)]; rfl)
  exact loop K0 F0 fi0 ct0 bf0 s₁ h0 [] X0 e0 N0 Z0 (Nat.le_refl _) (Keep.refl _ _) pE pF0 pF1 pF2 pF3 pF4 pF5 pT pS hF hKc (Nat.le_refl _) rfl (fun j a b => absurd a (by omega)) (by rw [if_pos rfl])
theorem own_d4_0 : decode prog_88_method_2_code 0 = .ok (.aload_n 0, 1) := by decide +kernel
theorem own_d4_1 : decode prog_88_method_2_code 1 = .ok (.getfield 25, 3) := by decide +kernel
theorem own_d4_4 : decode prog_88_method_2_code 4 = .ok (.istore_n 3, 1) := by decide +kernel
theorem own_d4_5 : decode prog_88_method_2_code 5 = .ok (.aload_n 0, 1) := by decide +kernel
theorem own_d4_6 : decode prog_88_method_2_code 6 = .ok (.getfield 25, 3) := by decide +kernel
theorem own_d4_9 : decode prog_88_method_2_code 9 = .ok (.aload_n 0, 1) := by decide +kernel
theorem own_d4_10 : decode prog_88_method_2_code 10 = .ok (.getfield 28, 3) := by decide +kernel
theorem own_d4_13 : decode prog_88_method_2_code 13 = .ok (.iadd, 1) := by decide +kernel
theorem own_d4_14 : decode prog_88_method_2_code 14 = .ok (.istore 4, 2) := by decide +kernel
theorem own_d4_16 : decode prog_88_method_2_code 16 = .ok (.iload_n 3, 1) := by decide +kernel
theorem own_d4_17 : decode prog_88_method_2_code 17 = .ok (.iload 4, 2) := by decide +kernel
theorem own_d4_19 : decode prog_88_method_2_code 19 = .ok (.if_icmp .ge 38, 3) := by decide +kernel
theorem own_d4_22 : decode prog_88_method_2_code 22 = .ok (.iload_n 3, 1) := by decide +kernel
theorem own_d4_23 : decode prog_88_method_2_code 23 = .ok (.iload 4, 2) := by decide +kernel
theorem own_d4_25 : decode prog_88_method_2_code 25 = .ok (.iadd, 1) := by decide +kernel
theorem own_d4_26 : decode prog_88_method_2_code 26 = .ok (.iconst 1, 1) := by decide +kernel
theorem own_d4_27 : decode prog_88_method_2_code 27 = .ok (.iushr, 1) := by decide +kernel
theorem own_d4_28 : decode prog_88_method_2_code 28 = .ok (.istore 5, 2) := by decide +kernel
theorem own_d4_30 : decode prog_88_method_2_code 30 = .ok (.aload_n 0, 1) := by decide +kernel
theorem own_d4_31 : decode prog_88_method_2_code 31 = .ok (.getfield 9, 3) := by decide +kernel
theorem own_d4_34 : decode prog_88_method_2_code 34 = .ok (.iload 5, 2) := by decide +kernel
theorem own_d4_36 : decode prog_88_method_2_code 36 = .ok (.laload, 1) := by decide +kernel
theorem own_d4_37 : decode prog_88_method_2_code 37 = .ok (.lload_n 1, 1) := by decide +kernel
theorem own_d4_38 : decode prog_88_method_2_code 38 = .ok (.lcmp, 1) := by decide +kernel
theorem own_d4_39 : decode prog_88_method_2_code 39 = .ok (.ifCond .gt 11, 3) := by decide +kernel
theorem own_d4_42 : decode prog_88_method_2_code 42 = .ok (.iload 5, 2) := by decide +kernel
theorem own_d4_44 : decode prog_88_method_2_code 44 = .ok (.iconst 1, 1) := by decide +kernel
theorem own_d4_45 : decode prog_88_method_2_code 45 = .ok (.iadd, 1) := by decide +kernel
theorem own_d4_46 : decode prog_88_method_2_code 46 = .ok (.istore_n 3, 1) := by decide +kernel
theorem own_d4_47 : decode prog_88_method_2_code 47 = .ok (.goto 7, 3) := by decide +kernel
theorem own_d4_50 : decode prog_88_method_2_code 50 = .ok (.iload 5, 2) := by decide +kernel
theorem own_d4_52 : decode prog_88_method_2_code 52 = .ok (.istore 4, 2) := by decide +kernel
theorem own_d4_54 : decode prog_88_method_2_code 54 = .ok (.goto (-38), 3) := by decide +kernel
theorem own_d4_57 : decode prog_88_method_2_code 57 = .ok (.iload_n 3, 1) := by decide +kernel
theorem own_d4_58 : decode prog_88_method_2_code 58 = .ok (.aload_n 0, 1) := by decide +kernel
theorem own_d4_59 : decode prog_88_method_2_code 59 = .ok (.getfield 25, 3) := by decide +kernel
theorem own_d4_62 : decode prog_88_method_2_code 62 = .ok (.if_icmp .ne 10, 3) := by decide +kernel
theorem own_d4_65 : decode prog_88_method_2_code 65 = .ok (.aload_n 0, 1) := by decide +kernel
theorem own_d4_66 : decode prog_88_method_2_code 66 = .ok (.getfield 21, 3) := by decide +kernel
theorem own_d4_69 : decode prog_88_method_2_code 69 = .ok (.goto 11, 3) := by decide +kernel
theorem own_d4_72 : decode prog_88_method_2_code 72 = .ok (.aload_n 0, 1) := by decide +kernel
theorem own_d4_73 : decode prog_88_method_2_code 73 = .ok (.getfield 13, 3) := by decide +kernel
theorem own_d4_76 : decode prog_88_method_2_code 76 = .ok (.iload_n 3, 1) := by decide +kernel
theorem own_d4_77 : decode prog_88_method_2_code 77 = .ok (.iconst 1, 1) := by decide +kernel
theorem own_d4_78 : decode prog_88_method_2_code 78 = .ok (.isub, 1) := by decide +kernel
theorem own_d4_79 : decode prog_88_method_2_code 79 = .ok (.iaload, 1) := by decide +kernel
theorem own_d4_80 : decode prog_88_method_2_code 80 = .ok (.ireturn, 1) := by decide +kernel
theorem own_ef4 (m : MethodId) (a1 : Addr) (q : Int64) : entryFrame m #[(.ref a1), (.long q)] 6 = mkF m 0 #[.val (.ref a1), .val (.long q), .second, .unset, .unset, .unset] [] := by first | (simp [entryFrame, mkF, argsToLocals, Value.category]; done) | rfl
def own_Q4 (Z : State) (a1 tA sA : Addr) (q sp : Int64) (bf0 fi0 ct0 : Int32) (ft : Nat → Int64) (fs : Nat → Int32) (F0 K0 : Nat) (h0 : Heap) (n0 : Nat) (v : Option Value) (h : Heap) (L : List Loc) : Prop := ∃ r : Int32, v = some (.int r) ∧ own_Val bf0 F0 K0 ft fs q.toInt r ∧ Fr n0 L ∧ h = h0
set_option maxRecDepth 65536 in
set_option maxHeartbeats 40000000 in
theorem own_rm4 (l : Launch) (Z : State) (a0 : Array Value) (hw : ∀ d ∈ tables_1, d.before a0 Z = true) (ws : List Jvm.Cond) (a1 tA sA : Addr) (q sp : Int64) (bf0 fi0 ct0 : Int32) (ft : Nat → Int64) (fs : Nat → Int32) (F0 K0 : Nat) (h0 : Heap) (n0 : Nat) (Z0 : n0 ≤ h0.size) (pE : Exa Z h0 a1 "com/example/ramp99/ramp99/service/policy/SizeHistory") (pF0 : Fld Z h0 a1 "com/example/ramp99/ramp99/service/policy/SizeHistory" "times" "[J" (.ref tA)) (pF1 : Fld Z h0 a1 "com/example/ramp99/ramp99/service/policy/SizeHistory" "sizes" "[I" (.ref sA)) (pF2 : Fld Z h0 a1 "com/example/ramp99/ramp99/service/policy/SizeHistory" "spanNanos" "J" (.long sp)) (pF3 : Fld Z h0 a1 "com/example/ramp99/ramp99/service/policy/SizeHistory" "before" "I" (.int bf0)) (pF4 : Fld Z h0 a1 "com/example/ramp99/ramp99/service/policy/SizeHistory" "first" "I" (.int fi0)) (pF5 : Fld Z h0 a1 "com/example/ramp99/ramp99/service/policy/SizeHistory" "count" "I" (.int ct0)) (pT : own_AJ Z h0 tA 16 ft) (pS : own_AI Z h0 sA .int 16 fs) (pg : n0 ≤ a1) (pgt : n0 ≤ tA) (pgs : n0 ≤ sA) (n1 : a1 ≠ tA) (n2 : a1 ≠ sA) (n3 : tA ≠ sA) (hF : fi0.toInt = (F0 : Int)) (hKc : ct0.toInt = (K0 : Int)) (bFK : F0 + K0 < 10) (pAsc : own_Asc F0 K0 ft) :
    MetFree l (⟨"com/example/ramp99/ramp99/service/policy/SizeHistory", "at", "(J)I"⟩ : MethodName) (head1 (Jvm.Cond.code (⟨"com/example/ramp99/ramp99/service/policy/SizeHistory", "at", "(J)I"⟩ : MethodName) prog_88_method_2_code 6 (some .int) :: ws) ({ frames := 0, cells := 0, slots := 0, locals := 0 } : Room)) (fun a U => a = #[(.ref a1), (.long q)] ∧ Z.Warmed39 U.vm ∧ U.heap = h0) (fun _ _ _ _ _ => True) (fun _ U o U' => ∃ v L, o = .returned v ∧ own_Q4 Z a1 tA sA q sp bf0 fi0 ct0 ft fs F0 K0 h0 n0 v U'.heap L ∧ FrameEnd U o U' L ({ frames := 0, cells := 0, slots := 0, locals := 0 } : Room).cells ({ frames := 0, cells := 0, slots := 0, locals := 0 } : Room).slots) := by
  refine MetFree.of_bodySF (plainFor_of_name own_pn0) hisR ?_
  intro p e s m args below meth c s₁ Bd hml0 hP hK
  obtain ⟨rfl, hZ, hh⟩ := hP
  have hx := Bd.exec
  have hby := Bd.bytes
  have hml : c.maxLocals = 6 := hml0
  have hown : s.vm.findClass "com/example/ramp99/ramp99/service/policy/SizeHistory" = some m.cls := findClass_of_methodNamed Bd.named
  have hnm := (name_of_methodNamed Bd.named Bd.method).1
  have X0 : Stand p l e ({ frames := 0, cells := 0, slots := 0, locals := 0 } : Room) s m #[(.ref a1), (.long q)] below meth c s₁ [] 0 0 := Stand.of_body Bd
  have e0 : s₁.heap = h0 := by rw [← hh, Bd.state]; rfl
  have N0 := Fr.nil n0
  refine own_nm (st := s₁.setTop (entryFrame m #[(.ref a1), (.long q)] 6)) fun P fin => ?_
  refine own_fwd (fun tt kt => castTop (own_ef4 m a1 q) kt) ?_
  show own_R p.tables e below P (s₁.setTop (mkF m 0 #[.val (.ref a1), .val (.long q), .second, .unset, .unset, .unset] []))
  have loop : ∀ (k lo hi : Nat) (zl zh : Int32) (s5 : Slot) (hs5 : One s5) (T : State) (X : Stand p l e ({ frames := 0, cells := 0, slots := 0, locals := 0 } : Room) s m #[(.ref a1), (.long q)] below meth c T [] 0 0) (eT : T.heap = h0), hi ≤ lo + k → lo ≤ hi → F0 ≤ lo → hi ≤ F0 + K0 → zl.toInt = (lo : Int) → zh.toInt = (hi : Int) → (∀ j, F0 ≤ j → j < lo → (ft j).toInt ≤ q.toInt) → (∀ j, hi ≤ j → j < F0 + K0 → q.toInt < (ft j).toInt) → own_R p.tables e below P (T.setTop (mkF m 16 #[.val (.ref a1), .val (.long q), .second, .val (.int zl), .val (.int zh), s5] [])) := by
    intro k
    induction k with
    | zero =>
      intro lo hi zl zh s5 hs5 T X eT b1 b2 b3 b4 hl hh c1 c2
      refine own_fwd (fun tt kt => XS.iloadN X.here hx rfl (hb hby own_d4_16) rfl kt) ?_
      show own_R p.tables e below P (T.setTop (mkF m 17 #[.val (.ref a1), .val (.long q), .second, .val (.int zl), .val (.int zh), s5] [(.int zl)]))
      refine own_fwd (fun tt kt => XS.iload X.here hx rfl (hb hby own_d4_17) rfl kt) ?_
      show own_R p.tables e below P (T.setTop (mkF m 19 #[.val (.ref a1), .val (.long q), .second, .val (.int zl), .val (.int zh), s5] [(.int zh), (.int zl)]))
      by_cases hc66 : zl < zh
      · refine own_fwd (fun tt kt => XS.icmpNo X.here hx rfl (hb hby own_d4_19) rfl (tlt hc66).2.1 kt) ?_
        show own_R p.tables e below P (T.setTop (mkF m 22 #[.val (.ref a1), .val (.long q), .second, .val (.int zl), .val (.int zh), s5] []))
        exfalso; have q' := hc66; rw [Int32.lt_iff_toInt_lt] at q'; omega
      · refine own_fwd (fun tt kt => XS.icmpYes X.here hx rfl (pc0 := 19) (pc' := 57) rfl (hb hby own_d4_19) rfl (flt hc66).2.1 (by decide) (by decide) kt) ?_
        show own_R p.tables e below P (T.setTop (mkF m 57 #[.val (.ref a1), .val (.long q), .second, .val (.int zl), .val (.int zh), s5] []))
        have el : hi = lo := by have q' := hc66; rw [Int32.lt_iff_toInt_lt] at q'; omega
        refine own_fwd (fun tt kt => XS.iloadN X.here hx rfl (hb hby own_d4_57) rfl kt) ?_
        show own_R p.tables e below P (T.setTop (mkF m 58 #[.val (.ref a1), .val (.long q), .second, .val (.int zl), .val (.int zh), s5] [(.int zl)]))
        refine own_fwd (fun tt kt => XS.aloadN X.here hx rfl (hb hby own_d4_58) rfl rfl kt) ?_
        show own_R p.tables e below P (T.setTop (mkF m 59 #[.val (.ref a1), .val (.long q), .second, .val (.int zl), .val (.int zh), s5] [(.ref a1), (.int zl)]))
        obtain ⟨T67, X67, e67, st67⟩ := getF X hx hZ hown (host := "") (Or.inl (hw _ (List.mem_of_getElem? (i := 27) rfl))) Via.refl eT pF4 (g := (mkF m 59 #[.val (.ref a1), .val (.long q), .second, .val (.int zl), .val (.int zh), s5] [(.ref a1), (.int zl)])) rfl rfl (hb hby own_d4_59)
        refine own_fwd st67 ?_
        show own_R p.tables e below P (T67.setTop (mkF m 62 #[.val (.ref a1), .val (.long q), .second, .val (.int zl), .val (.int zh), s5] [(.int fi0), (.int zl)]))
        by_cases hc68 : zl = fi0
        · refine own_fwd (fun tt kt => XS.icmpNo X67.here hx rfl (hb hby own_d4_62) rfl (teq hc68).2 kt) ?_
          show own_R p.tables e below P (T67.setTop (mkF m 65 #[.val (.ref a1), .val (.long q), .second, .val (.int zl), .val (.int zh), s5] []))
          refine own_fwd (fun tt kt => XS.aloadN X67.here hx rfl (hb hby own_d4_65) rfl rfl kt) ?_
          show own_R p.tables e below P (T67.setTop (mkF m 66 #[.val (.ref a1), .val (.long q), .second, .val (.int zl), .val (.int zh), s5] [(.ref a1)]))
          obtain ⟨T69, X69, e69, st69⟩ := getF X67 hx hZ hown (host := "") (Or.inl (hw _ (List.mem_of_getElem? (i := 18) rfl))) Via.refl e67 pF3 (g := (mkF m 66 #[.val (.ref a1), .val (.long q), .second, .val (.int zl), .val (.int zh), s5] [(.ref a1)])) rfl rfl (hb hby own_d4_66)
          refine own_fwd st69 ?_
          show own_R p.tables e below P (T69.setTop (mkF m 69 #[.val (.ref a1), .val (.long q), .second, .val (.int zl), .val (.int zh), s5] [(.int bf0)]))
          refine own_fwd (fun tt kt => XS.goto X69.here hx rfl (pc0 := 69) (pc' := 80) rfl (hb hby own_d4_69) (by decide) (by decide) kt) ?_
          show own_R p.tables e below P (T69.setTop (mkF m 80 #[.val (.ref a1), .val (.long q), .second, .val (.int zl), .val (.int zh), s5] [(.int bf0)]))
          obtain ⟨fs70, hr70, hrun70, hended70, hW70, hsame70⟩ := X69.leave (v := some (.int bf0)) (fun h => by rw [Bd.returns] at h; cases h)
          refine ⟨_, _, X69.ireturnOut hx (w := bf0) Bd.returns rfl (by simp) (hb hby own_d4_80) hr70, fin _ _ ⟨hrun70, hended70, _, _, rfl, ?_, ⟨_, rfl⟩, hW70, hsame70.mono (by decide) (by decide)⟩⟩
          show own_Q4 Z a1 tA sA q sp bf0 fi0 ct0 ft fs F0 K0 h0 n0 _ T69.heap _
          rw [e69]
          exact ⟨bf0, rfl, ⟨lo, b3, by omega, c1, fun j a b => c2 j (by omega) b, by rw [if_pos (by have q' := hc68; rw [← Int32.toInt_inj, hl, hF] at q'; omega)]⟩, N0, rfl⟩
        · refine own_fwd (fun tt kt => XS.icmpYes X67.here hx rfl (pc0 := 62) (pc' := 72) rfl (hb hby own_d4_62) rfl (feq hc68).2 (by decide) (by decide) kt) ?_
          show own_R p.tables e below P (T67.setTop (mkF m 72 #[.val (.ref a1), .val (.long q), .second, .val (.int zl), .val (.int zh), s5] []))
          refine own_fwd (fun tt kt => XS.aloadN X67.here hx rfl (hb hby own_d4_72) rfl rfl kt) ?_
          show own_R p.tables e below P (T67.setTop (mkF m 73 #[.val (.ref a1), .val (.long q), .second, .val (.int zl), .val (.int zh), s5] [(.ref a1)]))
          obtain ⟨T71, X71, e71, st71⟩ := getF X67 hx hZ hown (host := "") (Or.inl (hw _ (List.mem_of_getElem? (i := 14) rfl))) Via.refl e67 pF1 (g := (mkF m 73 #[.val (.ref a1), .val (.long q), .second, .val (.int zl), .val (.int zh), s5] [(.ref a1)])) rfl rfl (hb hby own_d4_73)
          refine own_fwd st71 ?_
          show own_R p.tables e below P (T71.setTop (mkF m 76 #[.val (.ref a1), .val (.long q), .second, .val (.int zl), .val (.int zh), s5] [(.ref sA)]))
          refine own_fwd (fun tt kt => XS.iloadN X71.here hx rfl (hb hby own_d4_76) rfl kt) ?_
          show own_R p.tables e below P (T71.setTop (mkF m 77 #[.val (.ref a1), .val (.long q), .second, .val (.int zl), .val (.int zh), s5] [(.int zl), (.ref sA)]))
          refine own_fwd (fun tt kt => XS.iconst X71.here hx rfl (hb hby own_d4_77) kt) ?_
          show own_R p.tables e below P (T71.setTop (mkF m 78 #[.val (.ref a1), .val (.long q), .second, .val (.int zl), .val (.int zh), s5] [(.int (1 : Int32)), (.int zl), (.ref sA)]))
          refine own_fwd (fun tt kt => XS.isub X71.here hx rfl (hb hby own_d4_78) rfl kt) ?_
          show own_R p.tables e below P (T71.setTop (mkF m 79 #[.val (.ref a1), .val (.long q), .second, .val (.int zl), .val (.int zh), s5] [(.int (zl - (1 : Int32))), (.ref sA)]))
          refine own_fwd (own_ldI X71 hx hZ e71 pS (j := (zl - (1 : Int32))) (lo - 1) (by have q' := c_isub zl 1; have r' := rng32 (zl - 1); rw [own_i1] at q'; have q2 : lo ≠ F0 := fun z => hc68 (by rw [← Int32.toInt_inj, hl, hF, z]); omega) (by omega) (g := (mkF m 79 #[.val (.ref a1), .val (.long q), .second, .val (.int zl), .val (.int zh), s5] [(.int (zl - (1 : Int32))), (.ref sA)])) rfl rfl (hb hby own_d4_79)) ?_
          show own_R p.tables e below P (T71.setTop (mkF m 80 #[.val (.ref a1), .val (.long q), .second, .val (.int zl), .val (.int zh), s5] [(.int (fs (lo - 1)))]))
          obtain ⟨fs72, hr72, hrun72, hended72, hW72, hsame72⟩ := X71.leave (v := some (.int (fs (lo - 1)))) (fun h => by rw [Bd.returns] at h; cases h)
          refine ⟨_, _, X71.ireturnOut hx (w := (fs (lo - 1))) Bd.returns rfl (by simp) (hb hby own_d4_80) hr72, fin _ _ ⟨hrun72, hended72, _, _, rfl, ?_, ⟨_, rfl⟩, hW72, hsame72.mono (by decide) (by decide)⟩⟩
          show own_Q4 Z a1 tA sA q sp bf0 fi0 ct0 ft fs F0 K0 h0 n0 _ T71.heap _
          rw [e71]
          exact ⟨(fs (lo - 1)), rfl, ⟨lo, b3, by omega, c1, fun j a b => c2 j (by omega) b, by rw [if_neg (by have q' := hc68; rw [← Int32.toInt_inj, hl, hF] at q'; omega)]⟩, N0, rfl⟩
    | succ k ih =>
      intro lo hi zl zh s5 hs5 T X eT b1 b2 b3 b4 hl hh c1 c2
      refine own_fwd (fun tt kt => XS.iloadN X.here hx rfl (hb hby own_d4_16) rfl kt) ?_
      show own_R p.tables e below P (T.setTop (mkF m 17 #[.val (.ref a1), .val (.long q), .second, .val (.int zl), .val (.int zh), s5] [(.int zl)]))
      refine own_fwd (fun tt kt => XS.iload X.here hx rfl (hb hby own_d4_17) rfl kt) ?_
      show own_R p.tables e below P (T.setTop (mkF m 19 #[.val (.ref a1), .val (.long q), .second, .val (.int zl), .val (.int zh), s5] [(.int zh), (.int zl)]))
      by_cases hc73 : zl < zh
      · refine own_fwd (fun tt kt => XS.icmpNo X.here hx rfl (hb hby own_d4_19) rfl (tlt hc73).2.1 kt) ?_
        show own_R p.tables e below P (T.setTop (mkF m 22 #[.val (.ref a1), .val (.long q), .second, .val (.int zl), .val (.int zh), s5] []))
        have ll : lo < hi := by have q' := hc73; rw [Int32.lt_iff_toInt_lt] at q'; omega
        have hm := own_half (own_add hl hh (by omega))
        refine own_fwd (fun tt kt => XS.iloadN X.here hx rfl (hb hby own_d4_22) rfl kt) ?_
        show own_R p.tables e below P (T.setTop (mkF m 23 #[.val (.ref a1), .val (.long q), .second, .val (.int zl), .val (.int zh), s5] [(.int zl)]))
        refine own_fwd (fun tt kt => XS.iload X.here hx rfl (hb hby own_d4_23) rfl kt) ?_
        show own_R p.tables e below P (T.setTop (mkF m 25 #[.val (.ref a1), .val (.long q), .second, .val (.int zl), .val (.int zh), s5] [(.int zh), (.int zl)]))
        refine own_fwd (fun tt kt => XS.iadd X.here hx rfl (hb hby own_d4_25) rfl kt) ?_
        show own_R p.tables e below P (T.setTop (mkF m 26 #[.val (.ref a1), .val (.long q), .second, .val (.int zl), .val (.int zh), s5] [(.int (zl + zh))]))
        refine own_fwd (fun tt kt => XS.iconst X.here hx rfl (hb hby own_d4_26) kt) ?_
        show own_R p.tables e below P (T.setTop (mkF m 27 #[.val (.ref a1), .val (.long q), .second, .val (.int zl), .val (.int zh), s5] [(.int (1 : Int32)), (.int (zl + zh))]))
        refine own_fwd (fun tt kt => XS.iushr X.here hx rfl (hb hby own_d4_27) rfl kt) ?_
        show own_R p.tables e below P (T.setTop (mkF m 28 #[.val (.ref a1), .val (.long q), .second, .val (.int zl), .val (.int zh), s5] [(.int (((zl + zh).toUInt32 >>> ((1 : Int32) &&& 31).toUInt32).toInt32))]))
        refine own_fwd (fun tt kt => XS.istoreS X.here hx rfl (hb hby own_d4_28) rfl rfl hs5 kt) ?_
        show own_R p.tables e below P (T.setTop (mkF m 30 #[.val (.ref a1), .val (.long q), .second, .val (.int zl), .val (.int zh), .val (.int (((zl + zh).toUInt32 >>> ((1 : Int32) &&& 31).toUInt32).toInt32))] []))
        refine own_fwd (fun tt kt => XS.aloadN X.here hx rfl (hb hby own_d4_30) rfl rfl kt) ?_
        show own_R p.tables e below P (T.setTop (mkF m 31 #[.val (.ref a1), .val (.long q), .second, .val (.int zl), .val (.int zh), .val (.int (((zl + zh).toUInt32 >>> ((1 : Int32) &&& 31).toUInt32).toInt32))] [(.ref a1)]))
        obtain ⟨T74, X74, e74, st74⟩ := getF X hx hZ hown (host := "") (Or.inl (hw _ (List.mem_of_getElem? (i := 11) rfl))) Via.refl eT pF0 (g := (mkF m 31 #[.val (.ref a1), .val (.long q), .second, .val (.int zl), .val (.int zh), .val (.int (((zl + zh).toUInt32 >>> ((1 : Int32) &&& 31).toUInt32).toInt32))] [(.ref a1)])) rfl rfl (hb hby own_d4_31)
        refine own_fwd st74 ?_
        show own_R p.tables e below P (T74.setTop (mkF m 34 #[.val (.ref a1), .val (.long q), .second, .val (.int zl), .val (.int zh), .val (.int (((zl + zh).toUInt32 >>> ((1 : Int32) &&& 31).toUInt32).toInt32))] [(.ref tA)]))
        refine own_fwd (fun tt kt => XS.iload X74.here hx rfl (hb hby own_d4_34) rfl kt) ?_
        show own_R p.tables e below P (T74.setTop (mkF m 36 #[.val (.ref a1), .val (.long q), .second, .val (.int zl), .val (.int zh), .val (.int (((zl + zh).toUInt32 >>> ((1 : Int32) &&& 31).toUInt32).toInt32))] [(.int (((zl + zh).toUInt32 >>> ((1 : Int32) &&& 31).toUInt32).toInt32)), (.ref tA)]))
        refine own_fwd (own_ldJ X74 hx hZ e74 pT (j := (((zl + zh).toUInt32 >>> ((1 : Int32) &&& 31).toUInt32).toInt32)) ((lo + hi) / 2) hm (by omega) (g := (mkF m 36 #[.val (.ref a1), .val (.long q), .second, .val (.int zl), .val (.int zh), .val (.int (((zl + zh).toUInt32 >>> ((1 : Int32) &&& 31).toUInt32).toInt32))] [(.int (((zl + zh).toUInt32 >>> ((1 : Int32) &&& 31).toUInt32).toInt32)), (.ref tA)])) rfl rfl (hb hby own_d4_36)) ?_
        show own_R p.tables e below P (T74.setTop (mkF m 37 #[.val (.ref a1), .val (.long q), .second, .val (.int zl), .val (.int zh), .val (.int (((zl + zh).toUInt32 >>> ((1 : Int32) &&& 31).toUInt32).toInt32))] [(.long (ft ((lo + hi) / 2)))]))
        refine own_fwd (fun tt kt => XS.lloadN X74.here hx rfl (hb hby own_d4_37) rfl kt) ?_
        show own_R p.tables e below P (T74.setTop (mkF m 38 #[.val (.ref a1), .val (.long q), .second, .val (.int zl), .val (.int zh), .val (.int (((zl + zh).toUInt32 >>> ((1 : Int32) &&& 31).toUInt32).toInt32))] [(.long q), (.long (ft ((lo + hi) / 2)))]))
        refine own_fwd (fun tt kt => XS.lcmp X74.here hx rfl (hb hby own_d4_38) rfl kt) ?_
        show own_R p.tables e below P (T74.setTop (mkF m 39 #[.val (.ref a1), .val (.long q), .second, .val (.int zl), .val (.int zh), .val (.int (((zl + zh).toUInt32 >>> ((1 : Int32) &&& 31).toUInt32).toInt32))] [(.int (lcmpW (ft ((lo + hi) / 2)) q))]))
        by_cases hc75 : (0 : Int32) < (lcmpW (ft ((lo + hi) / 2)) q)
        · refine own_fwd (fun tt kt => XS.ifYes X74.here hx rfl (pc0 := 39) (pc' := 50) rfl (hb hby own_d4_39) rfl ((if0 _ _).trans (tlt hc75).2.2.1) (by decide) (by decide) kt) ?_
          show own_R p.tables e below P (T74.setTop (mkF m 50 #[.val (.ref a1), .val (.long q), .second, .val (.int zl), .val (.int zh), .val (.int (((zl + zh).toUInt32 >>> ((1 : Int32) &&& 31).toUInt32).toInt32))] []))
          refine own_fwd (fun tt kt => XS.iload X74.here hx rfl (hb hby own_d4_50) rfl kt) ?_
          show own_R p.tables e below P (T74.setTop (mkF m 52 #[.val (.ref a1), .val (.long q), .second, .val (.int zl), .val (.int zh), .val (.int (((zl + zh).toUInt32 >>> ((1 : Int32) &&& 31).toUInt32).toInt32))] [(.int (((zl + zh).toUInt32 >>> ((1 : Int32) &&& 31).toUInt32).toInt32))]))
          refine own_fwd (fun tt kt => XS.istore X74.here hx rfl (hb hby own_d4_52) rfl (l' := #[.val (.ref a1), .val (.long q), .second, .val (.int zl), .val (.int (((zl + zh).toUInt32 >>> ((1 : Int32) &&& 31).toUInt32).toInt32)), .val (.int (((zl + zh).toUInt32 >>> ((1 : Int32) &&& 31).toUInt32).toInt32))]) rfl kt) ?_
          show own_R p.tables e below P (T74.setTop (mkF m 54 #[.val (.ref a1), .val (.long q), .second, .val (.int zl), .val (.int (((zl + zh).toUInt32 >>> ((1 : Int32) &&& 31).toUInt32).toInt32)), .val (.int (((zl + zh).toUInt32 >>> ((1 : Int32) &&& 31).toUInt32).toInt32))] []))
          refine own_fwd (fun tt kt => XS.goto X74.here hx rfl (pc0 := 54) (pc' := 16) rfl (hb hby own_d4_54) (by decide) (by decide) kt) ?_
          show own_R p.tables e below P (T74.setTop (mkF m 16 #[.val (.ref a1), .val (.long q), .second, .val (.int zl), .val (.int (((zl + zh).toUInt32 >>> ((1 : Int32) &&& 31).toUInt32).toInt32)), .val (.int (((zl + zh).toUInt32 >>> ((1 : Int32) &&& 31).toUInt32).toInt32))] []))
          exact ih lo ((lo + hi) / 2) zl _ _ (One.val rfl) _ X74 e74 (by omega) (by omega) b3 (by omega) hl hm c1 (fun j a b => by
            have q' := hc75
            rw [lw_gt, Int64.lt_iff_toInt_lt] at q'
            rcases Nat.lt_or_ge ((lo + hi) / 2) j with g | g
            · have := pAsc ((lo + hi) / 2) j (by omega) g b; omega
            · obtain rfl : j = (lo + hi) / 2 := by omega
              exact q')
        · refine own_fwd (fun tt kt => XS.ifNo X74.here hx rfl (hb hby own_d4_39) rfl ((if0 _ _).trans (flt hc75).2.2.1) kt) ?_
          show own_R p.tables e below P (T74.setTop (mkF m 42 #[.val (.ref a1), .val (.long q), .second, .val (.int zl), .val (.int zh), .val (.int (((zl + zh).toUInt32 >>> ((1 : Int32) &&& 31).toUInt32).toInt32))] []))
          refine own_fwd (fun tt kt => XS.iload X74.here hx rfl (hb hby own_d4_42) rfl kt) ?_
          show own_R p.tables e below P (T74.setTop (mkF m 44 #[.val (.ref a1), .val (.long q), .second, .val (.int zl), .val (.int zh), .val (.int (((zl + zh).toUInt32 >>> ((1 : Int32) &&& 31).toUInt32).toInt32))] [(.int (((zl + zh).toUInt32 >>> ((1 : Int32) &&& 31).toUInt32).toInt32))]))
          refine own_fwd (fun tt kt => XS.iconst X74.here hx rfl (hb hby own_d4_44) kt) ?_
          show own_R p.tables e below P (T74.setTop (mkF m 45 #[.val (.ref a1), .val (.long q), .second, .val (.int zl), .val (.int zh), .val (.int (((zl + zh).toUInt32 >>> ((1 : Int32) &&& 31).toUInt32).toInt32))] [(.int (1 : Int32)), (.int (((zl + zh).toUInt32 >>> ((1 : Int32) &&& 31).toUInt32).toInt32))]))
          refine own_fwd (fun tt kt => XS.iadd X74.here hx rfl (hb hby own_d4_45) rfl kt) ?_
          show own_R p.tables e below P (T74.setTop (mkF m 46 #[.val (.ref a1), .val (.long q), .second, .val (.int zl), .val (.int zh), .val (.int (((zl + zh).toUInt32 >>> ((1 : Int32) &&& 31).toUInt32).toInt32))] [(.int ((((zl + zh).toUInt32 >>> ((1 : Int32) &&& 31).toUInt32).toInt32) + (1 : Int32)))]))
          refine own_fwd (fun tt kt => XS.istoreN X74.here hx rfl (hb hby own_d4_46) rfl (l' := #[.val (.ref a1), .val (.long q), .second, .val (.int ((((zl + zh).toUInt32 >>> ((1 : Int32) &&& 31).toUInt32).toInt32) + (1 : Int32))), .val (.int zh), .val (.int (((zl + zh).toUInt32 >>> ((1 : Int32) &&& 31).toUInt32).toInt32))]) rfl kt) ?_
          show own_R p.tables e below P (T74.setTop (mkF m 47 #[.val (.ref a1), .val (.long q), .second, .val (.int ((((zl + zh).toUInt32 >>> ((1 : Int32) &&& 31).toUInt32).toInt32) + (1 : Int32))), .val (.int zh), .val (.int (((zl + zh).toUInt32 >>> ((1 : Int32) &&& 31).toUInt32).toInt32))] []))
          refine own_fwd (fun tt kt => XS.goto X74.here hx rfl (pc0 := 47) (pc' := 54) rfl (hb hby own_d4_47) (by decide) (by decide) kt) ?_
          show own_R p.tables e below P (T74.setTop (mkF m 54 #[.val (.ref a1), .val (.long q), .second, .val (.int ((((zl + zh).toUInt32 >>> ((1 : Int32) &&& 31).toUInt32).toInt32) + (1 : Int32))), .val (.int zh), .val (.int (((zl + zh).toUInt32 >>> ((1 : Int32) &&& 31).toUInt32).toInt32))] []))
          refine own_fwd (fun tt kt => XS.goto X74.here hx rfl (pc0 := 54) (pc' := 16) rfl (hb hby own_d4_54) (by decide) (by decide) kt) ?_
          show own_R p.tables e below P (T74.setTop (mkF m 16 #[.val (.ref a1), .val (.long q), .second, .val (.int ((((zl + zh).toUInt32 >>> ((1 : Int32) &&& 31).toUInt32).toInt32) + (1 : Int32))), .val (.int zh), .val (.int (((zl + zh).toUInt32 >>> ((1 : Int32) &&& 31).toUInt32).toInt32))] []))
          exact ih ((lo + hi) / 2 + 1) hi _ zh _ (One.val rfl) _ X74 e74 (by omega) (by omega) (by omega) b4 (own_add hm own_i1 (by omega)) hh (fun j a b => by
            have q' : ¬ _ := fun z => hc75 ((lw_gt _ _).mpr z)
            rw [Int64.lt_iff_toInt_lt] at q'
            rcases Nat.lt_or_ge j ((lo + hi) / 2) with g | g
            · have := pAsc j ((lo + hi) / 2) a g (by omega); omega
            · obtain rfl : j = (lo + hi) / 2 := by omega
              omega) c2
      · refine own_fwd (fun tt kt => XS.icmpYes X.here hx rfl (pc0 := 19) (pc' := 57) rfl (hb hby own_d4_19) rfl (flt hc73).2.1 (by decide) (by decide) kt) ?_
        show own_R p.tables e below P (T.setTop (mkF m 57 #[.val (.ref a1), .val (.long q), .second, .val (.int zl), .val (.int zh), s5] []))
        have el : hi = lo := by have q' := hc73; rw [Int32.lt_iff_toInt_lt] at q'; omega
        refine own_fwd (fun tt kt => XS.iloadN X.here hx rfl (hb hby own_d4_57) rfl kt) ?_
        show own_R p.tables e below P (T.setTop (mkF m 58 #[.val (.ref a1), .val (.long q), .second, .val (.int zl), .val (.int zh), s5] [(.int zl)]))
        refine own_fwd (fun tt kt => XS.aloadN X.here hx rfl (hb hby own_d4_58) rfl rfl kt) ?_
        show own_R p.tables e below P (T.setTop (mkF m 59 #[.val (.ref a1), .val (.long q), .second, .val (.int zl), .val (.int zh), s5] [(.ref a1), (.int zl)]))
        obtain ⟨T76, X76, e76, st76⟩ := getF X hx hZ hown (host := "") (Or.inl (hw _ (List.mem_of_getElem? (i := 27) rfl))) Via.refl eT pF4 (g := (mkF m 59 #[.val (.ref a1), .val (.long q), .second, .val (.int zl), .val (.int zh), s5] [(.ref a1), (.int zl)])) rfl rfl (hb hby own_d4_59)
        refine own_fwd st76 ?_
        show own_R p.tables e below P (T76.setTop (mkF m 62 #[.val (.ref a1), .val (.long q), .second, .val (.int zl), .val (.int zh), s5] [(.int fi0), (.int zl)]))
        by_cases hc77 : zl = fi0
        · refine own_fwd (fun tt kt => XS.icmpNo X76.here hx rfl (hb hby own_d4_62) rfl (teq hc77).2 kt) ?_
          show own_R p.tables e below P (T76.setTop (mkF m 65 #[.val (.ref a1), .val (.long q), .second, .val (.int zl), .val (.int zh), s5] []))
          refine own_fwd (fun tt kt => XS.aloadN X76.here hx rfl (hb hby own_d4_65) rfl rfl kt) ?_
          show own_R p.tables e below P (T76.setTop (mkF m 66 #[.val (.ref a1), .val (.long q), .second, .val (.int zl), .val (.int zh), s5] [(.ref a1)]))
          obtain ⟨T78, X78, e78, st78⟩ := getF X76 hx hZ hown (host := "") (Or.inl (hw _ (List.mem_of_getElem? (i := 18) rfl))) Via.refl e76 pF3 (g := (mkF m 66 #[.val (.ref a1), .val (.long q), .second, .val (.int zl), .val (.int zh), s5] [(.ref a1)])) rfl rfl (hb hby own_d4_66)
          refine own_fwd st78 ?_
          show own_R p.tables e below P (T78.setTop (mkF m 69 #[.val (.ref a1), .val (.long q), .second, .val (.int zl), .val (.int zh), s5] [(.int bf0)]))
          refine own_fwd (fun tt kt => XS.goto X78.here hx rfl (pc0 := 69) (pc' := 80) rfl (hb hby own_d4_69) (by decide) (by decide) kt) ?_
          show own_R p.tables e below P (T78.setTop (mkF m 80 #[.val (.ref a1), .val (.long q), .second, .val (.int zl), .val (.int zh), s5] [(.int bf0)]))
          obtain ⟨fs79, hr79, hrun79, hended79, hW79, hsame79⟩ := X78.leave (v := some (.int bf0)) (fun h => by rw [Bd.returns] at h; cases h)
          refine ⟨_, _, X78.ireturnOut hx (w := bf0) Bd.returns rfl (by simp) (hb hby own_d4_80) hr79, fin _ _ ⟨hrun79, hended79, _, _, rfl, ?_, ⟨_, rfl⟩, hW79, hsame79.mono (by decide) (by decide)⟩⟩
          show own_Q4 Z a1 tA sA q sp bf0 fi0 ct0 ft fs F0 K0 h0 n0 _ T78.heap _
          rw [e78]
          exact ⟨bf0, rfl, ⟨lo, b3, by omega, c1, fun j a b => c2 j (by omega) b, by rw [if_pos (by have q' := hc77; rw [← Int32.toInt_inj, hl, hF] at q'; omega)]⟩, N0, rfl⟩
        · refine own_fwd (fun tt kt => XS.icmpYes X76.here hx rfl (pc0 := 62) (pc' := 72) rfl (hb hby own_d4_62) rfl (feq hc77).2 (by decide) (by decide) kt) ?_
          show own_R p.tables e below P (T76.setTop (mkF m 72 #[.val (.ref a1), .val (.long q), .second, .val (.int zl), .val (.int zh), s5] []))
          refine own_fwd (fun tt kt => XS.aloadN X76.here hx rfl (hb hby own_d4_72) rfl rfl kt) ?_
          show own_R p.tables e below P (T76.setTop (mkF m 73 #[.val (.ref a1), .val (.long q), .second, .val (.int zl), .val (.int zh), s5] [(.ref a1)]))
          obtain ⟨T80, X80, e80, st80⟩ := getF X76 hx hZ hown (host := "") (Or.inl (hw _ (List.mem_of_getElem? (i := 14) rfl))) Via.refl e76 pF1 (g := (mkF m 73 #[.val (.ref a1), .val (.long q), .second, .val (.int zl), .val (.int zh), s5] [(.ref a1)])) rfl rfl (hb hby own_d4_73)
          refine own_fwd st80 ?_
          show own_R p.tables e below P (T80.setTop (mkF m 76 #[.val (.ref a1), .val (.long q), .second, .val (.int zl), .val (.int zh), s5] [(.ref sA)]))
          refine own_fwd (fun tt kt => XS.iloadN X80.here hx rfl (hb hby own_d4_76) rfl kt) ?_
          show own_R p.tables e below P (T80.setTop (mkF m 77 #[.val (.ref a1), .val (.long q), .second, .val (.int zl), .val (.int zh), s5] [(.int zl), (.ref sA)]))
          refine own_fwd (fun tt kt => XS.iconst X80.here hx rfl (hb hby own_d4_77) kt) ?_
          show own_R p.tables e below P (T80.setTop (mkF m 78 #[.val (.ref a1), .val (.long q), .second, .val (.int zl), .val (.int zh), s5] [(.int (1 : Int32)), (.int zl), (.ref sA)]))
          refine own_fwd (fun tt kt => XS.isub X80.here hx rfl (hb hby own_d4_78) rfl kt) ?_
          show own_R p.tables e below P (T80.setTop (mkF m 79 #[.val (.ref a1), .val (.long q), .second, .val (.int zl), .val (.int zh), s5] [(.int (zl - (1 : Int32))), (.ref sA)]))
          refine own_fwd (own_ldI X80 hx hZ e80 pS (j := (zl - (1 : Int32))) (lo - 1) (by have q' := c_isub zl 1; have r' := rng32 (zl - 1); rw [own_i1] at q'; have q2 : lo ≠ F0 := fun z => hc77 (by rw [← Int32.toInt_inj, hl, hF, z]); omega) (by omega) (g := (mkF m 79 #[.val (.ref a1), .val (.long q), .second, .val (.int zl), .val (.int zh), s5] [(.int (zl - (1 : Int32))), (.ref sA)])) rfl rfl (hb hby own_d4_79)) ?_
          show own_R p.tables e below P (T80.setTop (mkF m 80 #[.val (.ref a1), .val (.long q), .second, .val (.int zl), .val (.int zh), s5] [(.int (fs (lo - 1)))]))
          obtain ⟨fs81, hr81, hrun81, hended81, hW81, hsame81⟩ := X80.leave (v := some (.int (fs (lo - 1)))) (fun h => by rw [Bd.returns] at h; cases h)
          refine ⟨_, _, X80.ireturnOut hx (w := (fs (lo - 1))) Bd.returns rfl (by simp) (hb hby own_d4_80) hr81, fin _ _ ⟨hrun81, hended81, _, _, rfl, ?_, ⟨_, rfl⟩, hW81, hsame81.mono (by decide) (by decide)⟩⟩
          show own_Q4 Z a1 tA sA q sp bf0 fi0 ct0 ft fs F0 K0 h0 n0 _ T80.heap _
          rw [e80]
          exact ⟨(fs (lo - 1)), rfl, ⟨lo, b3, by omega, c1, fun j a b => c2 j (by omega) b, by rw [if_neg (by have q' := hc77; rw [← Int32.toInt_inj, hl, hF] at q'; omega)]⟩, N0, rfl⟩
  refine own_fwd (fun tt kt => XS.aloadN X0.here hx rfl (hb hby own_d4_0) rfl rfl kt) ?_
  show own_R p.tables e below P (s₁.setTop (mkF m 1 #[.val (.ref a1), .val (.long q), .second, .unset, .unset, .unset] [(.ref a1)]))
  obtain ⟨T82, X82, e82, st82⟩ := getF X0 hx hZ hown (host := "") (Or.inl (hw _ (List.mem_of_getElem? (i := 27) rfl))) Via.refl e0 pF4 (g := (mkF m 1 #[.val (.ref a1), .val (.long q), .second, .unset, .unset, .unset] [(.ref a1)])) rfl rfl (hb hby own_d4_1)
  refine own_fwd st82 ?_
  show own_R p.tables e below P (T82.setTop (mkF m 4 #[.val (.ref a1), .val (.long q), .second, .unset, .unset, .unset] [(.int fi0)]))
  refine own_fwd (fun tt kt => XS.istoreN X82.here hx rfl (hb hby own_d4_4) rfl (l' := #[.val (.ref a1), .val (.long q), .second, .val (.int fi0), .unset, .unset]) rfl kt) ?_
  show own_R p.tables e below P (T82.setTop (mkF m 5 #[.val (.ref a1), .val (.long q), .second, .val (.int fi0), .unset, .unset] []))
  refine own_fwd (fun tt kt => XS.aloadN X82.here hx rfl (hb hby own_d4_5) rfl rfl kt) ?_
  show own_R p.tables e below P (T82.setTop (mkF m 6 #[.val (.ref a1), .val (.long q), .second, .val (.int fi0), .unset, .unset] [(.ref a1)]))
  obtain ⟨T83, X83, e83, st83⟩ := getF X82 hx hZ hown (host := "") (Or.inl (hw _ (List.mem_of_getElem? (i := 27) rfl))) Via.refl e82 pF4 (g := (mkF m 6 #[.val (.ref a1), .val (.long q), .second, .val (.int fi0), .unset, .unset] [(.ref a1)])) rfl rfl (hb hby own_d4_6)
  refine own_fwd st83 ?_
  show own_R p.tables e below P (T83.setTop (mkF m 9 #[.val (.ref a1), .val (.long q), .second, .val (.int fi0), .unset, .unset] [(.int fi0)]))
  refine own_fwd (fun tt kt => XS.aloadN X83.here hx rfl (hb hby own_d4_9) rfl rfl kt) ?_
  show own_R p.tables e below P (T83.setTop (mkF m 10 #[.val (.ref a1), .val (.long q), .second, .val (.int fi0), .unset, .unset] [(.ref a1), (.int fi0)]))
  obtain ⟨T84, X84, e84, st84⟩ := getF X83 hx hZ hown (host := "") (Or.inl (hw _ (List.mem_of_getElem? (i := 25) rfl))) Via.refl e83 pF5 (g := (mkF m 10 #[.val (.ref a1), .val (.long q), .second, .val (.int fi0), .unset, .unset] [(.ref a1), (.int fi0)])) rfl rfl (hb hby own_d4_10)
  refine own_fwd st84 ?_
  show own_R p.tables e below P (T84.setTop (mkF m 13 #[.val (.ref a1), .val (.long q), .second, .val (.int fi0), .unset, .unset] [(.int ct0), (.int fi0)]))
  refine own_fwd (fun tt kt => XS.iadd X84.here hx rfl (hb hby own_d4_13) rfl kt) ?_
  show own_R p.tables e below P (T84.setTop (mkF m 14 #[.val (.ref a1), .val (.long q), .second, .val (.int fi0), .unset, .unset] [(.int (fi0 + ct0))]))
  refine own_fwd (fun tt kt => XS.istore X84.here hx rfl (hb hby own_d4_14) rfl (l' := #[.val (.ref a1), .val (.long q), .second, .val (.int fi0), .val (.int (fi0 + ct0)), .unset]) rfl kt) ?_
  show own_R p.tables e below P (T84.setTop (mkF m 16 #[.val (.ref a1), .val (.long q), .second, .val (.int fi0), .val (.int (fi0 + ct0)), .unset] []))
  exact loop K0 F0 (F0 + K0) fi0 _ _ One.u _ X84 e84 (by omega) (by omega) (Nat.le_refl _) (Nat.le_refl _) hF (own_add hF hKc (by omega)) (fun j a b => absurd a (by omega)) (fun j a b => absurd b (by omega))
theorem own_span (x : Int64) (m : Int64) (h0 : 0 ≤ m.toInt) (hm : m.toInt ≤ 4611686018427387903) : 0 ≤ (x &&& m).toInt ∧ (x &&& m).toInt ≤ 4611686018427387903 := by
  have h := c_andSL x m
  refine ⟨h.2.2 h0, ?_⟩
  have e : (x &&& m).toBitVec.toNat ≤ m.toBitVec.toNat := by
    rw [Int64.toBitVec_and, BitVec.toNat_and]; exact Nat.and_le_right
  have h1 := h.2.2 h0
  have g1 : (x &&& m).toInt = ((x &&& m).toBitVec.toNat : Int) := by
    have q : (x &&& m).toInt = (x &&& m).toBitVec.toInt := rfl
    rw [q] at h1 ⊢
    rw [BitVec.toInt_eq_toNat_cond] at h1 ⊢
    split at h1 <;> rename_i c
    · rw [if_pos c]
    · have := (x &&& m).toBitVec.isLt; omega
  have g2 : m.toInt = (m.toBitVec.toNat : Int) := by
    have q : m.toInt = m.toBitVec.toInt := rfl
    rw [q] at h0 ⊢
    rw [BitVec.toInt_eq_toNat_cond] at h0 ⊢
    split at h0 <;> rename_i c
    · rw [if_pos c]
    · have := m.toBitVec.isLt; omega
  omega
theorem own_base (x : Int64) : -2305843009213693952 ≤ (x >>> ((2 : Int32) &&& 0x3f).toInt64).toInt ∧ (x >>> ((2 : Int32) &&& 0x3f).toInt64).toInt < 2305843009213693952 := by
  have h := c_lshr x 2 2 (by decide)
  have r := rng64 x
  have e : ((2 ^ 2 : Nat) : Int) = 4 := by decide
  rw [e] at h
  omega
theorem own_gap (b : Int64) (y : Int32) (h1 : -4000000000000000000 ≤ b.toInt) (h2 : b.toInt ≤ 4000000000000000000) : b.toInt < (b + ((y &&& (8191 : Int32)) + (1 : Int32)).toInt64).toInt ∧ (b + ((y &&& (8191 : Int32)) + (1 : Int32)).toInt64).toInt ≤ b.toInt + 8192 := by
  have h := c_mask y 8191 13 (by decide) (by decide)
  have e : ((2 ^ 13 : Nat) : Int) = 8192 := by decide
  rw [e] at h
  have a1 := c_iadd (y &&& (8191 : Int32)) 1
  have r1 := rng32 ((y &&& (8191 : Int32)) + 1)
  rw [own_i1] at a1
  have a2 := c_ladd b ((y &&& (8191 : Int32)) + (1 : Int32)).toInt64
  have r2 := rng64 (b + ((y &&& (8191 : Int32)) + (1 : Int32)).toInt64)
  rw [c_i2l] at a2
  omega
theorem own_subL (x y : Int64) (h1 : -4611686018427387904 ≤ x.toInt) (h2 : x.toInt ≤ 4611686018427387904) (h3 : 0 ≤ y.toInt) (h4 : y.toInt ≤ 4611686018427387903) : (x - y).toInt = x.toInt - y.toInt := by
  have a := c_lsub x y; have r := rng64 (x - y); omega
theorem own_qry (x y : Int64) (h1 : -9223372036854775808 ≤ x.toInt + y.toInt) (h2 : x.toInt + y.toInt ≤ 9223372036854775807) : (x + y).toInt = x.toInt + y.toInt := by
  have a := c_ladd x y; have r := rng64 (x + y); omega
theorem own_ltT (x y : Int64) : (lcmpW x y) < (0 : Int32) ↔ x.toInt < y.toInt := by rw [lw_lt, Int64.lt_iff_toInt_lt]
theorem own_pn1 : plainName "com/example/ramp99/ramp99/service/policy/SizeHistoryAtPinLaw" = true := by first | (simp [plainName, overriddenIn]; done) | decide +kernel
theorem own_pd0 : parseMethodDescriptor "(JI)V" = some ⟨[.long, .int], none⟩ := by decide +kernel
theorem own_pd1 : parseMethodDescriptor "(J)I" = some ⟨[.long], some .int⟩ := by decide +kernel
theorem own_eflaw (m : MethodId) (p0 : Int64) (p1 : Int64) (p2 : Int64) (p3 : Int32) (p4 : Int32) (p5 : Int32) : entryFrame m #[(.long p0), (.long p1), (.long p2), (.int p3), (.int p4), (.int p5)] maxLocals = mkF m 0 #[.val (.long p0), .second, .val (.long p1), .second, .val (.long p2), .second, .val (.int p3), .val (.int p4), .val (.int p5), .unset, .unset, .unset, .unset, .unset, .unset, .unset, .unset, .unset, .unset, .unset, .unset, .unset, .unset, .unset, .unset, .unset, .unset] [] := by first | (simp [entryFrame, mkF, argsToLocals, Value.category, maxLocals]; done) | rfl
def own_Qlaw (Z : State) (p0 p1 p2 : Int64) (p3 p4 p5 : Int32) (h0 : Heap) (n0 : Nat) (v : Option Value) (h : Heap) (L : List Loc) : Prop := v = some (.int 1) ∧ Fr n0 L
set_option maxRecDepth 65536 in
set_option maxHeartbeats 40000000 in
theorem own_rmlaw (l : Launch) (Z : State) (a0 : Array Value) (hw : ∀ d ∈ tables_1, d.before a0 Z = true) (ws : List Jvm.Cond) (p0 p1 p2 : Int64) (p3 p4 p5 : Int32) (h0 : Heap) (n0 : Nat) (Z0 : n0 ≤ h0.size) :
    MetFree l x (head1 (Jvm.Cond.code x code maxLocals ret :: ws) room_1) (fun a U => a = #[(.long p0), (.long p1), (.long p2), (.int p3), (.int p4), (.int p5)] ∧ Z.Warmed39 U.vm ∧ U.heap = h0) (fun _ _ _ _ _ => True) (fun _ U o U' => ∃ v L, o = .returned v ∧ own_Qlaw Z p0 p1 p2 p3 p4 p5 h0 n0 v U'.heap L ∧ FrameEnd U o U' L 16 192) := by
  refine MetFree.of_bodySF (plainFor_of_name own_pn1) hisR ?_
  intro p e s m args below meth c s₁ Bd hml0 hP hK
  obtain ⟨rfl, hZ, hh⟩ := hP
  have hx := Bd.exec
  have hby := Bd.bytes
  have hml : c.maxLocals = 27 := hml0
  have hown : s.vm.findClass "com/example/ramp99/ramp99/service/policy/SizeHistoryAtPinLaw" = some m.cls := findClass_of_methodNamed Bd.named
  have hnm := (name_of_methodNamed Bd.named Bd.method).1
  have X0 : Stand p l e room_1 s m #[(.long p0), (.long p1), (.long p2), (.int p3), (.int p4), (.int p5)] below meth c s₁ [] 0 0 := Stand.of_body Bd
  have e0 : s₁.heap = h0 := by rw [← hh, Bd.state]; rfl
  have N0 := Fr.nil n0
  refine own_nm (st := s₁.setTop (entryFrame m #[(.long p0), (.long p1), (.long p2), (.int p3), (.int p4), (.int p5)] maxLocals)) fun P fin => ?_
  refine own_fwd (fun tt kt => castTop (own_eflaw m p0 p1 p2 p3 p4 p5) kt) ?_
  show own_R p.tables e below P (s₁.setTop (mkF m 0 #[.val (.long p0), .second, .val (.long p1), .second, .val (.long p2), .second, .val (.int p3), .val (.int p4), .val (.int p5), .unset, .unset, .unset, .unset, .unset, .unset, .unset, .unset, .unset, .unset, .unset, .unset, .unset, .unset, .unset, .unset, .unset, .unset] []))
  refine own_fwd (fun tt kt => XS.iload X0.here hx rfl (hb hby at_0) rfl kt) ?_
  show own_R p.tables e below P (s₁.setTop (mkF m 2 #[.val (.long p0), .second, .val (.long p1), .second, .val (.long p2), .second, .val (.int p3), .val (.int p4), .val (.int p5), .unset, .unset, .unset, .unset, .unset, .unset, .unset, .unset, .unset, .unset, .unset, .unset, .unset, .unset, .unset, .unset, .unset, .unset] [(.int p3)]))
  refine own_fwd (fun tt kt => XS.iconst X0.here hx rfl (hb hby at_2) kt) ?_
  show own_R p.tables e below P (s₁.setTop (mkF m 3 #[.val (.long p0), .second, .val (.long p1), .second, .val (.long p2), .second, .val (.int p3), .val (.int p4), .val (.int p5), .unset, .unset, .unset, .unset, .unset, .unset, .unset, .unset, .unset, .unset, .unset, .unset, .unset, .unset, .unset, .unset, .unset, .unset] [(.int (3 : Int32)), (.int p3)]))
  refine own_fwd (fun tt kt => XS.iand X0.here hx rfl (hb hby at_3) rfl kt) ?_
  show own_R p.tables e below P (s₁.setTop (mkF m 4 #[.val (.long p0), .second, .val (.long p1), .second, .val (.long p2), .second, .val (.int p3), .val (.int p4), .val (.int p5), .unset, .unset, .unset, .unset, .unset, .unset, .unset, .unset, .unset, .unset, .unset, .unset, .unset, .unset, .unset, .unset, .unset, .unset] [(.int (p3 &&& (3 : Int32)))]))
  refine own_fwd (fun tt kt => XS.istore X0.here hx rfl (hb hby at_4) rfl (l' := #[.val (.long p0), .second, .val (.long p1), .second, .val (.long p2), .second, .val (.int p3), .val (.int p4), .val (.int p5), .val (.int (p3 &&& (3 : Int32))), .unset, .unset, .unset, .unset, .unset, .unset, .unset, .unset, .unset, .unset, .unset, .unset, .unset, .unset, .unset, .unset, .unset]) rfl kt) ?_
  show own_R p.tables e below P (s₁.setTop (mkF m 6 #[.val (.long p0), .second, .val (.long p1), .second, .val (.long p2), .second, .val (.int p3), .val (.int p4), .val (.int p5), .val (.int (p3 &&& (3 : Int32))), .unset, .unset, .unset, .unset, .unset, .unset, .unset, .unset, .unset, .unset, .unset, .unset, .unset, .unset, .unset, .unset, .unset] []))
  refine own_fwd (fun tt kt => XS.lloadN X0.here hx rfl (hb hby at_6) rfl kt) ?_
  show own_R p.tables e below P (s₁.setTop (mkF m 7 #[.val (.long p0), .second, .val (.long p1), .second, .val (.long p2), .second, .val (.int p3), .val (.int p4), .val (.int p5), .val (.int (p3 &&& (3 : Int32))), .unset, .unset, .unset, .unset, .unset, .unset, .unset, .unset, .unset, .unset, .unset, .unset, .unset, .unset, .unset, .unset, .unset] [(.long p1)]))
  refine own_fwd (fun tt kt => XS.iconst X0.here hx rfl (hb hby at_7) kt) ?_
  show own_R p.tables e below P (s₁.setTop (mkF m 8 #[.val (.long p0), .second, .val (.long p1), .second, .val (.long p2), .second, .val (.int p3), .val (.int p4), .val (.int p5), .val (.int (p3 &&& (3 : Int32))), .unset, .unset, .unset, .unset, .unset, .unset, .unset, .unset, .unset, .unset, .unset, .unset, .unset, .unset, .unset, .unset, .unset] [(.int (1 : Int32)), (.long p1)]))
  refine own_fwd (fun tt kt => XS.lushr X0.here hx rfl (hb hby at_8) rfl kt) ?_
  show own_R p.tables e below P (s₁.setTop (mkF m 9 #[.val (.long p0), .second, .val (.long p1), .second, .val (.long p2), .second, .val (.int p3), .val (.int p4), .val (.int p5), .val (.int (p3 &&& (3 : Int32))), .unset, .unset, .unset, .unset, .unset, .unset, .unset, .unset, .unset, .unset, .unset, .unset, .unset, .unset, .unset, .unset, .unset] [(.long ((p1.toUInt64 >>> ((1 : Int32) &&& 0x3f).toInt64.toUInt64).toInt64))]))
  refine own_fwd (fun tt kt => XS.lloadN X0.here hx rfl (hb hby at_9) rfl kt) ?_
  show own_R p.tables e below P (s₁.setTop (mkF m 10 #[.val (.long p0), .second, .val (.long p1), .second, .val (.long p2), .second, .val (.int p3), .val (.int p4), .val (.int p5), .val (.int (p3 &&& (3 : Int32))), .unset, .unset, .unset, .unset, .unset, .unset, .unset, .unset, .unset, .unset, .unset, .unset, .unset, .unset, .unset, .unset, .unset] [(.long p1), (.long ((p1.toUInt64 >>> ((1 : Int32) &&& 0x3f).toInt64.toUInt64).toInt64))]))
  refine own_fwd (fun tt kt => XS.lconst X0.here hx rfl (hb hby at_10) kt) ?_
  show own_R p.tables e below P (s₁.setTop (mkF m 11 #[.val (.long p0), .second, .val (.long p1), .second, .val (.long p2), .second, .val (.int p3), .val (.int p4), .val (.int p5), .val (.int (p3 &&& (3 : Int32))), .unset, .unset, .unset, .unset, .unset, .unset, .unset, .unset, .unset, .unset, .unset, .unset, .unset, .unset, .unset, .unset, .unset] [(.long (1 : Int64)), (.long p1), (.long ((p1.toUInt64 >>> ((1 : Int32) &&& 0x3f).toInt64.toUInt64).toInt64))]))
  refine own_fwd (fun tt kt => XS.land X0.here hx rfl (hb hby at_11) rfl kt) ?_
  show own_R p.tables e below P (s₁.setTop (mkF m 12 #[.val (.long p0), .second, .val (.long p1), .second, .val (.long p2), .second, .val (.int p3), .val (.int p4), .val (.int p5), .val (.int (p3 &&& (3 : Int32))), .unset, .unset, .unset, .unset, .unset, .unset, .unset, .unset, .unset, .unset, .unset, .unset, .unset, .unset, .unset, .unset, .unset] [(.long (p1 &&& (1 : Int64))), (.long ((p1.toUInt64 >>> ((1 : Int32) &&& 0x3f).toInt64.toUInt64).toInt64))]))
  refine own_fwd (fun tt kt => XS.lconst X0.here hx rfl (hb hby at_12) kt) ?_
  show own_R p.tables e below P (s₁.setTop (mkF m 13 #[.val (.long p0), .second, .val (.long p1), .second, .val (.long p2), .second, .val (.int p3), .val (.int p4), .val (.int p5), .val (.int (p3 &&& (3 : Int32))), .unset, .unset, .unset, .unset, .unset, .unset, .unset, .unset, .unset, .unset, .unset, .unset, .unset, .unset, .unset, .unset, .unset] [(.long (0 : Int64)), (.long (p1 &&& (1 : Int64))), (.long ((p1.toUInt64 >>> ((1 : Int32) &&& 0x3f).toInt64.toUInt64).toInt64))]))
  refine own_fwd (fun tt kt => XS.lcmp X0.here hx rfl (hb hby at_13) rfl kt) ?_
  show own_R p.tables e below P (s₁.setTop (mkF m 14 #[.val (.long p0), .second, .val (.long p1), .second, .val (.long p2), .second, .val (.int p3), .val (.int p4), .val (.int p5), .val (.int (p3 &&& (3 : Int32))), .unset, .unset, .unset, .unset, .unset, .unset, .unset, .unset, .unset, .unset, .unset, .unset, .unset, .unset, .unset, .unset, .unset] [(.int (lcmpW (p1 &&& (1 : Int64)) (0 : Int64))), (.long ((p1.toUInt64 >>> ((1 : Int32) &&& 0x3f).toInt64.toUInt64).toInt64))]))
  have j86 : ∀ P, own_R p.tables e below P (s₁.setTop (mkF m 26 #[.val (.long p0), .second, .val (.long p1), .second, .val (.long p2), .second, .val (.int p3), .val (.int p4), .val (.int p5), .val (.int (p3 &&& (3 : Int32))), .unset, .unset, .unset, .unset, .unset, .unset, .unset, .unset, .unset, .unset, .unset, .unset, .unset, .unset, .unset, .unset, .unset] [(.long (if (lcmpW (p1 &&& (1 : Int64)) (0 : Int64)) = (0 : Int32) then (32767 : Int64) else (4611686018427387903 : Int64))), (.long ((p1.toUInt64 >>> ((1 : Int32) &&& 0x3f).toInt64.toUInt64).toInt64))])) → own_R p.tables e below P (s₁.setTop (mkF m 14 #[.val (.long p0), .second, .val (.long p1), .second, .val (.long p2), .second, .val (.int p3), .val (.int p4), .val (.int p5), .val (.int (p3 &&& (3 : Int32))), .unset, .unset, .unset, .unset, .unset, .unset, .unset, .unset, .unset, .unset, .unset, .unset, .unset, .unset, .unset, .unset, .unset] [(.int (lcmpW (p1 &&& (1 : Int64)) (0 : Int64))), (.long ((p1.toUInt64 >>> ((1 : Int32) &&& 0x3f).toInt64.toUInt64).toInt64))])) := by
    intro P k
    by_cases hc85 : (lcmpW (p1 &&& (1 : Int64)) (0 : Int64)) = (0 : Int32)
    · try simp only [if_pos hc85] at k
      refine own_fwd (fun tt kt => XS.ifNo X0.here hx rfl (hb hby at_14) rfl ((if0 _ _).trans (teq hc85).2) kt) ?_
      show own_R p.tables e below P (s₁.setTop (mkF m 17 #[.val (.long p0), .second, .val (.long p1), .second, .val (.long p2), .second, .val (.int p3), .val (.int p4), .val (.int p5), .val (.int (p3 &&& (3 : Int32))), .unset, .unset, .unset, .unset, .unset, .unset, .unset, .unset, .unset, .unset, .unset, .unset, .unset, .unset, .unset, .unset, .unset] [(.long ((p1.toUInt64 >>> ((1 : Int32) &&& 0x3f).toInt64.toUInt64).toInt64))]))
      refine own_fwd (fun tt kt => X0.ldc2Long hx hown (mvT hZ (hw _ (List.mem_of_getElem? (i := 34) rfl))) (g := (mkF m 17 #[.val (.long p0), .second, .val (.long p1), .second, .val (.long p2), .second, .val (.int p3), .val (.int p4), .val (.int p5), .val (.int (p3 &&& (3 : Int32))), .unset, .unset, .unset, .unset, .unset, .unset, .unset, .unset, .unset, .unset, .unset, .unset, .unset, .unset, .unset, .unset, .unset] [(.long ((p1.toUInt64 >>> ((1 : Int32) &&& 0x3f).toInt64.toUInt64).toInt64))])) rfl (hb hby at_17) tt kt) ?_
      show own_R p.tables e below P (s₁.setTop (mkF m 20 #[.val (.long p0), .second, .val (.long p1), .second, .val (.long p2), .second, .val (.int p3), .val (.int p4), .val (.int p5), .val (.int (p3 &&& (3 : Int32))), .unset, .unset, .unset, .unset, .unset, .unset, .unset, .unset, .unset, .unset, .unset, .unset, .unset, .unset, .unset, .unset, .unset] [(.long (32767 : Int64)), (.long ((p1.toUInt64 >>> ((1 : Int32) &&& 0x3f).toInt64.toUInt64).toInt64))]))
      refine own_fwd (fun tt kt => XS.goto X0.here hx rfl (pc0 := 20) (pc' := 26) rfl (hb hby at_20) (by decide) (by decide) kt) ?_
      show own_R p.tables e below P (s₁.setTop (mkF m 26 #[.val (.long p0), .second, .val (.long p1), .second, .val (.long p2), .second, .val (.int p3), .val (.int p4), .val (.int p5), .val (.int (p3 &&& (3 : Int32))), .unset, .unset, .unset, .unset, .unset, .unset, .unset, .unset, .unset, .unset, .unset, .unset, .unset, .unset, .unset, .unset, .unset] [(.long (32767 : Int64)), (.long ((p1.toUInt64 >>> ((1 : Int32) &&& 0x3f).toInt64.toUInt64).toInt64))]))
      exact k
    · try simp only [if_neg hc85] at k
      refine own_fwd (fun tt kt => XS.ifYes X0.here hx rfl (pc0 := 14) (pc' := 23) rfl (hb hby at_14) rfl ((if0 _ _).trans (feq hc85).2) (by decide) (by decide) kt) ?_
      show own_R p.tables e below P (s₁.setTop (mkF m 23 #[.val (.long p0), .second, .val (.long p1), .second, .val (.long p2), .second, .val (.int p3), .val (.int p4), .val (.int p5), .val (.int (p3 &&& (3 : Int32))), .unset, .unset, .unset, .unset, .unset, .unset, .unset, .unset, .unset, .unset, .unset, .unset, .unset, .unset, .unset, .unset, .unset] [(.long ((p1.toUInt64 >>> ((1 : Int32) &&& 0x3f).toInt64.toUInt64).toInt64))]))
      refine own_fwd (fun tt kt => X0.ldc2Long hx hown (mvT hZ (hw _ (List.mem_of_getElem? (i := 0) rfl))) (g := (mkF m 23 #[.val (.long p0), .second, .val (.long p1), .second, .val (.long p2), .second, .val (.int p3), .val (.int p4), .val (.int p5), .val (.int (p3 &&& (3 : Int32))), .unset, .unset, .unset, .unset, .unset, .unset, .unset, .unset, .unset, .unset, .unset, .unset, .unset, .unset, .unset, .unset, .unset] [(.long ((p1.toUInt64 >>> ((1 : Int32) &&& 0x3f).toInt64.toUInt64).toInt64))])) rfl (hb hby at_23) tt kt) ?_
      show own_R p.tables e below P (s₁.setTop (mkF m 26 #[.val (.long p0), .second, .val (.long p1), .second, .val (.long p2), .second, .val (.int p3), .val (.int p4), .val (.int p5), .val (.int (p3 &&& (3 : Int32))), .unset, .unset, .unset, .unset, .unset, .unset, .unset, .unset, .unset, .unset, .unset, .unset, .unset, .unset, .unset, .unset, .unset] [(.long (4611686018427387903 : Int64)), (.long ((p1.toUInt64 >>> ((1 : Int32) &&& 0x3f).toInt64.toUInt64).toInt64))]))
      exact k
  refine j86 P ?_
  show own_R p.tables e below P (s₁.setTop (mkF m 26 #[.val (.long p0), .second, .val (.long p1), .second, .val (.long p2), .second, .val (.int p3), .val (.int p4), .val (.int p5), .val (.int (p3 &&& (3 : Int32))), .unset, .unset, .unset, .unset, .unset, .unset, .unset, .unset, .unset, .unset, .unset, .unset, .unset, .unset, .unset, .unset, .unset] [(.long (if (lcmpW (p1 &&& (1 : Int64)) (0 : Int64)) = (0 : Int32) then (32767 : Int64) else (4611686018427387903 : Int64))), (.long ((p1.toUInt64 >>> ((1 : Int32) &&& 0x3f).toInt64.toUInt64).toInt64))]))
  refine own_fwd (fun tt kt => XS.land X0.here hx rfl (hb hby at_26) rfl kt) ?_
  show own_R p.tables e below P (s₁.setTop (mkF m 27 #[.val (.long p0), .second, .val (.long p1), .second, .val (.long p2), .second, .val (.int p3), .val (.int p4), .val (.int p5), .val (.int (p3 &&& (3 : Int32))), .unset, .unset, .unset, .unset, .unset, .unset, .unset, .unset, .unset, .unset, .unset, .unset, .unset, .unset, .unset, .unset, .unset] [(.long (((p1.toUInt64 >>> ((1 : Int32) &&& 0x3f).toInt64.toUInt64).toInt64) &&& (if (lcmpW (p1 &&& (1 : Int64)) (0 : Int64)) = (0 : Int32) then (32767 : Int64) else (4611686018427387903 : Int64))))]))
  have sb := own_span ((p1.toUInt64 >>> ((1 : Int32) &&& 0x3f).toInt64.toUInt64).toInt64) (if (lcmpW (p1 &&& (1 : Int64)) (0 : Int64)) = (0 : Int32) then (32767 : Int64) else (4611686018427387903 : Int64)) (by split <;> decide) (by split <;> decide)
  obtain ⟨spn, hg_spn⟩ : ∃ z, (((p1.toUInt64 >>> ((1 : Int32) &&& 0x3f).toInt64.toUInt64).toInt64) &&& (if (lcmpW (p1 &&& (1 : Int64)) (0 : Int64)) = (0 : Int32) then (32767 : Int64) else (4611686018427387903 : Int64))) = z := ⟨_, rfl⟩
  rw [hg_spn]
  show own_R p.tables e below P (s₁.setTop (mkF m 27 #[.val (.long p0), .second, .val (.long p1), .second, .val (.long p2), .second, .val (.int p3), .val (.int p4), .val (.int p5), .val (.int (p3 &&& (3 : Int32))), .unset, .unset, .unset, .unset, .unset, .unset, .unset, .unset, .unset, .unset, .unset, .unset, .unset, .unset, .unset, .unset, .unset] [(.long spn)]))
  rw [hg_spn] at sb
  obtain ⟨sb1, sb2⟩ := sb
  refine own_fwd (fun tt kt => XS.lstore X0.here hx rfl (hb hby at_27) rfl (l' := #[.val (.long p0), .second, .val (.long p1), .second, .val (.long p2), .second, .val (.int p3), .val (.int p4), .val (.int p5), .val (.int (p3 &&& (3 : Int32))), .val (.long spn), .second, .unset, .unset, .unset, .unset, .unset, .unset, .unset, .unset, .unset, .unset, .unset, .unset, .unset, .unset, .unset]) rfl kt) ?_
  show own_R p.tables e below P (s₁.setTop (mkF m 29 #[.val (.long p0), .second, .val (.long p1), .second, .val (.long p2), .second, .val (.int p3), .val (.int p4), .val (.int p5), .val (.int (p3 &&& (3 : Int32))), .val (.long spn), .second, .unset, .unset, .unset, .unset, .unset, .unset, .unset, .unset, .unset, .unset, .unset, .unset, .unset, .unset, .unset] []))
  refine own_fwd (fun tt kt => XS.lloadN X0.here hx rfl (hb hby at_29) rfl kt) ?_
  show own_R p.tables e below P (s₁.setTop (mkF m 30 #[.val (.long p0), .second, .val (.long p1), .second, .val (.long p2), .second, .val (.int p3), .val (.int p4), .val (.int p5), .val (.int (p3 &&& (3 : Int32))), .val (.long spn), .second, .unset, .unset, .unset, .unset, .unset, .unset, .unset, .unset, .unset, .unset, .unset, .unset, .unset, .unset, .unset] [(.long p0)]))
  refine own_fwd (fun tt kt => XS.iconst X0.here hx rfl (hb hby at_30) kt) ?_
  show own_R p.tables e below P (s₁.setTop (mkF m 31 #[.val (.long p0), .second, .val (.long p1), .second, .val (.long p2), .second, .val (.int p3), .val (.int p4), .val (.int p5), .val (.int (p3 &&& (3 : Int32))), .val (.long spn), .second, .unset, .unset, .unset, .unset, .unset, .unset, .unset, .unset, .unset, .unset, .unset, .unset, .unset, .unset, .unset] [(.int (2 : Int32)), (.long p0)]))
  refine own_fwd (fun tt kt => XS.lshr X0.here hx rfl (hb hby at_31) rfl kt) ?_
  show own_R p.tables e below P (s₁.setTop (mkF m 32 #[.val (.long p0), .second, .val (.long p1), .second, .val (.long p2), .second, .val (.int p3), .val (.int p4), .val (.int p5), .val (.int (p3 &&& (3 : Int32))), .val (.long spn), .second, .unset, .unset, .unset, .unset, .unset, .unset, .unset, .unset, .unset, .unset, .unset, .unset, .unset, .unset, .unset] [(.long (p0 >>> ((2 : Int32) &&& 0x3f).toInt64))]))
  have tb := own_base p0
  obtain ⟨t1, hg_t1⟩ : ∃ z, (p0 >>> ((2 : Int32) &&& 0x3f).toInt64) = z := ⟨_, rfl⟩
  rw [hg_t1]
  show own_R p.tables e below P (s₁.setTop (mkF m 32 #[.val (.long p0), .second, .val (.long p1), .second, .val (.long p2), .second, .val (.int p3), .val (.int p4), .val (.int p5), .val (.int (p3 &&& (3 : Int32))), .val (.long spn), .second, .unset, .unset, .unset, .unset, .unset, .unset, .unset, .unset, .unset, .unset, .unset, .unset, .unset, .unset, .unset] [(.long t1)]))
  rw [hg_t1] at tb
  obtain ⟨tb1, tb2⟩ := tb
  refine own_fwd (fun tt kt => XS.lstore X0.here hx rfl (hb hby at_32) rfl (l' := #[.val (.long p0), .second, .val (.long p1), .second, .val (.long p2), .second, .val (.int p3), .val (.int p4), .val (.int p5), .val (.int (p3 &&& (3 : Int32))), .val (.long spn), .second, .val (.long t1), .second, .unset, .unset, .unset, .unset, .unset, .unset, .unset, .unset, .unset, .unset, .unset, .unset, .unset]) rfl kt) ?_
  show own_R p.tables e below P (s₁.setTop (mkF m 34 #[.val (.long p0), .second, .val (.long p1), .second, .val (.long p2), .second, .val (.int p3), .val (.int p4), .val (.int p5), .val (.int (p3 &&& (3 : Int32))), .val (.long spn), .second, .val (.long t1), .second, .unset, .unset, .unset, .unset, .unset, .unset, .unset, .unset, .unset, .unset, .unset, .unset, .unset] []))
  refine own_fwd (fun tt kt => XS.lload X0.here hx rfl (hb hby at_34) rfl kt) ?_
  show own_R p.tables e below P (s₁.setTop (mkF m 36 #[.val (.long p0), .second, .val (.long p1), .second, .val (.long p2), .second, .val (.int p3), .val (.int p4), .val (.int p5), .val (.int (p3 &&& (3 : Int32))), .val (.long spn), .second, .val (.long t1), .second, .unset, .unset, .unset, .unset, .unset, .unset, .unset, .unset, .unset, .unset, .unset, .unset, .unset] [(.long t1)]))
  refine own_fwd (fun tt kt => XS.iload X0.here hx rfl (hb hby at_36) rfl kt) ?_
  show own_R p.tables e below P (s₁.setTop (mkF m 38 #[.val (.long p0), .second, .val (.long p1), .second, .val (.long p2), .second, .val (.int p3), .val (.int p4), .val (.int p5), .val (.int (p3 &&& (3 : Int32))), .val (.long spn), .second, .val (.long t1), .second, .unset, .unset, .unset, .unset, .unset, .unset, .unset, .unset, .unset, .unset, .unset, .unset, .unset] [(.int p3), (.long t1)]))
  refine own_fwd (fun tt kt => XS.iconst X0.here hx rfl (hb hby at_38) kt) ?_
  show own_R p.tables e below P (s₁.setTop (mkF m 39 #[.val (.long p0), .second, .val (.long p1), .second, .val (.long p2), .second, .val (.int p3), .val (.int p4), .val (.int p5), .val (.int (p3 &&& (3 : Int32))), .val (.long spn), .second, .val (.long t1), .second, .unset, .unset, .unset, .unset, .unset, .unset, .unset, .unset, .unset, .unset, .unset, .unset, .unset] [(.int (2 : Int32)), (.int p3), (.long t1)]))
  refine own_fwd (fun tt kt => XS.iushr X0.here hx rfl (hb hby at_39) rfl kt) ?_
  show own_R p.tables e below P (s₁.setTop (mkF m 40 #[.val (.long p0), .second, .val (.long p1), .second, .val (.long p2), .second, .val (.int p3), .val (.int p4), .val (.int p5), .val (.int (p3 &&& (3 : Int32))), .val (.long spn), .second, .val (.long t1), .second, .unset, .unset, .unset, .unset, .unset, .unset, .unset, .unset, .unset, .unset, .unset, .unset, .unset] [(.int ((p3.toUInt32 >>> ((2 : Int32) &&& 31).toUInt32).toInt32)), (.long t1)]))
  refine own_fwd (fun tt kt => XS.sipush X0.here hx rfl (hb hby at_40) kt) ?_
  show own_R p.tables e below P (s₁.setTop (mkF m 43 #[.val (.long p0), .second, .val (.long p1), .second, .val (.long p2), .second, .val (.int p3), .val (.int p4), .val (.int p5), .val (.int (p3 &&& (3 : Int32))), .val (.long spn), .second, .val (.long t1), .second, .unset, .unset, .unset, .unset, .unset, .unset, .unset, .unset, .unset, .unset, .unset, .unset, .unset] [(.int (8191 : Int32)), (.int ((p3.toUInt32 >>> ((2 : Int32) &&& 31).toUInt32).toInt32)), (.long t1)]))
  refine own_fwd (fun tt kt => XS.iand X0.here hx rfl (hb hby at_43) rfl kt) ?_
  show own_R p.tables e below P (s₁.setTop (mkF m 44 #[.val (.long p0), .second, .val (.long p1), .second, .val (.long p2), .second, .val (.int p3), .val (.int p4), .val (.int p5), .val (.int (p3 &&& (3 : Int32))), .val (.long spn), .second, .val (.long t1), .second, .unset, .unset, .unset, .unset, .unset, .unset, .unset, .unset, .unset, .unset, .unset, .unset, .unset] [(.int (((p3.toUInt32 >>> ((2 : Int32) &&& 31).toUInt32).toInt32) &&& (8191 : Int32))), (.long t1)]))
  refine own_fwd (fun tt kt => XS.iconst X0.here hx rfl (hb hby at_44) kt) ?_
  show own_R p.tables e below P (s₁.setTop (mkF m 45 #[.val (.long p0), .second, .val (.long p1), .second, .val (.long p2), .second, .val (.int p3), .val (.int p4), .val (.int p5), .val (.int (p3 &&& (3 : Int32))), .val (.long spn), .second, .val (.long t1), .second, .unset, .unset, .unset, .unset, .unset, .unset, .unset, .unset, .unset, .unset, .unset, .unset, .unset] [(.int (1 : Int32)), (.int (((p3.toUInt32 >>> ((2 : Int32) &&& 31).toUInt32).toInt32) &&& (8191 : Int32))), (.long t1)]))
  refine own_fwd (fun tt kt => XS.iadd X0.here hx rfl (hb hby at_45) rfl kt) ?_
  show own_R p.tables e below P (s₁.setTop (mkF m 46 #[.val (.long p0), .second, .val (.long p1), .second, .val (.long p2), .second, .val (.int p3), .val (.int p4), .val (.int p5), .val (.int (p3 &&& (3 : Int32))), .val (.long spn), .second, .val (.long t1), .second, .unset, .unset, .unset, .unset, .unset, .unset, .unset, .unset, .unset, .unset, .unset, .unset, .unset] [(.int ((((p3.toUInt32 >>> ((2 : Int32) &&& 31).toUInt32).toInt32) &&& (8191 : Int32)) + (1 : Int32))), (.long t1)]))
  refine own_fwd (fun tt kt => XS.i2l X0.here hx rfl (hb hby at_46) rfl kt) ?_
  show own_R p.tables e below P (s₁.setTop (mkF m 47 #[.val (.long p0), .second, .val (.long p1), .second, .val (.long p2), .second, .val (.int p3), .val (.int p4), .val (.int p5), .val (.int (p3 &&& (3 : Int32))), .val (.long spn), .second, .val (.long t1), .second, .unset, .unset, .unset, .unset, .unset, .unset, .unset, .unset, .unset, .unset, .unset, .unset, .unset] [(.long (((((p3.toUInt32 >>> ((2 : Int32) &&& 31).toUInt32).toInt32) &&& (8191 : Int32)) + (1 : Int32)).toInt64)), (.long t1)]))
  refine own_fwd (fun tt kt => XS.ladd X0.here hx rfl (hb hby at_47) rfl kt) ?_
  show own_R p.tables e below P (s₁.setTop (mkF m 48 #[.val (.long p0), .second, .val (.long p1), .second, .val (.long p2), .second, .val (.int p3), .val (.int p4), .val (.int p5), .val (.int (p3 &&& (3 : Int32))), .val (.long spn), .second, .val (.long t1), .second, .unset, .unset, .unset, .unset, .unset, .unset, .unset, .unset, .unset, .unset, .unset, .unset, .unset] [(.long (t1 + (((((p3.toUInt32 >>> ((2 : Int32) &&& 31).toUInt32).toInt32) &&& (8191 : Int32)) + (1 : Int32)).toInt64)))]))
  have gt2 := own_gap t1 ((p3.toUInt32 >>> ((2 : Int32) &&& 31).toUInt32).toInt32) (by omega) (by omega)
  obtain ⟨t2, hg_t2⟩ : ∃ z, (t1 + (((((p3.toUInt32 >>> ((2 : Int32) &&& 31).toUInt32).toInt32) &&& (8191 : Int32)) + (1 : Int32)).toInt64)) = z := ⟨_, rfl⟩
  rw [hg_t2]
  show own_R p.tables e below P (s₁.setTop (mkF m 48 #[.val (.long p0), .second, .val (.long p1), .second, .val (.long p2), .second, .val (.int p3), .val (.int p4), .val (.int p5), .val (.int (p3 &&& (3 : Int32))), .val (.long spn), .second, .val (.long t1), .second, .unset, .unset, .unset, .unset, .unset, .unset, .unset, .unset, .unset, .unset, .unset, .unset, .unset] [(.long t2)]))
  rw [hg_t2] at gt2
  obtain ⟨gt2a, gt2b⟩ := gt2
  refine own_fwd (fun tt kt => XS.lstore X0.here hx rfl (hb hby at_48) rfl (l' := #[.val (.long p0), .second, .val (.long p1), .second, .val (.long p2), .second, .val (.int p3), .val (.int p4), .val (.int p5), .val (.int (p3 &&& (3 : Int32))), .val (.long spn), .second, .val (.long t1), .second, .val (.long t2), .second, .unset, .unset, .unset, .unset, .unset, .unset, .unset, .unset, .unset, .unset, .unset]) rfl kt) ?_
  show own_R p.tables e below P (s₁.setTop (mkF m 50 #[.val (.long p0), .second, .val (.long p1), .second, .val (.long p2), .second, .val (.int p3), .val (.int p4), .val (.int p5), .val (.int (p3 &&& (3 : Int32))), .val (.long spn), .second, .val (.long t1), .second, .val (.long t2), .second, .unset, .unset, .unset, .unset, .unset, .unset, .unset, .unset, .unset, .unset, .unset] []))
  refine own_fwd (fun tt kt => XS.lload X0.here hx rfl (hb hby at_50) rfl kt) ?_
  show own_R p.tables e below P (s₁.setTop (mkF m 52 #[.val (.long p0), .second, .val (.long p1), .second, .val (.long p2), .second, .val (.int p3), .val (.int p4), .val (.int p5), .val (.int (p3 &&& (3 : Int32))), .val (.long spn), .second, .val (.long t1), .second, .val (.long t2), .second, .unset, .unset, .unset, .unset, .unset, .unset, .unset, .unset, .unset, .unset, .unset] [(.long t2)]))
  refine own_fwd (fun tt kt => XS.iload X0.here hx rfl (hb hby at_52) rfl kt) ?_
  show own_R p.tables e below P (s₁.setTop (mkF m 54 #[.val (.long p0), .second, .val (.long p1), .second, .val (.long p2), .second, .val (.int p3), .val (.int p4), .val (.int p5), .val (.int (p3 &&& (3 : Int32))), .val (.long spn), .second, .val (.long t1), .second, .val (.long t2), .second, .unset, .unset, .unset, .unset, .unset, .unset, .unset, .unset, .unset, .unset, .unset] [(.int p3), (.long t2)]))
  refine own_fwd (fun tt kt => XS.bipush X0.here hx rfl (hb hby at_54) kt) ?_
  show own_R p.tables e below P (s₁.setTop (mkF m 56 #[.val (.long p0), .second, .val (.long p1), .second, .val (.long p2), .second, .val (.int p3), .val (.int p4), .val (.int p5), .val (.int (p3 &&& (3 : Int32))), .val (.long spn), .second, .val (.long t1), .second, .val (.long t2), .second, .unset, .unset, .unset, .unset, .unset, .unset, .unset, .unset, .unset, .unset, .unset] [(.int (15 : Int32)), (.int p3), (.long t2)]))
  refine own_fwd (fun tt kt => XS.iushr X0.here hx rfl (hb hby at_56) rfl kt) ?_
  show own_R p.tables e below P (s₁.setTop (mkF m 57 #[.val (.long p0), .second, .val (.long p1), .second, .val (.long p2), .second, .val (.int p3), .val (.int p4), .val (.int p5), .val (.int (p3 &&& (3 : Int32))), .val (.long spn), .second, .val (.long t1), .second, .val (.long t2), .second, .unset, .unset, .unset, .unset, .unset, .unset, .unset, .unset, .unset, .unset, .unset] [(.int ((p3.toUInt32 >>> ((15 : Int32) &&& 31).toUInt32).toInt32)), (.long t2)]))
  refine own_fwd (fun tt kt => XS.sipush X0.here hx rfl (hb hby at_57) kt) ?_
  show own_R p.tables e below P (s₁.setTop (mkF m 60 #[.val (.long p0), .second, .val (.long p1), .second, .val (.long p2), .second, .val (.int p3), .val (.int p4), .val (.int p5), .val (.int (p3 &&& (3 : Int32))), .val (.long spn), .second, .val (.long t1), .second, .val (.long t2), .second, .unset, .unset, .unset, .unset, .unset, .unset, .unset, .unset, .unset, .unset, .unset] [(.int (8191 : Int32)), (.int ((p3.toUInt32 >>> ((15 : Int32) &&& 31).toUInt32).toInt32)), (.long t2)]))
  refine own_fwd (fun tt kt => XS.iand X0.here hx rfl (hb hby at_60) rfl kt) ?_
  show own_R p.tables e below P (s₁.setTop (mkF m 61 #[.val (.long p0), .second, .val (.long p1), .second, .val (.long p2), .second, .val (.int p3), .val (.int p4), .val (.int p5), .val (.int (p3 &&& (3 : Int32))), .val (.long spn), .second, .val (.long t1), .second, .val (.long t2), .second, .unset, .unset, .unset, .unset, .unset, .unset, .unset, .unset, .unset, .unset, .unset] [(.int (((p3.toUInt32 >>> ((15 : Int32) &&& 31).toUInt32).toInt32) &&& (8191 : Int32))), (.long t2)]))
  refine own_fwd (fun tt kt => XS.iconst X0.here hx rfl (hb hby at_61) kt) ?_
  show own_R p.tables e below P (s₁.setTop (mkF m 62 #[.val (.long p0), .second, .val (.long p1), .second, .val (.long p2), .second, .val (.int p3), .val (.int p4), .val (.int p5), .val (.int (p3 &&& (3 : Int32))), .val (.long spn), .second, .val (.long t1), .second, .val (.long t2), .second, .unset, .unset, .unset, .unset, .unset, .unset, .unset, .unset, .unset, .unset, .unset] [(.int (1 : Int32)), (.int (((p3.toUInt32 >>> ((15 : Int32) &&& 31).toUInt32).toInt32) &&& (8191 : Int32))), (.long t2)]))
  refine own_fwd (fun tt kt => XS.iadd X0.here hx rfl (hb hby at_62) rfl kt) ?_
  show own_R p.tables e below P (s₁.setTop (mkF m 63 #[.val (.long p0), .second, .val (.long p1), .second, .val (.long p2), .second, .val (.int p3), .val (.int p4), .val (.int p5), .val (.int (p3 &&& (3 : Int32))), .val (.long spn), .second, .val (.long t1), .second, .val (.long t2), .second, .unset, .unset, .unset, .unset, .unset, .unset, .unset, .unset, .unset, .unset, .unset] [(.int ((((p3.toUInt32 >>> ((15 : Int32) &&& 31).toUInt32).toInt32) &&& (8191 : Int32)) + (1 : Int32))), (.long t2)]))
  refine own_fwd (fun tt kt => XS.i2l X0.here hx rfl (hb hby at_63) rfl kt) ?_
  show own_R p.tables e below P (s₁.setTop (mkF m 64 #[.val (.long p0), .second, .val (.long p1), .second, .val (.long p2), .second, .val (.int p3), .val (.int p4), .val (.int p5), .val (.int (p3 &&& (3 : Int32))), .val (.long spn), .second, .val (.long t1), .second, .val (.long t2), .second, .unset, .unset, .unset, .unset, .unset, .unset, .unset, .unset, .unset, .unset, .unset] [(.long (((((p3.toUInt32 >>> ((15 : Int32) &&& 31).toUInt32).toInt32) &&& (8191 : Int32)) + (1 : Int32)).toInt64)), (.long t2)]))
  refine own_fwd (fun tt kt => XS.ladd X0.here hx rfl (hb hby at_64) rfl kt) ?_
  show own_R p.tables e below P (s₁.setTop (mkF m 65 #[.val (.long p0), .second, .val (.long p1), .second, .val (.long p2), .second, .val (.int p3), .val (.int p4), .val (.int p5), .val (.int (p3 &&& (3 : Int32))), .val (.long spn), .second, .val (.long t1), .second, .val (.long t2), .second, .unset, .unset, .unset, .unset, .unset, .unset, .unset, .unset, .unset, .unset, .unset] [(.long (t2 + (((((p3.toUInt32 >>> ((15 : Int32) &&& 31).toUInt32).toInt32) &&& (8191 : Int32)) + (1 : Int32)).toInt64)))]))
  have gt3 := own_gap t2 ((p3.toUInt32 >>> ((15 : Int32) &&& 31).toUInt32).toInt32) (by omega) (by omega)
  obtain ⟨t3, hg_t3⟩ : ∃ z, (t2 + (((((p3.toUInt32 >>> ((15 : Int32) &&& 31).toUInt32).toInt32) &&& (8191 : Int32)) + (1 : Int32)).toInt64)) = z := ⟨_, rfl⟩
  rw [hg_t3]
  show own_R p.tables e below P (s₁.setTop (mkF m 65 #[.val (.long p0), .second, .val (.long p1), .second, .val (.long p2), .second, .val (.int p3), .val (.int p4), .val (.int p5), .val (.int (p3 &&& (3 : Int32))), .val (.long spn), .second, .val (.long t1), .second, .val (.long t2), .second, .unset, .unset, .unset, .unset, .unset, .unset, .unset, .unset, .unset, .unset, .unset] [(.long t3)]))
  rw [hg_t3] at gt3
  obtain ⟨gt3a, gt3b⟩ := gt3
  refine own_fwd (fun tt kt => XS.lstore X0.here hx rfl (hb hby at_65) rfl (l' := #[.val (.long p0), .second, .val (.long p1), .second, .val (.long p2), .second, .val (.int p3), .val (.int p4), .val (.int p5), .val (.int (p3 &&& (3 : Int32))), .val (.long spn), .second, .val (.long t1), .second, .val (.long t2), .second, .val (.long t3), .second, .unset, .unset, .unset, .unset, .unset, .unset, .unset, .unset, .unset]) rfl kt) ?_
  show own_R p.tables e below P (s₁.setTop (mkF m 67 #[.val (.long p0), .second, .val (.long p1), .second, .val (.long p2), .second, .val (.int p3), .val (.int p4), .val (.int p5), .val (.int (p3 &&& (3 : Int32))), .val (.long spn), .second, .val (.long t1), .second, .val (.long t2), .second, .val (.long t3), .second, .unset, .unset, .unset, .unset, .unset, .unset, .unset, .unset, .unset] []))
  refine own_fwd (fun tt kt => XS.iload X0.here hx rfl (hb hby at_67) rfl kt) ?_
  show own_R p.tables e below P (s₁.setTop (mkF m 69 #[.val (.long p0), .second, .val (.long p1), .second, .val (.long p2), .second, .val (.int p3), .val (.int p4), .val (.int p5), .val (.int (p3 &&& (3 : Int32))), .val (.long spn), .second, .val (.long t1), .second, .val (.long t2), .second, .val (.long t3), .second, .unset, .unset, .unset, .unset, .unset, .unset, .unset, .unset, .unset] [(.int p4)]))
  refine own_fwd (fun tt kt => XS.iload X0.here hx rfl (hb hby at_69) rfl kt) ?_
  show own_R p.tables e below P (s₁.setTop (mkF m 71 #[.val (.long p0), .second, .val (.long p1), .second, .val (.long p2), .second, .val (.int p3), .val (.int p4), .val (.int p5), .val (.int (p3 &&& (3 : Int32))), .val (.long spn), .second, .val (.long t1), .second, .val (.long t2), .second, .val (.long t3), .second, .unset, .unset, .unset, .unset, .unset, .unset, .unset, .unset, .unset] [(.int p5), (.int p4)]))
  refine own_fwd (fun tt kt => XS.i2b X0.here hx rfl (hb hby at_71) rfl kt) ?_
  show own_R p.tables e below P (s₁.setTop (mkF m 72 #[.val (.long p0), .second, .val (.long p1), .second, .val (.long p2), .second, .val (.int p3), .val (.int p4), .val (.int p5), .val (.int (p3 &&& (3 : Int32))), .val (.long spn), .second, .val (.long t1), .second, .val (.long t2), .second, .val (.long t3), .second, .unset, .unset, .unset, .unset, .unset, .unset, .unset, .unset, .unset] [(.int (p5.toInt8.toInt32)), (.int p4)]))
  refine own_fwd (fun tt kt => XS.iadd X0.here hx rfl (hb hby at_72) rfl kt) ?_
  show own_R p.tables e below P (s₁.setTop (mkF m 73 #[.val (.long p0), .second, .val (.long p1), .second, .val (.long p2), .second, .val (.int p3), .val (.int p4), .val (.int p5), .val (.int (p3 &&& (3 : Int32))), .val (.long spn), .second, .val (.long t1), .second, .val (.long t2), .second, .val (.long t3), .second, .unset, .unset, .unset, .unset, .unset, .unset, .unset, .unset, .unset] [(.int (p4 + (p5.toInt8.toInt32)))]))
  obtain ⟨va, hg_va⟩ : ∃ z, (p4 + (p5.toInt8.toInt32)) = z := ⟨_, rfl⟩
  rw [hg_va]
  show own_R p.tables e below P (s₁.setTop (mkF m 73 #[.val (.long p0), .second, .val (.long p1), .second, .val (.long p2), .second, .val (.int p3), .val (.int p4), .val (.int p5), .val (.int (p3 &&& (3 : Int32))), .val (.long spn), .second, .val (.long t1), .second, .val (.long t2), .second, .val (.long t3), .second, .unset, .unset, .unset, .unset, .unset, .unset, .unset, .unset, .unset] [(.int va)]))
  refine own_fwd (fun tt kt => XS.istore X0.here hx rfl (hb hby at_73) rfl (l' := #[.val (.long p0), .second, .val (.long p1), .second, .val (.long p2), .second, .val (.int p3), .val (.int p4), .val (.int p5), .val (.int (p3 &&& (3 : Int32))), .val (.long spn), .second, .val (.long t1), .second, .val (.long t2), .second, .val (.long t3), .second, .val (.int va), .unset, .unset, .unset, .unset, .unset, .unset, .unset, .unset]) rfl kt) ?_
  show own_R p.tables e below P (s₁.setTop (mkF m 75 #[.val (.long p0), .second, .val (.long p1), .second, .val (.long p2), .second, .val (.int p3), .val (.int p4), .val (.int p5), .val (.int (p3 &&& (3 : Int32))), .val (.long spn), .second, .val (.long t1), .second, .val (.long t2), .second, .val (.long t3), .second, .val (.int va), .unset, .unset, .unset, .unset, .unset, .unset, .unset, .unset] []))
  refine own_fwd (fun tt kt => XS.iload X0.here hx rfl (hb hby at_75) rfl kt) ?_
  show own_R p.tables e below P (s₁.setTop (mkF m 77 #[.val (.long p0), .second, .val (.long p1), .second, .val (.long p2), .second, .val (.int p3), .val (.int p4), .val (.int p5), .val (.int (p3 &&& (3 : Int32))), .val (.long spn), .second, .val (.long t1), .second, .val (.long t2), .second, .val (.long t3), .second, .val (.int va), .unset, .unset, .unset, .unset, .unset, .unset, .unset, .unset] [(.int p4)]))
  refine own_fwd (fun tt kt => XS.iload X0.here hx rfl (hb hby at_77) rfl kt) ?_
  show own_R p.tables e below P (s₁.setTop (mkF m 79 #[.val (.long p0), .second, .val (.long p1), .second, .val (.long p2), .second, .val (.int p3), .val (.int p4), .val (.int p5), .val (.int (p3 &&& (3 : Int32))), .val (.long spn), .second, .val (.long t1), .second, .val (.long t2), .second, .val (.long t3), .second, .val (.int va), .unset, .unset, .unset, .unset, .unset, .unset, .unset, .unset] [(.int p5), (.int p4)]))
  refine own_fwd (fun tt kt => XS.bipush X0.here hx rfl (hb hby at_79) kt) ?_
  show own_R p.tables e below P (s₁.setTop (mkF m 81 #[.val (.long p0), .second, .val (.long p1), .second, .val (.long p2), .second, .val (.int p3), .val (.int p4), .val (.int p5), .val (.int (p3 &&& (3 : Int32))), .val (.long spn), .second, .val (.long t1), .second, .val (.long t2), .second, .val (.long t3), .second, .val (.int va), .unset, .unset, .unset, .unset, .unset, .unset, .unset, .unset] [(.int (8 : Int32)), (.int p5), (.int p4)]))
  refine own_fwd (fun tt kt => XS.ishr X0.here hx rfl (hb hby at_81) rfl kt) ?_
  show own_R p.tables e below P (s₁.setTop (mkF m 82 #[.val (.long p0), .second, .val (.long p1), .second, .val (.long p2), .second, .val (.int p3), .val (.int p4), .val (.int p5), .val (.int (p3 &&& (3 : Int32))), .val (.long spn), .second, .val (.long t1), .second, .val (.long t2), .second, .val (.long t3), .second, .val (.int va), .unset, .unset, .unset, .unset, .unset, .unset, .unset, .unset] [(.int (p5 >>> ((8 : Int32) &&& 31))), (.int p4)]))
  refine own_fwd (fun tt kt => XS.i2b X0.here hx rfl (hb hby at_82) rfl kt) ?_
  show own_R p.tables e below P (s₁.setTop (mkF m 83 #[.val (.long p0), .second, .val (.long p1), .second, .val (.long p2), .second, .val (.int p3), .val (.int p4), .val (.int p5), .val (.int (p3 &&& (3 : Int32))), .val (.long spn), .second, .val (.long t1), .second, .val (.long t2), .second, .val (.long t3), .second, .val (.int va), .unset, .unset, .unset, .unset, .unset, .unset, .unset, .unset] [(.int ((p5 >>> ((8 : Int32) &&& 31)).toInt8.toInt32)), (.int p4)]))
  refine own_fwd (fun tt kt => XS.iadd X0.here hx rfl (hb hby at_83) rfl kt) ?_
  show own_R p.tables e below P (s₁.setTop (mkF m 84 #[.val (.long p0), .second, .val (.long p1), .second, .val (.long p2), .second, .val (.int p3), .val (.int p4), .val (.int p5), .val (.int (p3 &&& (3 : Int32))), .val (.long spn), .second, .val (.long t1), .second, .val (.long t2), .second, .val (.long t3), .second, .val (.int va), .unset, .unset, .unset, .unset, .unset, .unset, .unset, .unset] [(.int (p4 + ((p5 >>> ((8 : Int32) &&& 31)).toInt8.toInt32)))]))
  obtain ⟨vb, hg_vb⟩ : ∃ z, (p4 + ((p5 >>> ((8 : Int32) &&& 31)).toInt8.toInt32)) = z := ⟨_, rfl⟩
  rw [hg_vb]
  show own_R p.tables e below P (s₁.setTop (mkF m 84 #[.val (.long p0), .second, .val (.long p1), .second, .val (.long p2), .second, .val (.int p3), .val (.int p4), .val (.int p5), .val (.int (p3 &&& (3 : Int32))), .val (.long spn), .second, .val (.long t1), .second, .val (.long t2), .second, .val (.long t3), .second, .val (.int va), .unset, .unset, .unset, .unset, .unset, .unset, .unset, .unset] [(.int vb)]))
  refine own_fwd (fun tt kt => XS.istore X0.here hx rfl (hb hby at_84) rfl (l' := #[.val (.long p0), .second, .val (.long p1), .second, .val (.long p2), .second, .val (.int p3), .val (.int p4), .val (.int p5), .val (.int (p3 &&& (3 : Int32))), .val (.long spn), .second, .val (.long t1), .second, .val (.long t2), .second, .val (.long t3), .second, .val (.int va), .val (.int vb), .unset, .unset, .unset, .unset, .unset, .unset, .unset]) rfl kt) ?_
  show own_R p.tables e below P (s₁.setTop (mkF m 86 #[.val (.long p0), .second, .val (.long p1), .second, .val (.long p2), .second, .val (.int p3), .val (.int p4), .val (.int p5), .val (.int (p3 &&& (3 : Int32))), .val (.long spn), .second, .val (.long t1), .second, .val (.long t2), .second, .val (.long t3), .second, .val (.int va), .val (.int vb), .unset, .unset, .unset, .unset, .unset, .unset, .unset] []))
  refine own_fwd (fun tt kt => XS.iload X0.here hx rfl (hb hby at_86) rfl kt) ?_
  show own_R p.tables e below P (s₁.setTop (mkF m 88 #[.val (.long p0), .second, .val (.long p1), .second, .val (.long p2), .second, .val (.int p3), .val (.int p4), .val (.int p5), .val (.int (p3 &&& (3 : Int32))), .val (.long spn), .second, .val (.long t1), .second, .val (.long t2), .second, .val (.long t3), .second, .val (.int va), .val (.int vb), .unset, .unset, .unset, .unset, .unset, .unset, .unset] [(.int p4)]))
  refine own_fwd (fun tt kt => XS.iload X0.here hx rfl (hb hby at_88) rfl kt) ?_
  show own_R p.tables e below P (s₁.setTop (mkF m 90 #[.val (.long p0), .second, .val (.long p1), .second, .val (.long p2), .second, .val (.int p3), .val (.int p4), .val (.int p5), .val (.int (p3 &&& (3 : Int32))), .val (.long spn), .second, .val (.long t1), .second, .val (.long t2), .second, .val (.long t3), .second, .val (.int va), .val (.int vb), .unset, .unset, .unset, .unset, .unset, .unset, .unset] [(.int p5), (.int p4)]))
  refine own_fwd (fun tt kt => XS.bipush X0.here hx rfl (hb hby at_90) kt) ?_
  show own_R p.tables e below P (s₁.setTop (mkF m 92 #[.val (.long p0), .second, .val (.long p1), .second, .val (.long p2), .second, .val (.int p3), .val (.int p4), .val (.int p5), .val (.int (p3 &&& (3 : Int32))), .val (.long spn), .second, .val (.long t1), .second, .val (.long t2), .second, .val (.long t3), .second, .val (.int va), .val (.int vb), .unset, .unset, .unset, .unset, .unset, .unset, .unset] [(.int (16 : Int32)), (.int p5), (.int p4)]))
  refine own_fwd (fun tt kt => XS.ishr X0.here hx rfl (hb hby at_92) rfl kt) ?_
  show own_R p.tables e below P (s₁.setTop (mkF m 93 #[.val (.long p0), .second, .val (.long p1), .second, .val (.long p2), .second, .val (.int p3), .val (.int p4), .val (.int p5), .val (.int (p3 &&& (3 : Int32))), .val (.long spn), .second, .val (.long t1), .second, .val (.long t2), .second, .val (.long t3), .second, .val (.int va), .val (.int vb), .unset, .unset, .unset, .unset, .unset, .unset, .unset] [(.int (p5 >>> ((16 : Int32) &&& 31))), (.int p4)]))
  refine own_fwd (fun tt kt => XS.i2b X0.here hx rfl (hb hby at_93) rfl kt) ?_
  show own_R p.tables e below P (s₁.setTop (mkF m 94 #[.val (.long p0), .second, .val (.long p1), .second, .val (.long p2), .second, .val (.int p3), .val (.int p4), .val (.int p5), .val (.int (p3 &&& (3 : Int32))), .val (.long spn), .second, .val (.long t1), .second, .val (.long t2), .second, .val (.long t3), .second, .val (.int va), .val (.int vb), .unset, .unset, .unset, .unset, .unset, .unset, .unset] [(.int ((p5 >>> ((16 : Int32) &&& 31)).toInt8.toInt32)), (.int p4)]))
  refine own_fwd (fun tt kt => XS.iadd X0.here hx rfl (hb hby at_94) rfl kt) ?_
  show own_R p.tables e below P (s₁.setTop (mkF m 95 #[.val (.long p0), .second, .val (.long p1), .second, .val (.long p2), .second, .val (.int p3), .val (.int p4), .val (.int p5), .val (.int (p3 &&& (3 : Int32))), .val (.long spn), .second, .val (.long t1), .second, .val (.long t2), .second, .val (.long t3), .second, .val (.int va), .val (.int vb), .unset, .unset, .unset, .unset, .unset, .unset, .unset] [(.int (p4 + ((p5 >>> ((16 : Int32) &&& 31)).toInt8.toInt32)))]))
  obtain ⟨vc, hg_vc⟩ : ∃ z, (p4 + ((p5 >>> ((16 : Int32) &&& 31)).toInt8.toInt32)) = z := ⟨_, rfl⟩
  rw [hg_vc]
  show own_R p.tables e below P (s₁.setTop (mkF m 95 #[.val (.long p0), .second, .val (.long p1), .second, .val (.long p2), .second, .val (.int p3), .val (.int p4), .val (.int p5), .val (.int (p3 &&& (3 : Int32))), .val (.long spn), .second, .val (.long t1), .second, .val (.long t2), .second, .val (.long t3), .second, .val (.int va), .val (.int vb), .unset, .unset, .unset, .unset, .unset, .unset, .unset] [(.int vc)]))
  refine own_fwd (fun tt kt => XS.istore X0.here hx rfl (hb hby at_95) rfl (l' := #[.val (.long p0), .second, .val (.long p1), .second, .val (.long p2), .second, .val (.int p3), .val (.int p4), .val (.int p5), .val (.int (p3 &&& (3 : Int32))), .val (.long spn), .second, .val (.long t1), .second, .val (.long t2), .second, .val (.long t3), .second, .val (.int va), .val (.int vb), .val (.int vc), .unset, .unset, .unset, .unset, .unset, .unset]) rfl kt) ?_
  show own_R p.tables e below P (s₁.setTop (mkF m 97 #[.val (.long p0), .second, .val (.long p1), .second, .val (.long p2), .second, .val (.int p3), .val (.int p4), .val (.int p5), .val (.int (p3 &&& (3 : Int32))), .val (.long spn), .second, .val (.long t1), .second, .val (.long t2), .second, .val (.long t3), .second, .val (.int va), .val (.int vb), .val (.int vc), .unset, .unset, .unset, .unset, .unset, .unset] []))
  rcases own_and3 p3 with hs | hs | hs | hs
  · rw [hs]
    show own_R p.tables e below P (s₁.setTop (mkF m 97 #[.val (.long p0), .second, .val (.long p1), .second, .val (.long p2), .second, .val (.int p3), .val (.int p4), .val (.int p5), .val (.int (0 : Int32)), .val (.long spn), .second, .val (.long t1), .second, .val (.long t2), .second, .val (.long t3), .second, .val (.int va), .val (.int vb), .val (.int vc), .unset, .unset, .unset, .unset, .unset, .unset] []))
    obtain ⟨T87, h87, X87, e87, E87, A87, D87, -, st87⟩ := newO X0 hx hZ hown (hw _ (List.mem_of_getElem? (i := 1) rfl)) (hw _ (List.mem_of_getElem? (i := 2) rfl)) (hw _ (List.mem_of_getElem? (i := 3) rfl)) e0 (g := (mkF m 97 #[.val (.long p0), .second, .val (.long p1), .second, .val (.long p2), .second, .val (.int p3), .val (.int p4), .val (.int p5), .val (.int (0 : Int32)), .val (.long spn), .second, .val (.long t1), .second, .val (.long t2), .second, .val (.long t3), .second, .val (.int va), .val (.int vb), .val (.int vc), .unset, .unset, .unset, .unset, .unset, .unset] [])) rfl (hb hby at_97) (by decide) (by decide)
    obtain ⟨b87, g87⟩ : ∃ z, z = h0.size := ⟨_, rfl⟩
    rw [← g87] at A87 D87 st87
    have ge_b87 : n0 ≤ b87 := by rw [g87]; exact Z0
    have sz_b87 : h0.size ≤ b87 := by rw [g87]; exact (Nat.le_refl h0.size)
    have F87_times : Fld Z h87 b87 "com/example/ramp99/ramp99/service/policy/SizeHistory" "times" "[J" .null := D87 (Or.inl (hw _ (List.mem_of_getElem? (i := 12) rfl))) (ty := (.array .long)) (by decide)
    have F87_sizes : Fld Z h87 b87 "com/example/ramp99/ramp99/service/policy/SizeHistory" "sizes" "[I" .null := D87 (Or.inl (hw _ (List.mem_of_getElem? (i := 15) rfl))) (ty := (.array .int)) (by decide)
    have F87_spanNanos : Fld Z h87 b87 "com/example/ramp99/ramp99/service/policy/SizeHistory" "spanNanos" "J" (.long (0 : Int64)) := D87 (Or.inr (hw _ (List.mem_of_getElem? (i := 17) rfl))) (ty := .long) (by decide)
    have F87_before : Fld Z h87 b87 "com/example/ramp99/ramp99/service/policy/SizeHistory" "before" "I" (.int (0 : Int32)) := D87 (Or.inl (hw _ (List.mem_of_getElem? (i := 19) rfl))) (ty := .int) (by decide)
    have F87_count : Fld Z h87 b87 "com/example/ramp99/ramp99/service/policy/SizeHistory" "count" "I" (.int (0 : Int32)) := D87 (Or.inl (hw _ (List.mem_of_getElem? (i := 26) rfl))) (ty := .int) (by decide)
    have F87_first : Fld Z h87 b87 "com/example/ramp99/ramp99/service/policy/SizeHistory" "first" "I" (.int (0 : Int32)) := D87 (Or.inl (hw _ (List.mem_of_getElem? (i := 28) rfl))) (ty := .int) (by decide)
    have Z87 : n0 ≤ h87.size := Nat.le_trans Z0 E87.1
    have Y87 : h0.size ≤ h87.size := Nat.le_trans (Nat.le_refl h0.size) E87.1
    refine own_fwd st87 ?_
    show own_R p.tables e below P (T87.setTop (mkF m 100 #[.val (.long p0), .second, .val (.long p1), .second, .val (.long p2), .second, .val (.int p3), .val (.int p4), .val (.int p5), .val (.int (0 : Int32)), .val (.long spn), .second, .val (.long t1), .second, .val (.long t2), .second, .val (.long t3), .second, .val (.int va), .val (.int vb), .val (.int vc), .unset, .unset, .unset, .unset, .unset, .unset] [(.ref b87)]))
    refine own_fwd (fun tt kt => XS.dup X87.here hx rfl (hb hby at_100) rfl rfl kt) ?_
    show own_R p.tables e below P (T87.setTop (mkF m 101 #[.val (.long p0), .second, .val (.long p1), .second, .val (.long p2), .second, .val (.int p3), .val (.int p4), .val (.int p5), .val (.int (0 : Int32)), .val (.long spn), .second, .val (.long t1), .second, .val (.long t2), .second, .val (.long t3), .second, .val (.int va), .val (.int vb), .val (.int vc), .unset, .unset, .unset, .unset, .unset, .unset] [(.ref b87), (.ref b87)]))
    refine own_fwd (fun tt kt => XS.lload X87.here hx rfl (hb hby at_101) rfl kt) ?_
    show own_R p.tables e below P (T87.setTop (mkF m 103 #[.val (.long p0), .second, .val (.long p1), .second, .val (.long p2), .second, .val (.int p3), .val (.int p4), .val (.int p5), .val (.int (0 : Int32)), .val (.long spn), .second, .val (.long t1), .second, .val (.long t2), .second, .val (.long t3), .second, .val (.int va), .val (.int vb), .val (.int vc), .unset, .unset, .unset, .unset, .unset, .unset] [(.long spn), (.ref b87), (.ref b87)]))
    refine own_fwd (fun tt kt => XS.iload X87.here hx rfl (hb hby at_103) rfl kt) ?_
    show own_R p.tables e below P (T87.setTop (mkF m 105 #[.val (.long p0), .second, .val (.long p1), .second, .val (.long p2), .second, .val (.int p3), .val (.int p4), .val (.int p5), .val (.int (0 : Int32)), .val (.long spn), .second, .val (.long t1), .second, .val (.long t2), .second, .val (.long t3), .second, .val (.int va), .val (.int vb), .val (.int vc), .unset, .unset, .unset, .unset, .unset, .unset] [(.int p4), (.long spn), (.ref b87), (.ref b87)]))
    obtain ⟨_, _, ⟨T88, L88, k88, n88⟩, -, X88, ⟨Lc88, hQ88, l88, y88, z88⟩, st88⟩ := X87.specialBack hx (y := (⟨"com/example/ramp99/ramp99/service/policy/SizeHistory", "<init>", "(JI)V"⟩ : MethodName)) rfl hown (mvT hZ (hw _ (List.mem_of_getElem? (i := 4) rfl))) (mvT hZ (hw _ (List.mem_of_getElem? (i := 5) rfl))) (mvT hZ (hw _ (List.mem_of_getElem? (i := 6) rfl))) (by decide) (backOf (W := 1) (own_rm1 l Z a0 hw [] b87 spn p4 h87 n0 Z87 A87 F87_times F87_sizes F87_spanNanos F87_before F87_first F87_count ge_b87) hZ (hw _ (List.mem_of_getElem? (i := 6) rfl)) (hw _ (List.mem_of_getElem? (i := 3) rfl)) (by decide) (by decide)) (g := (mkF m 105 #[.val (.long p0), .second, .val (.long p1), .second, .val (.long p2), .second, .val (.int p3), .val (.int p4), .val (.int p5), .val (.int (0 : Int32)), .val (.long spn), .second, .val (.long t1), .second, .val (.long t2), .second, .val (.long t3), .second, .val (.int va), .val (.int vb), .val (.int vc), .unset, .unset, .unset, .unset, .unset, .unset] [(.int p4), (.long spn), (.ref b87), (.ref b87)])) rfl (by rw [hml]; rfl) (Steps.refl _) (a := b87) (argsL := [(.long spn), (.int p4)]) (rest := [(.ref b87)]) (lenOf own_pd0 rfl) rfl (by show 2 * 0 + _ ≤ _; exact Nat.le_of_eq rfl) (hb hby at_105) (fun _ _ => ⟨rfl, e87, (by decide : 1 + 2 ≤ _), (by decide : 6 + 32 ≤ _)⟩)
    dsimp only [Pt.U, Pt.locs, Pt.cells, Pt.slots] at X88 l88 y88 z88 st88 hQ88
    subst l88 y88 z88
    obtain ⟨h88, e88⟩ : ∃ z, T88.heap = z := ⟨_, rfl⟩
    rw [e88] at hQ88
    obtain ⟨hq88, N88q, K88, tA, sA, A88_, B88_, szt, szs, nts, E88_, F88a, F88b, F88c, F88d, F88e, F88f⟩ := hQ88
    subst hq88
    have N88 := Fr.app N0 N88q
    have nt_b87 : b87 ≠ tA := Nat.ne_of_lt (Nat.lt_of_lt_of_le A87.lt szt)
    have ns_b87 : b87 ≠ sA := Nat.ne_of_lt (Nat.lt_of_lt_of_le A87.lt szs)
    have get_ : n0 ≤ tA := Nat.le_trans Z87 szt
    have ges_ : n0 ≤ sA := Nat.le_trans Z87 szs
    have A87_x88 := A87.keep K88
    have Z88 : n0 ≤ h88.size := Nat.le_trans Z87 K88.1
    have Y88 : h0.size ≤ h88.size := Nat.le_trans Y87 K88.1
    refine own_trn st88 ?_
    show own_R p.tables e below P (T88.setTop (mkF m 108 #[.val (.long p0), .second, .val (.long p1), .second, .val (.long p2), .second, .val (.int p3), .val (.int p4), .val (.int p5), .val (.int (0 : Int32)), .val (.long spn), .second, .val (.long t1), .second, .val (.long t2), .second, .val (.long t3), .second, .val (.int va), .val (.int vb), .val (.int vc), .unset, .unset, .unset, .unset, .unset, .unset] [(.ref b87)]))
    refine own_fwd (fun tt kt => XS.astore X88.here hx rfl (hb hby at_108) rfl rfl (l' := #[.val (.long p0), .second, .val (.long p1), .second, .val (.long p2), .second, .val (.int p3), .val (.int p4), .val (.int p5), .val (.int (0 : Int32)), .val (.long spn), .second, .val (.long t1), .second, .val (.long t2), .second, .val (.long t3), .second, .val (.int va), .val (.int vb), .val (.int vc), .val (.ref b87), .unset, .unset, .unset, .unset, .unset]) rfl kt) ?_
    show own_R p.tables e below P (T88.setTop (mkF m 110 #[.val (.long p0), .second, .val (.long p1), .second, .val (.long p2), .second, .val (.int p3), .val (.int p4), .val (.int p5), .val (.int (0 : Int32)), .val (.long spn), .second, .val (.long t1), .second, .val (.long t2), .second, .val (.long t3), .second, .val (.int va), .val (.int vb), .val (.int vc), .val (.ref b87), .unset, .unset, .unset, .unset, .unset] []))
    refine own_fwd (fun tt kt => XS.iload X88.here hx rfl (hb hby at_110) rfl kt) ?_
    show own_R p.tables e below P (T88.setTop (mkF m 112 #[.val (.long p0), .second, .val (.long p1), .second, .val (.long p2), .second, .val (.int p3), .val (.int p4), .val (.int p5), .val (.int (0 : Int32)), .val (.long spn), .second, .val (.long t1), .second, .val (.long t2), .second, .val (.long t3), .second, .val (.int va), .val (.int vb), .val (.int vc), .val (.ref b87), .unset, .unset, .unset, .unset, .unset] [(.int (0 : Int32))]))
    refine own_fwd (fun tt kt => XS.iconst X88.here hx rfl (hb hby at_112) kt) ?_
    show own_R p.tables e below P (T88.setTop (mkF m 113 #[.val (.long p0), .second, .val (.long p1), .second, .val (.long p2), .second, .val (.int p3), .val (.int p4), .val (.int p5), .val (.int (0 : Int32)), .val (.long spn), .second, .val (.long t1), .second, .val (.long t2), .second, .val (.long t3), .second, .val (.int va), .val (.int vb), .val (.int vc), .val (.ref b87), .unset, .unset, .unset, .unset, .unset] [(.int (1 : Int32)), (.int (0 : Int32))]))
    have hc89 : (0 : Int32) < (1 : Int32) := (by decide)
    refine own_fwd (fun tt kt => XS.icmpYes X88.here hx rfl (pc0 := 113) (pc' := 125) rfl (hb hby at_113) rfl (tlt hc89).1 (by decide) (by decide) kt) ?_
    show own_R p.tables e below P (T88.setTop (mkF m 125 #[.val (.long p0), .second, .val (.long p1), .second, .val (.long p2), .second, .val (.int p3), .val (.int p4), .val (.int p5), .val (.int (0 : Int32)), .val (.long spn), .second, .val (.long t1), .second, .val (.long t2), .second, .val (.long t3), .second, .val (.int va), .val (.int vb), .val (.int vc), .val (.ref b87), .unset, .unset, .unset, .unset, .unset] []))
    refine own_fwd (fun tt kt => XS.iload X88.here hx rfl (hb hby at_125) rfl kt) ?_
    show own_R p.tables e below P (T88.setTop (mkF m 127 #[.val (.long p0), .second, .val (.long p1), .second, .val (.long p2), .second, .val (.int p3), .val (.int p4), .val (.int p5), .val (.int (0 : Int32)), .val (.long spn), .second, .val (.long t1), .second, .val (.long t2), .second, .val (.long t3), .second, .val (.int va), .val (.int vb), .val (.int vc), .val (.ref b87), .unset, .unset, .unset, .unset, .unset] [(.int (0 : Int32))]))
    refine own_fwd (fun tt kt => XS.iconst X88.here hx rfl (hb hby at_127) kt) ?_
    show own_R p.tables e below P (T88.setTop (mkF m 128 #[.val (.long p0), .second, .val (.long p1), .second, .val (.long p2), .second, .val (.int p3), .val (.int p4), .val (.int p5), .val (.int (0 : Int32)), .val (.long spn), .second, .val (.long t1), .second, .val (.long t2), .second, .val (.long t3), .second, .val (.int va), .val (.int vb), .val (.int vc), .val (.ref b87), .unset, .unset, .unset, .unset, .unset] [(.int (2 : Int32)), (.int (0 : Int32))]))
    have hc90 : (0 : Int32) < (2 : Int32) := (by decide)
    refine own_fwd (fun tt kt => XS.icmpYes X88.here hx rfl (pc0 := 128) (pc' := 140) rfl (hb hby at_128) rfl (tlt hc90).1 (by decide) (by decide) kt) ?_
    show own_R p.tables e below P (T88.setTop (mkF m 140 #[.val (.long p0), .second, .val (.long p1), .second, .val (.long p2), .second, .val (.int p3), .val (.int p4), .val (.int p5), .val (.int (0 : Int32)), .val (.long spn), .second, .val (.long t1), .second, .val (.long t2), .second, .val (.long t3), .second, .val (.int va), .val (.int vb), .val (.int vc), .val (.ref b87), .unset, .unset, .unset, .unset, .unset] []))
    refine own_fwd (fun tt kt => XS.iload X88.here hx rfl (hb hby at_140) rfl kt) ?_
    show own_R p.tables e below P (T88.setTop (mkF m 142 #[.val (.long p0), .second, .val (.long p1), .second, .val (.long p2), .second, .val (.int p3), .val (.int p4), .val (.int p5), .val (.int (0 : Int32)), .val (.long spn), .second, .val (.long t1), .second, .val (.long t2), .second, .val (.long t3), .second, .val (.int va), .val (.int vb), .val (.int vc), .val (.ref b87), .unset, .unset, .unset, .unset, .unset] [(.int (0 : Int32))]))
    refine own_fwd (fun tt kt => XS.iconst X88.here hx rfl (hb hby at_142) kt) ?_
    show own_R p.tables e below P (T88.setTop (mkF m 143 #[.val (.long p0), .second, .val (.long p1), .second, .val (.long p2), .second, .val (.int p3), .val (.int p4), .val (.int p5), .val (.int (0 : Int32)), .val (.long spn), .second, .val (.long t1), .second, .val (.long t2), .second, .val (.long t3), .second, .val (.int va), .val (.int vb), .val (.int vc), .val (.ref b87), .unset, .unset, .unset, .unset, .unset] [(.int (3 : Int32)), (.int (0 : Int32))]))
    have hc91 : (0 : Int32) < (3 : Int32) := (by decide)
    refine own_fwd (fun tt kt => XS.icmpYes X88.here hx rfl (pc0 := 143) (pc' := 155) rfl (hb hby at_143) rfl (tlt hc91).1 (by decide) (by decide) kt) ?_
    show own_R p.tables e below P (T88.setTop (mkF m 155 #[.val (.long p0), .second, .val (.long p1), .second, .val (.long p2), .second, .val (.int p3), .val (.int p4), .val (.int p5), .val (.int (0 : Int32)), .val (.long spn), .second, .val (.long t1), .second, .val (.long t2), .second, .val (.long t3), .second, .val (.int va), .val (.int vb), .val (.int vc), .val (.ref b87), .unset, .unset, .unset, .unset, .unset] []))
    refine own_fwd (fun tt kt => XS.iload X88.here hx rfl (hb hby at_155) rfl kt) ?_
    show own_R p.tables e below P (T88.setTop (mkF m 157 #[.val (.long p0), .second, .val (.long p1), .second, .val (.long p2), .second, .val (.int p3), .val (.int p4), .val (.int p5), .val (.int (0 : Int32)), .val (.long spn), .second, .val (.long t1), .second, .val (.long t2), .second, .val (.long t3), .second, .val (.int va), .val (.int vb), .val (.int vc), .val (.ref b87), .unset, .unset, .unset, .unset, .unset] [(.int (0 : Int32))]))
    refine own_fwd (fun tt kt => XS.iconst X88.here hx rfl (hb hby at_157) kt) ?_
    show own_R p.tables e below P (T88.setTop (mkF m 158 #[.val (.long p0), .second, .val (.long p1), .second, .val (.long p2), .second, .val (.int p3), .val (.int p4), .val (.int p5), .val (.int (0 : Int32)), .val (.long spn), .second, .val (.long t1), .second, .val (.long t2), .second, .val (.long t3), .second, .val (.int va), .val (.int vb), .val (.int vc), .val (.ref b87), .unset, .unset, .unset, .unset, .unset] [(.int (3 : Int32)), (.int (0 : Int32))]))
    have hc92 : ¬ ((0 : Int32) = (3 : Int32)) := (by decide)
    refine own_fwd (fun tt kt => XS.icmpYes X88.here hx rfl (pc0 := 158) (pc' := 166) rfl (hb hby at_158) rfl (feq hc92).2 (by decide) (by decide) kt) ?_
    show own_R p.tables e below P (T88.setTop (mkF m 166 #[.val (.long p0), .second, .val (.long p1), .second, .val (.long p2), .second, .val (.int p3), .val (.int p4), .val (.int p5), .val (.int (0 : Int32)), .val (.long spn), .second, .val (.long t1), .second, .val (.long t2), .second, .val (.long t3), .second, .val (.int va), .val (.int vb), .val (.int vc), .val (.ref b87), .unset, .unset, .unset, .unset, .unset] []))
    refine own_fwd (fun tt kt => XS.iload X88.here hx rfl (hb hby at_166) rfl kt) ?_
    show own_R p.tables e below P (T88.setTop (mkF m 168 #[.val (.long p0), .second, .val (.long p1), .second, .val (.long p2), .second, .val (.int p3), .val (.int p4), .val (.int p5), .val (.int (0 : Int32)), .val (.long spn), .second, .val (.long t1), .second, .val (.long t2), .second, .val (.long t3), .second, .val (.int va), .val (.int vb), .val (.int vc), .val (.ref b87), .unset, .unset, .unset, .unset, .unset] [(.int (0 : Int32))]))
    refine own_fwd (fun tt kt => XS.iconst X88.here hx rfl (hb hby at_168) kt) ?_
    show own_R p.tables e below P (T88.setTop (mkF m 169 #[.val (.long p0), .second, .val (.long p1), .second, .val (.long p2), .second, .val (.int p3), .val (.int p4), .val (.int p5), .val (.int (0 : Int32)), .val (.long spn), .second, .val (.long t1), .second, .val (.long t2), .second, .val (.long t3), .second, .val (.int va), .val (.int vb), .val (.int vc), .val (.ref b87), .unset, .unset, .unset, .unset, .unset] [(.int (2 : Int32)), (.int (0 : Int32))]))
    have hc93 : ¬ ((0 : Int32) = (2 : Int32)) := (by decide)
    refine own_fwd (fun tt kt => XS.icmpYes X88.here hx rfl (pc0 := 169) (pc' := 177) rfl (hb hby at_169) rfl (feq hc93).2 (by decide) (by decide) kt) ?_
    show own_R p.tables e below P (T88.setTop (mkF m 177 #[.val (.long p0), .second, .val (.long p1), .second, .val (.long p2), .second, .val (.int p3), .val (.int p4), .val (.int p5), .val (.int (0 : Int32)), .val (.long spn), .second, .val (.long t1), .second, .val (.long t2), .second, .val (.long t3), .second, .val (.int va), .val (.int vb), .val (.int vc), .val (.ref b87), .unset, .unset, .unset, .unset, .unset] []))
    refine own_fwd (fun tt kt => XS.lload X88.here hx rfl (hb hby at_177) rfl kt) ?_
    show own_R p.tables e below P (T88.setTop (mkF m 179 #[.val (.long p0), .second, .val (.long p1), .second, .val (.long p2), .second, .val (.int p3), .val (.int p4), .val (.int p5), .val (.int (0 : Int32)), .val (.long spn), .second, .val (.long t1), .second, .val (.long t2), .second, .val (.long t3), .second, .val (.int va), .val (.int vb), .val (.int vc), .val (.ref b87), .unset, .unset, .unset, .unset, .unset] [(.long t1)]))
    refine own_fwd (fun tt kt => XS.lstore X88.here hx rfl (hb hby at_179) rfl (l' := #[.val (.long p0), .second, .val (.long p1), .second, .val (.long p2), .second, .val (.int p3), .val (.int p4), .val (.int p5), .val (.int (0 : Int32)), .val (.long spn), .second, .val (.long t1), .second, .val (.long t2), .second, .val (.long t3), .second, .val (.int va), .val (.int vb), .val (.int vc), .val (.ref b87), .val (.long t1), .second, .unset, .unset, .unset]) rfl kt) ?_
    show own_R p.tables e below P (T88.setTop (mkF m 181 #[.val (.long p0), .second, .val (.long p1), .second, .val (.long p2), .second, .val (.int p3), .val (.int p4), .val (.int p5), .val (.int (0 : Int32)), .val (.long spn), .second, .val (.long t1), .second, .val (.long t2), .second, .val (.long t3), .second, .val (.int va), .val (.int vb), .val (.int vc), .val (.ref b87), .val (.long t1), .second, .unset, .unset, .unset] []))
    refine own_fwd (fun tt kt => XS.lload X88.here hx rfl (hb hby at_181) rfl kt) ?_
    show own_R p.tables e below P (T88.setTop (mkF m 183 #[.val (.long p0), .second, .val (.long p1), .second, .val (.long p2), .second, .val (.int p3), .val (.int p4), .val (.int p5), .val (.int (0 : Int32)), .val (.long spn), .second, .val (.long t1), .second, .val (.long t2), .second, .val (.long t3), .second, .val (.int va), .val (.int vb), .val (.int vc), .val (.ref b87), .val (.long t1), .second, .unset, .unset, .unset] [(.long t1)]))
    refine own_fwd (fun tt kt => XS.lload X88.here hx rfl (hb hby at_183) rfl kt) ?_
    show own_R p.tables e below P (T88.setTop (mkF m 185 #[.val (.long p0), .second, .val (.long p1), .second, .val (.long p2), .second, .val (.int p3), .val (.int p4), .val (.int p5), .val (.int (0 : Int32)), .val (.long spn), .second, .val (.long t1), .second, .val (.long t2), .second, .val (.long t3), .second, .val (.int va), .val (.int vb), .val (.int vc), .val (.ref b87), .val (.long t1), .second, .unset, .unset, .unset] [(.long spn), (.long t1)]))
    refine own_fwd (fun tt kt => XS.lsub X88.here hx rfl (hb hby at_185) rfl kt) ?_
    show own_R p.tables e below P (T88.setTop (mkF m 186 #[.val (.long p0), .second, .val (.long p1), .second, .val (.long p2), .second, .val (.int p3), .val (.int p4), .val (.int p5), .val (.int (0 : Int32)), .val (.long spn), .second, .val (.long t1), .second, .val (.long t2), .second, .val (.long t3), .second, .val (.int va), .val (.int vb), .val (.int vc), .val (.ref b87), .val (.long t1), .second, .unset, .unset, .unset] [(.long (t1 - spn))]))
    refine own_fwd (fun tt kt => XS.lload X88.here hx rfl (hb hby at_186) rfl kt) ?_
    show own_R p.tables e below P (T88.setTop (mkF m 188 #[.val (.long p0), .second, .val (.long p1), .second, .val (.long p2), .second, .val (.int p3), .val (.int p4), .val (.int p5), .val (.int (0 : Int32)), .val (.long spn), .second, .val (.long t1), .second, .val (.long t2), .second, .val (.long t3), .second, .val (.int va), .val (.int vb), .val (.int vc), .val (.ref b87), .val (.long t1), .second, .unset, .unset, .unset] [(.long p2), (.long (t1 - spn))]))
    refine own_fwd (fun tt kt => X88.ldc2Long hx hown (mvT hZ (hw _ (List.mem_of_getElem? (i := 0) rfl))) (g := (mkF m 188 #[.val (.long p0), .second, .val (.long p1), .second, .val (.long p2), .second, .val (.int p3), .val (.int p4), .val (.int p5), .val (.int (0 : Int32)), .val (.long spn), .second, .val (.long t1), .second, .val (.long t2), .second, .val (.long t3), .second, .val (.int va), .val (.int vb), .val (.int vc), .val (.ref b87), .val (.long t1), .second, .unset, .unset, .unset] [(.long p2), (.long (t1 - spn))])) rfl (hb hby at_188) tt kt) ?_
    show own_R p.tables e below P (T88.setTop (mkF m 191 #[.val (.long p0), .second, .val (.long p1), .second, .val (.long p2), .second, .val (.int p3), .val (.int p4), .val (.int p5), .val (.int (0 : Int32)), .val (.long spn), .second, .val (.long t1), .second, .val (.long t2), .second, .val (.long t3), .second, .val (.int va), .val (.int vb), .val (.int vc), .val (.ref b87), .val (.long t1), .second, .unset, .unset, .unset] [(.long (4611686018427387903 : Int64)), (.long p2), (.long (t1 - spn))]))
    refine own_fwd (fun tt kt => XS.land X88.here hx rfl (hb hby at_191) rfl kt) ?_
    show own_R p.tables e below P (T88.setTop (mkF m 192 #[.val (.long p0), .second, .val (.long p1), .second, .val (.long p2), .second, .val (.int p3), .val (.int p4), .val (.int p5), .val (.int (0 : Int32)), .val (.long spn), .second, .val (.long t1), .second, .val (.long t2), .second, .val (.long t3), .second, .val (.int va), .val (.int vb), .val (.int vc), .val (.ref b87), .val (.long t1), .second, .unset, .unset, .unset] [(.long (p2 &&& (4611686018427387903 : Int64))), (.long (t1 - spn))]))
    refine own_fwd (fun tt kt => XS.ladd X88.here hx rfl (hb hby at_192) rfl kt) ?_
    show own_R p.tables e below P (T88.setTop (mkF m 193 #[.val (.long p0), .second, .val (.long p1), .second, .val (.long p2), .second, .val (.int p3), .val (.int p4), .val (.int p5), .val (.int (0 : Int32)), .val (.long spn), .second, .val (.long t1), .second, .val (.long t2), .second, .val (.long t3), .second, .val (.int va), .val (.int vb), .val (.int vc), .val (.ref b87), .val (.long t1), .second, .unset, .unset, .unset] [(.long ((t1 - spn) + (p2 &&& (4611686018427387903 : Int64))))]))
    have qb := own_span p2 4611686018427387903 (by decide) (by decide)
    have q1 := own_subL t1 spn (by omega) (by omega) sb1 sb2
    have q2 := own_qry (t1 - spn) (p2 &&& (4611686018427387903 : Int64)) (by omega) (by omega)
    obtain ⟨qq, hg_qq⟩ : ∃ z, ((t1 - spn) + (p2 &&& (4611686018427387903 : Int64))) = z := ⟨_, rfl⟩
    rw [hg_qq]
    show own_R p.tables e below P (T88.setTop (mkF m 193 #[.val (.long p0), .second, .val (.long p1), .second, .val (.long p2), .second, .val (.int p3), .val (.int p4), .val (.int p5), .val (.int (0 : Int32)), .val (.long spn), .second, .val (.long t1), .second, .val (.long t2), .second, .val (.long t3), .second, .val (.int va), .val (.int vb), .val (.int vc), .val (.ref b87), .val (.long t1), .second, .unset, .unset, .unset] [(.long qq)]))
    rw [hg_qq] at q2
    refine own_fwd (fun tt kt => XS.lstore X88.here hx rfl (hb hby at_193) rfl (l' := #[.val (.long p0), .second, .val (.long p1), .second, .val (.long p2), .second, .val (.int p3), .val (.int p4), .val (.int p5), .val (.int (0 : Int32)), .val (.long spn), .second, .val (.long t1), .second, .val (.long t2), .second, .val (.long t3), .second, .val (.int va), .val (.int vb), .val (.int vc), .val (.ref b87), .val (.long t1), .second, .val (.long qq), .second, .unset]) rfl kt) ?_
    show own_R p.tables e below P (T88.setTop (mkF m 195 #[.val (.long p0), .second, .val (.long p1), .second, .val (.long p2), .second, .val (.int p3), .val (.int p4), .val (.int p5), .val (.int (0 : Int32)), .val (.long spn), .second, .val (.long t1), .second, .val (.long t2), .second, .val (.long t3), .second, .val (.int va), .val (.int vb), .val (.int vc), .val (.ref b87), .val (.long t1), .second, .val (.long qq), .second, .unset] []))
    refine own_fwd (fun tt kt => XS.iload X88.here hx rfl (hb hby at_195) rfl kt) ?_
    show own_R p.tables e below P (T88.setTop (mkF m 197 #[.val (.long p0), .second, .val (.long p1), .second, .val (.long p2), .second, .val (.int p3), .val (.int p4), .val (.int p5), .val (.int (0 : Int32)), .val (.long spn), .second, .val (.long t1), .second, .val (.long t2), .second, .val (.long t3), .second, .val (.int va), .val (.int vb), .val (.int vc), .val (.ref b87), .val (.long t1), .second, .val (.long qq), .second, .unset] [(.int p4)]))
    refine own_fwd (fun tt kt => XS.istore X88.here hx rfl (hb hby at_197) rfl (l' := #[.val (.long p0), .second, .val (.long p1), .second, .val (.long p2), .second, .val (.int p3), .val (.int p4), .val (.int p5), .val (.int (0 : Int32)), .val (.long spn), .second, .val (.long t1), .second, .val (.long t2), .second, .val (.long t3), .second, .val (.int va), .val (.int vb), .val (.int vc), .val (.ref b87), .val (.long t1), .second, .val (.long qq), .second, .val (.int p4)]) rfl kt) ?_
    show own_R p.tables e below P (T88.setTop (mkF m 199 #[.val (.long p0), .second, .val (.long p1), .second, .val (.long p2), .second, .val (.int p3), .val (.int p4), .val (.int p5), .val (.int (0 : Int32)), .val (.long spn), .second, .val (.long t1), .second, .val (.long t2), .second, .val (.long t3), .second, .val (.int va), .val (.int vb), .val (.int vc), .val (.ref b87), .val (.long t1), .second, .val (.long qq), .second, .val (.int p4)] []))
    refine own_fwd (fun tt kt => XS.iload X88.here hx rfl (hb hby at_199) rfl kt) ?_
    show own_R p.tables e below P (T88.setTop (mkF m 201 #[.val (.long p0), .second, .val (.long p1), .second, .val (.long p2), .second, .val (.int p3), .val (.int p4), .val (.int p5), .val (.int (0 : Int32)), .val (.long spn), .second, .val (.long t1), .second, .val (.long t2), .second, .val (.long t3), .second, .val (.int va), .val (.int vb), .val (.int vc), .val (.ref b87), .val (.long t1), .second, .val (.long qq), .second, .val (.int p4)] [(.int (0 : Int32))]))
    refine own_fwd (fun tt kt => XS.iconst X88.here hx rfl (hb hby at_201) kt) ?_
    show own_R p.tables e below P (T88.setTop (mkF m 202 #[.val (.long p0), .second, .val (.long p1), .second, .val (.long p2), .second, .val (.int p3), .val (.int p4), .val (.int p5), .val (.int (0 : Int32)), .val (.long spn), .second, .val (.long t1), .second, .val (.long t2), .second, .val (.long t3), .second, .val (.int va), .val (.int vb), .val (.int vc), .val (.ref b87), .val (.long t1), .second, .val (.long qq), .second, .val (.int p4)] [(.int (1 : Int32)), (.int (0 : Int32))]))
    have j97 : ∀ P, own_R p.tables e below P (T88.setTop (mkF m 253 #[.val (.long p0), .second, .val (.long p1), .second, .val (.long p2), .second, .val (.int p3), .val (.int p4), .val (.int p5), .val (.int (0 : Int32)), .val (.long spn), .second, .val (.long t1), .second, .val (.long t2), .second, .val (.long t3), .second, .val (.int va), .val (.int vb), .val (.int vc), .val (.ref b87), .val (.long t1), .second, .val (.long qq), .second, .val (.int p4)] [])) → own_R p.tables e below P (T88.setTop (mkF m 202 #[.val (.long p0), .second, .val (.long p1), .second, .val (.long p2), .second, .val (.int p3), .val (.int p4), .val (.int p5), .val (.int (0 : Int32)), .val (.long spn), .second, .val (.long t1), .second, .val (.long t2), .second, .val (.long t3), .second, .val (.int va), .val (.int vb), .val (.int vc), .val (.ref b87), .val (.long t1), .second, .val (.long qq), .second, .val (.int p4)] [(.int (1 : Int32)), (.int (0 : Int32))])) := by
      intro P k
      have hc94 : (0 : Int32) < (1 : Int32) := (by decide)
      refine own_fwd (fun tt kt => XS.icmpYes X88.here hx rfl (pc0 := 202) (pc' := 217) rfl (hb hby at_202) rfl (tlt hc94).1 (by decide) (by decide) kt) ?_
      show own_R p.tables e below P (T88.setTop (mkF m 217 #[.val (.long p0), .second, .val (.long p1), .second, .val (.long p2), .second, .val (.int p3), .val (.int p4), .val (.int p5), .val (.int (0 : Int32)), .val (.long spn), .second, .val (.long t1), .second, .val (.long t2), .second, .val (.long t3), .second, .val (.int va), .val (.int vb), .val (.int vc), .val (.ref b87), .val (.long t1), .second, .val (.long qq), .second, .val (.int p4)] []))
      refine own_fwd (fun tt kt => XS.iload X88.here hx rfl (hb hby at_217) rfl kt) ?_
      show own_R p.tables e below P (T88.setTop (mkF m 219 #[.val (.long p0), .second, .val (.long p1), .second, .val (.long p2), .second, .val (.int p3), .val (.int p4), .val (.int p5), .val (.int (0 : Int32)), .val (.long spn), .second, .val (.long t1), .second, .val (.long t2), .second, .val (.long t3), .second, .val (.int va), .val (.int vb), .val (.int vc), .val (.ref b87), .val (.long t1), .second, .val (.long qq), .second, .val (.int p4)] [(.int (0 : Int32))]))
      refine own_fwd (fun tt kt => XS.iconst X88.here hx rfl (hb hby at_219) kt) ?_
      show own_R p.tables e below P (T88.setTop (mkF m 220 #[.val (.long p0), .second, .val (.long p1), .second, .val (.long p2), .second, .val (.int p3), .val (.int p4), .val (.int p5), .val (.int (0 : Int32)), .val (.long spn), .second, .val (.long t1), .second, .val (.long t2), .second, .val (.long t3), .second, .val (.int va), .val (.int vb), .val (.int vc), .val (.ref b87), .val (.long t1), .second, .val (.long qq), .second, .val (.int p4)] [(.int (2 : Int32)), (.int (0 : Int32))]))
      have hc95 : (0 : Int32) < (2 : Int32) := (by decide)
      refine own_fwd (fun tt kt => XS.icmpYes X88.here hx rfl (pc0 := 220) (pc' := 235) rfl (hb hby at_220) rfl (tlt hc95).1 (by decide) (by decide) kt) ?_
      show own_R p.tables e below P (T88.setTop (mkF m 235 #[.val (.long p0), .second, .val (.long p1), .second, .val (.long p2), .second, .val (.int p3), .val (.int p4), .val (.int p5), .val (.int (0 : Int32)), .val (.long spn), .second, .val (.long t1), .second, .val (.long t2), .second, .val (.long t3), .second, .val (.int va), .val (.int vb), .val (.int vc), .val (.ref b87), .val (.long t1), .second, .val (.long qq), .second, .val (.int p4)] []))
      refine own_fwd (fun tt kt => XS.iload X88.here hx rfl (hb hby at_235) rfl kt) ?_
      show own_R p.tables e below P (T88.setTop (mkF m 237 #[.val (.long p0), .second, .val (.long p1), .second, .val (.long p2), .second, .val (.int p3), .val (.int p4), .val (.int p5), .val (.int (0 : Int32)), .val (.long spn), .second, .val (.long t1), .second, .val (.long t2), .second, .val (.long t3), .second, .val (.int va), .val (.int vb), .val (.int vc), .val (.ref b87), .val (.long t1), .second, .val (.long qq), .second, .val (.int p4)] [(.int (0 : Int32))]))
      refine own_fwd (fun tt kt => XS.iconst X88.here hx rfl (hb hby at_237) kt) ?_
      show own_R p.tables e below P (T88.setTop (mkF m 238 #[.val (.long p0), .second, .val (.long p1), .second, .val (.long p2), .second, .val (.int p3), .val (.int p4), .val (.int p5), .val (.int (0 : Int32)), .val (.long spn), .second, .val (.long t1), .second, .val (.long t2), .second, .val (.long t3), .second, .val (.int va), .val (.int vb), .val (.int vc), .val (.ref b87), .val (.long t1), .second, .val (.long qq), .second, .val (.int p4)] [(.int (3 : Int32)), (.int (0 : Int32))]))
      have hc96 : (0 : Int32) < (3 : Int32) := (by decide)
      refine own_fwd (fun tt kt => XS.icmpYes X88.here hx rfl (pc0 := 238) (pc' := 253) rfl (hb hby at_238) rfl (tlt hc96).1 (by decide) (by decide) kt) ?_
      show own_R p.tables e below P (T88.setTop (mkF m 253 #[.val (.long p0), .second, .val (.long p1), .second, .val (.long p2), .second, .val (.int p3), .val (.int p4), .val (.int p5), .val (.int (0 : Int32)), .val (.long spn), .second, .val (.long t1), .second, .val (.long t2), .second, .val (.long t3), .second, .val (.int va), .val (.int vb), .val (.int vc), .val (.ref b87), .val (.long t1), .second, .val (.long qq), .second, .val (.int p4)] []))
      exact k
    refine j97 P ?_
    show own_R p.tables e below P (T88.setTop (mkF m 253 #[.val (.long p0), .second, .val (.long p1), .second, .val (.long p2), .second, .val (.int p3), .val (.int p4), .val (.int p5), .val (.int (0 : Int32)), .val (.long spn), .second, .val (.long t1), .second, .val (.long t2), .second, .val (.long t3), .second, .val (.int va), .val (.int vb), .val (.int vc), .val (.ref b87), .val (.long t1), .second, .val (.long qq), .second, .val (.int p4)] []))
    refine own_fwd (fun tt kt => XS.aload X88.here hx rfl (hb hby at_253) rfl rfl kt) ?_
    show own_R p.tables e below P (T88.setTop (mkF m 255 #[.val (.long p0), .second, .val (.long p1), .second, .val (.long p2), .second, .val (.int p3), .val (.int p4), .val (.int p5), .val (.int (0 : Int32)), .val (.long spn), .second, .val (.long t1), .second, .val (.long t2), .second, .val (.long t3), .second, .val (.int va), .val (.int vb), .val (.int vc), .val (.ref b87), .val (.long t1), .second, .val (.long qq), .second, .val (.int p4)] [(.ref b87)]))
    refine own_fwd (fun tt kt => XS.lload X88.here hx rfl (hb hby at_255) rfl kt) ?_
    show own_R p.tables e below P (T88.setTop (mkF m 257 #[.val (.long p0), .second, .val (.long p1), .second, .val (.long p2), .second, .val (.int p3), .val (.int p4), .val (.int p5), .val (.int (0 : Int32)), .val (.long spn), .second, .val (.long t1), .second, .val (.long t2), .second, .val (.long t3), .second, .val (.int va), .val (.int vb), .val (.int vc), .val (.ref b87), .val (.long t1), .second, .val (.long qq), .second, .val (.int p4)] [(.long qq), (.ref b87)]))
    obtain ⟨cq98, kq98, q98a, q98b, q98c⟩ := isOf hZ e88 E88_
    obtain ⟨_, _, ⟨T98, L98, k98, n98⟩, -, X98, ⟨Lc98, hQ98, l98, y98, z98⟩, st98⟩ := X88.virtualBack hx (y := (⟨"com/example/ramp99/ramp99/service/policy/SizeHistory", "at", "(J)I"⟩ : MethodName)) (z := (⟨"com/example/ramp99/ramp99/service/policy/SizeHistory", "at", "(J)I"⟩ : MethodName)) hown (mvT hZ (hw _ (List.mem_of_getElem? (i := 29) rfl))) (mvT hZ (hw _ (List.mem_of_getElem? (i := 30) rfl))) (notFace_of_selects (args := #[]) (mvT hZ (hw _ (List.mem_of_getElem? (i := 32) rfl)))) (mvT hZ (hw _ (List.mem_of_getElem? (i := 32) rfl))) (mvT hZ (hw _ (List.mem_of_getElem? (i := 31) rfl))) (by decide) (backOf (W := 0) (own_rm4 l Z a0 hw [] b87 tA sA qq spn p4 (0 : Int32) (0 : Int32) (fun _ => (0 : Int64)) (fun _ => (0 : Int32)) 0 0 h88 n0 Z88 E88_ F88a F88b F88c F88d F88e F88f A88_ B88_ ge_b87 get_ ges_ nt_b87 ns_b87 nts rfl rfl (by omega) (fun i j a b c => absurd c (by omega))) hZ (hw _ (List.mem_of_getElem? (i := 33) rfl)) (hw _ (List.mem_of_getElem? (i := 3) rfl)) (by decide) (by decide)) q98a q98c (g := (mkF m 257 #[.val (.long p0), .second, .val (.long p1), .second, .val (.long p2), .second, .val (.int p3), .val (.int p4), .val (.int p5), .val (.int (0 : Int32)), .val (.long spn), .second, .val (.long t1), .second, .val (.long t2), .second, .val (.long t3), .second, .val (.int va), .val (.int vb), .val (.int vc), .val (.ref b87), .val (.long t1), .second, .val (.long qq), .second, .val (.int p4)] [(.long qq), (.ref b87)])) rfl (by rw [hml]; rfl) (Steps.refl _) (argsL := [(.long qq)]) (rest := []) (lenOf own_pd1 rfl) rfl (by show 2 * 0 + _ ≤ _; exact Nat.le_of_eq rfl) (hb hby at_257) (fun _ _ => ⟨rfl, e88, (by decide : 3 + 0 ≤ _), (by decide : 38 + 0 ≤ _)⟩)
    dsimp only [Pt.U, Pt.locs, Pt.cells, Pt.slots] at X98 l98 y98 z98 st98 hQ98
    subst l98 y98 z98
    obtain ⟨h98, e98⟩ : ∃ z, T98.heap = z := ⟨_, rfl⟩
    rw [e98] at hQ98
    obtain ⟨rr, hq98, VV, N98q, q98⟩ := hQ98
    rw [q98] at e98
    subst hq98
    have N98 := Fr.app N88 N98q
    refine own_trn st98 ?_
    show own_R p.tables e below P (T98.setTop (mkF m 260 #[.val (.long p0), .second, .val (.long p1), .second, .val (.long p2), .second, .val (.int p3), .val (.int p4), .val (.int p5), .val (.int (0 : Int32)), .val (.long spn), .second, .val (.long t1), .second, .val (.long t2), .second, .val (.long t3), .second, .val (.int va), .val (.int vb), .val (.int vc), .val (.ref b87), .val (.long t1), .second, .val (.long qq), .second, .val (.int p4)] [(.int rr)]))
    refine own_fwd (fun tt kt => XS.iload X98.here hx rfl (hb hby at_260) rfl kt) ?_
    show own_R p.tables e below P (T98.setTop (mkF m 262 #[.val (.long p0), .second, .val (.long p1), .second, .val (.long p2), .second, .val (.int p3), .val (.int p4), .val (.int p5), .val (.int (0 : Int32)), .val (.long spn), .second, .val (.long t1), .second, .val (.long t2), .second, .val (.long t3), .second, .val (.int va), .val (.int vb), .val (.int vc), .val (.ref b87), .val (.long t1), .second, .val (.long qq), .second, .val (.int p4)] [(.int p4), (.int rr)]))
    have hc99 : rr = p4 := by
      obtain ⟨i, -, a2, -, -, e0⟩ := VV
      rw [e0, if_pos (by omega)]
    refine own_fwd (fun tt kt => XS.icmpNo X98.here hx rfl (hb hby at_262) rfl (teq hc99).2 kt) ?_
    show own_R p.tables e below P (T98.setTop (mkF m 265 #[.val (.long p0), .second, .val (.long p1), .second, .val (.long p2), .second, .val (.int p3), .val (.int p4), .val (.int p5), .val (.int (0 : Int32)), .val (.long spn), .second, .val (.long t1), .second, .val (.long t2), .second, .val (.long t3), .second, .val (.int va), .val (.int vb), .val (.int vc), .val (.ref b87), .val (.long t1), .second, .val (.long qq), .second, .val (.int p4)] []))
    refine own_fwd (fun tt kt => XS.iconst X98.here hx rfl (hb hby at_265) kt) ?_
    show own_R p.tables e below P (T98.setTop (mkF m 266 #[.val (.long p0), .second, .val (.long p1), .second, .val (.long p2), .second, .val (.int p3), .val (.int p4), .val (.int p5), .val (.int (0 : Int32)), .val (.long spn), .second, .val (.long t1), .second, .val (.long t2), .second, .val (.long t3), .second, .val (.int va), .val (.int vb), .val (.int vc), .val (.ref b87), .val (.long t1), .second, .val (.long qq), .second, .val (.int p4)] [(.int (1 : Int32))]))
    refine own_fwd (fun tt kt => XS.goto X98.here hx rfl (pc0 := 266) (pc' := 270) rfl (hb hby at_266) (by decide) (by decide) kt) ?_
    show own_R p.tables e below P (T98.setTop (mkF m 270 #[.val (.long p0), .second, .val (.long p1), .second, .val (.long p2), .second, .val (.int p3), .val (.int p4), .val (.int p5), .val (.int (0 : Int32)), .val (.long spn), .second, .val (.long t1), .second, .val (.long t2), .second, .val (.long t3), .second, .val (.int va), .val (.int vb), .val (.int vc), .val (.ref b87), .val (.long t1), .second, .val (.long qq), .second, .val (.int p4)] [(.int (1 : Int32))]))
    obtain ⟨fs100, hr100, hrun100, hended100, hW100, hsame100⟩ := X98.leave (v := some (.int (1 : Int32))) (fun h => by rw [Bd.returns] at h; cases h)
    refine ⟨_, _, X98.ireturnOut hx (w := (1 : Int32)) Bd.returns rfl (by simp) (hb hby at_270) hr100, fin _ _ ⟨hrun100, hended100, _, _, rfl, ?_, ⟨_, rfl⟩, hW100, hsame100.mono (by decide) (by decide)⟩⟩
    show own_Qlaw Z p0 p1 p2 p3 p4 p5 h0 n0 _ T98.heap _
    rw [e98]
    exact ⟨rfl, N98⟩
  · rw [hs]
    show own_R p.tables e below P (s₁.setTop (mkF m 97 #[.val (.long p0), .second, .val (.long p1), .second, .val (.long p2), .second, .val (.int p3), .val (.int p4), .val (.int p5), .val (.int (1 : Int32)), .val (.long spn), .second, .val (.long t1), .second, .val (.long t2), .second, .val (.long t3), .second, .val (.int va), .val (.int vb), .val (.int vc), .unset, .unset, .unset, .unset, .unset, .unset] []))
    obtain ⟨T101, h101, X101, e101, E101, A101, D101, -, st101⟩ := newO X0 hx hZ hown (hw _ (List.mem_of_getElem? (i := 1) rfl)) (hw _ (List.mem_of_getElem? (i := 2) rfl)) (hw _ (List.mem_of_getElem? (i := 3) rfl)) e0 (g := (mkF m 97 #[.val (.long p0), .second, .val (.long p1), .second, .val (.long p2), .second, .val (.int p3), .val (.int p4), .val (.int p5), .val (.int (1 : Int32)), .val (.long spn), .second, .val (.long t1), .second, .val (.long t2), .second, .val (.long t3), .second, .val (.int va), .val (.int vb), .val (.int vc), .unset, .unset, .unset, .unset, .unset, .unset] [])) rfl (hb hby at_97) (by decide) (by decide)
    obtain ⟨b101, g101⟩ : ∃ z, z = h0.size := ⟨_, rfl⟩
    rw [← g101] at A101 D101 st101
    have ge_b101 : n0 ≤ b101 := by rw [g101]; exact Z0
    have sz_b101 : h0.size ≤ b101 := by rw [g101]; exact (Nat.le_refl h0.size)
    have F101_times : Fld Z h101 b101 "com/example/ramp99/ramp99/service/policy/SizeHistory" "times" "[J" .null := D101 (Or.inl (hw _ (List.mem_of_getElem? (i := 12) rfl))) (ty := (.array .long)) (by decide)
    have F101_sizes : Fld Z h101 b101 "com/example/ramp99/ramp99/service/policy/SizeHistory" "sizes" "[I" .null := D101 (Or.inl (hw _ (List.mem_of_getElem? (i := 15) rfl))) (ty := (.array .int)) (by decide)
    have F101_spanNanos : Fld Z h101 b101 "com/example/ramp99/ramp99/service/policy/SizeHistory" "spanNanos" "J" (.long (0 : Int64)) := D101 (Or.inr (hw _ (List.mem_of_getElem? (i := 17) rfl))) (ty := .long) (by decide)
    have F101_before : Fld Z h101 b101 "com/example/ramp99/ramp99/service/policy/SizeHistory" "before" "I" (.int (0 : Int32)) := D101 (Or.inl (hw _ (List.mem_of_getElem? (i := 19) rfl))) (ty := .int) (by decide)
    have F101_count : Fld Z h101 b101 "com/example/ramp99/ramp99/service/policy/SizeHistory" "count" "I" (.int (0 : Int32)) := D101 (Or.inl (hw _ (List.mem_of_getElem? (i := 26) rfl))) (ty := .int) (by decide)
    have F101_first : Fld Z h101 b101 "com/example/ramp99/ramp99/service/policy/SizeHistory" "first" "I" (.int (0 : Int32)) := D101 (Or.inl (hw _ (List.mem_of_getElem? (i := 28) rfl))) (ty := .int) (by decide)
    have Z101 : n0 ≤ h101.size := Nat.le_trans Z0 E101.1
    have Y101 : h0.size ≤ h101.size := Nat.le_trans (Nat.le_refl h0.size) E101.1
    refine own_fwd st101 ?_
    show own_R p.tables e below P (T101.setTop (mkF m 100 #[.val (.long p0), .second, .val (.long p1), .second, .val (.long p2), .second, .val (.int p3), .val (.int p4), .val (.int p5), .val (.int (1 : Int32)), .val (.long spn), .second, .val (.long t1), .second, .val (.long t2), .second, .val (.long t3), .second, .val (.int va), .val (.int vb), .val (.int vc), .unset, .unset, .unset, .unset, .unset, .unset] [(.ref b101)]))
    refine own_fwd (fun tt kt => XS.dup X101.here hx rfl (hb hby at_100) rfl rfl kt) ?_
    show own_R p.tables e below P (T101.setTop (mkF m 101 #[.val (.long p0), .second, .val (.long p1), .second, .val (.long p2), .second, .val (.int p3), .val (.int p4), .val (.int p5), .val (.int (1 : Int32)), .val (.long spn), .second, .val (.long t1), .second, .val (.long t2), .second, .val (.long t3), .second, .val (.int va), .val (.int vb), .val (.int vc), .unset, .unset, .unset, .unset, .unset, .unset] [(.ref b101), (.ref b101)]))
    refine own_fwd (fun tt kt => XS.lload X101.here hx rfl (hb hby at_101) rfl kt) ?_
    show own_R p.tables e below P (T101.setTop (mkF m 103 #[.val (.long p0), .second, .val (.long p1), .second, .val (.long p2), .second, .val (.int p3), .val (.int p4), .val (.int p5), .val (.int (1 : Int32)), .val (.long spn), .second, .val (.long t1), .second, .val (.long t2), .second, .val (.long t3), .second, .val (.int va), .val (.int vb), .val (.int vc), .unset, .unset, .unset, .unset, .unset, .unset] [(.long spn), (.ref b101), (.ref b101)]))
    refine own_fwd (fun tt kt => XS.iload X101.here hx rfl (hb hby at_103) rfl kt) ?_
    show own_R p.tables e below P (T101.setTop (mkF m 105 #[.val (.long p0), .second, .val (.long p1), .second, .val (.long p2), .second, .val (.int p3), .val (.int p4), .val (.int p5), .val (.int (1 : Int32)), .val (.long spn), .second, .val (.long t1), .second, .val (.long t2), .second, .val (.long t3), .second, .val (.int va), .val (.int vb), .val (.int vc), .unset, .unset, .unset, .unset, .unset, .unset] [(.int p4), (.long spn), (.ref b101), (.ref b101)]))
    obtain ⟨_, _, ⟨T102, L102, k102, n102⟩, -, X102, ⟨Lc102, hQ102, l102, y102, z102⟩, st102⟩ := X101.specialBack hx (y := (⟨"com/example/ramp99/ramp99/service/policy/SizeHistory", "<init>", "(JI)V"⟩ : MethodName)) rfl hown (mvT hZ (hw _ (List.mem_of_getElem? (i := 4) rfl))) (mvT hZ (hw _ (List.mem_of_getElem? (i := 5) rfl))) (mvT hZ (hw _ (List.mem_of_getElem? (i := 6) rfl))) (by decide) (backOf (W := 1) (own_rm1 l Z a0 hw [] b101 spn p4 h101 n0 Z101 A101 F101_times F101_sizes F101_spanNanos F101_before F101_first F101_count ge_b101) hZ (hw _ (List.mem_of_getElem? (i := 6) rfl)) (hw _ (List.mem_of_getElem? (i := 3) rfl)) (by decide) (by decide)) (g := (mkF m 105 #[.val (.long p0), .second, .val (.long p1), .second, .val (.long p2), .second, .val (.int p3), .val (.int p4), .val (.int p5), .val (.int (1 : Int32)), .val (.long spn), .second, .val (.long t1), .second, .val (.long t2), .second, .val (.long t3), .second, .val (.int va), .val (.int vb), .val (.int vc), .unset, .unset, .unset, .unset, .unset, .unset] [(.int p4), (.long spn), (.ref b101), (.ref b101)])) rfl (by rw [hml]; rfl) (Steps.refl _) (a := b101) (argsL := [(.long spn), (.int p4)]) (rest := [(.ref b101)]) (lenOf own_pd0 rfl) rfl (by show 2 * 0 + _ ≤ _; exact Nat.le_of_eq rfl) (hb hby at_105) (fun _ _ => ⟨rfl, e101, (by decide : 1 + 2 ≤ _), (by decide : 6 + 32 ≤ _)⟩)
    dsimp only [Pt.U, Pt.locs, Pt.cells, Pt.slots] at X102 l102 y102 z102 st102 hQ102
    subst l102 y102 z102
    obtain ⟨h102, e102⟩ : ∃ z, T102.heap = z := ⟨_, rfl⟩
    rw [e102] at hQ102
    obtain ⟨hq102, N102q, K102, tA, sA, A102_, B102_, szt, szs, nts, E102_, F102a, F102b, F102c, F102d, F102e, F102f⟩ := hQ102
    subst hq102
    have N102 := Fr.app N0 N102q
    have nt_b101 : b101 ≠ tA := Nat.ne_of_lt (Nat.lt_of_lt_of_le A101.lt szt)
    have ns_b101 : b101 ≠ sA := Nat.ne_of_lt (Nat.lt_of_lt_of_le A101.lt szs)
    have get_ : n0 ≤ tA := Nat.le_trans Z101 szt
    have ges_ : n0 ≤ sA := Nat.le_trans Z101 szs
    have A101_x102 := A101.keep K102
    have Z102 : n0 ≤ h102.size := Nat.le_trans Z101 K102.1
    have Y102 : h0.size ≤ h102.size := Nat.le_trans Y101 K102.1
    refine own_trn st102 ?_
    show own_R p.tables e below P (T102.setTop (mkF m 108 #[.val (.long p0), .second, .val (.long p1), .second, .val (.long p2), .second, .val (.int p3), .val (.int p4), .val (.int p5), .val (.int (1 : Int32)), .val (.long spn), .second, .val (.long t1), .second, .val (.long t2), .second, .val (.long t3), .second, .val (.int va), .val (.int vb), .val (.int vc), .unset, .unset, .unset, .unset, .unset, .unset] [(.ref b101)]))
    refine own_fwd (fun tt kt => XS.astore X102.here hx rfl (hb hby at_108) rfl rfl (l' := #[.val (.long p0), .second, .val (.long p1), .second, .val (.long p2), .second, .val (.int p3), .val (.int p4), .val (.int p5), .val (.int (1 : Int32)), .val (.long spn), .second, .val (.long t1), .second, .val (.long t2), .second, .val (.long t3), .second, .val (.int va), .val (.int vb), .val (.int vc), .val (.ref b101), .unset, .unset, .unset, .unset, .unset]) rfl kt) ?_
    show own_R p.tables e below P (T102.setTop (mkF m 110 #[.val (.long p0), .second, .val (.long p1), .second, .val (.long p2), .second, .val (.int p3), .val (.int p4), .val (.int p5), .val (.int (1 : Int32)), .val (.long spn), .second, .val (.long t1), .second, .val (.long t2), .second, .val (.long t3), .second, .val (.int va), .val (.int vb), .val (.int vc), .val (.ref b101), .unset, .unset, .unset, .unset, .unset] []))
    refine own_fwd (fun tt kt => XS.iload X102.here hx rfl (hb hby at_110) rfl kt) ?_
    show own_R p.tables e below P (T102.setTop (mkF m 112 #[.val (.long p0), .second, .val (.long p1), .second, .val (.long p2), .second, .val (.int p3), .val (.int p4), .val (.int p5), .val (.int (1 : Int32)), .val (.long spn), .second, .val (.long t1), .second, .val (.long t2), .second, .val (.long t3), .second, .val (.int va), .val (.int vb), .val (.int vc), .val (.ref b101), .unset, .unset, .unset, .unset, .unset] [(.int (1 : Int32))]))
    refine own_fwd (fun tt kt => XS.iconst X102.here hx rfl (hb hby at_112) kt) ?_
    show own_R p.tables e below P (T102.setTop (mkF m 113 #[.val (.long p0), .second, .val (.long p1), .second, .val (.long p2), .second, .val (.int p3), .val (.int p4), .val (.int p5), .val (.int (1 : Int32)), .val (.long spn), .second, .val (.long t1), .second, .val (.long t2), .second, .val (.long t3), .second, .val (.int va), .val (.int vb), .val (.int vc), .val (.ref b101), .unset, .unset, .unset, .unset, .unset] [(.int (1 : Int32)), (.int (1 : Int32))]))
    have hc103 : ¬ ((1 : Int32) < (1 : Int32)) := (by decide)
    refine own_fwd (fun tt kt => XS.icmpNo X102.here hx rfl (hb hby at_113) rfl (flt hc103).1 kt) ?_
    show own_R p.tables e below P (T102.setTop (mkF m 116 #[.val (.long p0), .second, .val (.long p1), .second, .val (.long p2), .second, .val (.int p3), .val (.int p4), .val (.int p5), .val (.int (1 : Int32)), .val (.long spn), .second, .val (.long t1), .second, .val (.long t2), .second, .val (.long t3), .second, .val (.int va), .val (.int vb), .val (.int vc), .val (.ref b101), .unset, .unset, .unset, .unset, .unset] []))
    refine own_fwd (fun tt kt => XS.aload X102.here hx rfl (hb hby at_116) rfl rfl kt) ?_
    show own_R p.tables e below P (T102.setTop (mkF m 118 #[.val (.long p0), .second, .val (.long p1), .second, .val (.long p2), .second, .val (.int p3), .val (.int p4), .val (.int p5), .val (.int (1 : Int32)), .val (.long spn), .second, .val (.long t1), .second, .val (.long t2), .second, .val (.long t3), .second, .val (.int va), .val (.int vb), .val (.int vc), .val (.ref b101), .unset, .unset, .unset, .unset, .unset] [(.ref b101)]))
    refine own_fwd (fun tt kt => XS.lload X102.here hx rfl (hb hby at_118) rfl kt) ?_
    show own_R p.tables e below P (T102.setTop (mkF m 120 #[.val (.long p0), .second, .val (.long p1), .second, .val (.long p2), .second, .val (.int p3), .val (.int p4), .val (.int p5), .val (.int (1 : Int32)), .val (.long spn), .second, .val (.long t1), .second, .val (.long t2), .second, .val (.long t3), .second, .val (.int va), .val (.int vb), .val (.int vc), .val (.ref b101), .unset, .unset, .unset, .unset, .unset] [(.long t1), (.ref b101)]))
    refine own_fwd (fun tt kt => XS.iload X102.here hx rfl (hb hby at_120) rfl kt) ?_
    show own_R p.tables e below P (T102.setTop (mkF m 122 #[.val (.long p0), .second, .val (.long p1), .second, .val (.long p2), .second, .val (.int p3), .val (.int p4), .val (.int p5), .val (.int (1 : Int32)), .val (.long spn), .second, .val (.long t1), .second, .val (.long t2), .second, .val (.long t3), .second, .val (.int va), .val (.int vb), .val (.int vc), .val (.ref b101), .unset, .unset, .unset, .unset, .unset] [(.int va), (.long t1), (.ref b101)]))
    obtain ⟨cq104, kq104, q104a, q104b, q104c⟩ := isOf hZ e102 E102_
    obtain ⟨_, _, ⟨T104, L104, k104, n104⟩, -, X104, ⟨Lc104, hQ104, l104, y104, z104⟩, st104⟩ := X102.virtualBack hx (y := (⟨"com/example/ramp99/ramp99/service/policy/SizeHistory", "add", "(JI)V"⟩ : MethodName)) (z := (⟨"com/example/ramp99/ramp99/service/policy/SizeHistory", "add", "(JI)V"⟩ : MethodName)) hown (mvT hZ (hw _ (List.mem_of_getElem? (i := 20) rfl))) (mvT hZ (hw _ (List.mem_of_getElem? (i := 21) rfl))) (notFace_of_selects (args := #[]) (mvT hZ (hw _ (List.mem_of_getElem? (i := 23) rfl)))) (mvT hZ (hw _ (List.mem_of_getElem? (i := 23) rfl))) (mvT hZ (hw _ (List.mem_of_getElem? (i := 22) rfl))) (by decide) (backOf (W := 0) (own_rm3 l Z a0 hw [] b101 tA sA t1 spn va p4 (0 : Int32) (0 : Int32) (fun _ => (0 : Int64)) (fun _ => (0 : Int32)) 0 0 h102 n0 Z102 E102_ F102a F102b F102c F102d F102e F102f A102_ B102_ ge_b101 get_ ges_ nt_b101 ns_b101 nts rfl rfl (by omega) (fun i j a b c => absurd c (by omega)) (fun j a b => absurd b (by omega)) (own_subL _ _ (by omega) (by omega) sb1 sb2)) hZ (hw _ (List.mem_of_getElem? (i := 24) rfl)) (hw _ (List.mem_of_getElem? (i := 3) rfl)) (by decide) (by decide)) q104a q104c (g := (mkF m 122 #[.val (.long p0), .second, .val (.long p1), .second, .val (.long p2), .second, .val (.int p3), .val (.int p4), .val (.int p5), .val (.int (1 : Int32)), .val (.long spn), .second, .val (.long t1), .second, .val (.long t2), .second, .val (.long t3), .second, .val (.int va), .val (.int vb), .val (.int vc), .val (.ref b101), .unset, .unset, .unset, .unset, .unset] [(.int va), (.long t1), (.ref b101)])) rfl (by rw [hml]; rfl) (Steps.refl _) (argsL := [(.long t1), (.int va)]) (rest := []) (lenOf own_pd0 rfl) rfl (by show 2 * 0 + _ ≤ _; exact Nat.le_of_eq rfl) (hb hby at_122) (fun _ _ => ⟨rfl, e102, (by decide : 3 + 0 ≤ _), (by decide : 38 + 0 ≤ _)⟩)
    dsimp only [Pt.U, Pt.locs, Pt.cells, Pt.slots] at X104 l104 y104 z104 st104 hQ104
    subst l104 y104 z104
    obtain ⟨h104, e104⟩ : ∃ z, T104.heap = z := ⟨_, rfl⟩
    rw [e104] at hQ104
    obtain ⟨hq104, N104q, K104, F1, K1_, fi1, ct1, bf1, ft1, fs1, A104_, B104_, hF1, hK1, bd1, asc1, le1, val1, E104_, F104a, F104b, F104c, F104d, F104e, F104f⟩ := hQ104
    subst hq104
    have N104 := Fr.app N102 N104q
    have E102__x104 := E102_.keep K104
    have Z104 : n0 ≤ h104.size := Nat.le_trans Z102 K104.1
    have Y104 : h0.size ≤ h104.size := Nat.le_trans Y102 K104.1
    refine own_trn st104 ?_
    show own_R p.tables e below P (T104.setTop (mkF m 125 #[.val (.long p0), .second, .val (.long p1), .second, .val (.long p2), .second, .val (.int p3), .val (.int p4), .val (.int p5), .val (.int (1 : Int32)), .val (.long spn), .second, .val (.long t1), .second, .val (.long t2), .second, .val (.long t3), .second, .val (.int va), .val (.int vb), .val (.int vc), .val (.ref b101), .unset, .unset, .unset, .unset, .unset] []))
    refine own_fwd (fun tt kt => XS.iload X104.here hx rfl (hb hby at_125) rfl kt) ?_
    show own_R p.tables e below P (T104.setTop (mkF m 127 #[.val (.long p0), .second, .val (.long p1), .second, .val (.long p2), .second, .val (.int p3), .val (.int p4), .val (.int p5), .val (.int (1 : Int32)), .val (.long spn), .second, .val (.long t1), .second, .val (.long t2), .second, .val (.long t3), .second, .val (.int va), .val (.int vb), .val (.int vc), .val (.ref b101), .unset, .unset, .unset, .unset, .unset] [(.int (1 : Int32))]))
    refine own_fwd (fun tt kt => XS.iconst X104.here hx rfl (hb hby at_127) kt) ?_
    show own_R p.tables e below P (T104.setTop (mkF m 128 #[.val (.long p0), .second, .val (.long p1), .second, .val (.long p2), .second, .val (.int p3), .val (.int p4), .val (.int p5), .val (.int (1 : Int32)), .val (.long spn), .second, .val (.long t1), .second, .val (.long t2), .second, .val (.long t3), .second, .val (.int va), .val (.int vb), .val (.int vc), .val (.ref b101), .unset, .unset, .unset, .unset, .unset] [(.int (2 : Int32)), (.int (1 : Int32))]))
    have hc105 : (1 : Int32) < (2 : Int32) := (by decide)
    refine own_fwd (fun tt kt => XS.icmpYes X104.here hx rfl (pc0 := 128) (pc' := 140) rfl (hb hby at_128) rfl (tlt hc105).1 (by decide) (by decide) kt) ?_
    show own_R p.tables e below P (T104.setTop (mkF m 140 #[.val (.long p0), .second, .val (.long p1), .second, .val (.long p2), .second, .val (.int p3), .val (.int p4), .val (.int p5), .val (.int (1 : Int32)), .val (.long spn), .second, .val (.long t1), .second, .val (.long t2), .second, .val (.long t3), .second, .val (.int va), .val (.int vb), .val (.int vc), .val (.ref b101), .unset, .unset, .unset, .unset, .unset] []))
    refine own_fwd (fun tt kt => XS.iload X104.here hx rfl (hb hby at_140) rfl kt) ?_
    show own_R p.tables e below P (T104.setTop (mkF m 142 #[.val (.long p0), .second, .val (.long p1), .second, .val (.long p2), .second, .val (.int p3), .val (.int p4), .val (.int p5), .val (.int (1 : Int32)), .val (.long spn), .second, .val (.long t1), .second, .val (.long t2), .second, .val (.long t3), .second, .val (.int va), .val (.int vb), .val (.int vc), .val (.ref b101), .unset, .unset, .unset, .unset, .unset] [(.int (1 : Int32))]))
    refine own_fwd (fun tt kt => XS.iconst X104.here hx rfl (hb hby at_142) kt) ?_
    show own_R p.tables e below P (T104.setTop (mkF m 143 #[.val (.long p0), .second, .val (.long p1), .second, .val (.long p2), .second, .val (.int p3), .val (.int p4), .val (.int p5), .val (.int (1 : Int32)), .val (.long spn), .second, .val (.long t1), .second, .val (.long t2), .second, .val (.long t3), .second, .val (.int va), .val (.int vb), .val (.int vc), .val (.ref b101), .unset, .unset, .unset, .unset, .unset] [(.int (3 : Int32)), (.int (1 : Int32))]))
    have hc106 : (1 : Int32) < (3 : Int32) := (by decide)
    refine own_fwd (fun tt kt => XS.icmpYes X104.here hx rfl (pc0 := 143) (pc' := 155) rfl (hb hby at_143) rfl (tlt hc106).1 (by decide) (by decide) kt) ?_
    show own_R p.tables e below P (T104.setTop (mkF m 155 #[.val (.long p0), .second, .val (.long p1), .second, .val (.long p2), .second, .val (.int p3), .val (.int p4), .val (.int p5), .val (.int (1 : Int32)), .val (.long spn), .second, .val (.long t1), .second, .val (.long t2), .second, .val (.long t3), .second, .val (.int va), .val (.int vb), .val (.int vc), .val (.ref b101), .unset, .unset, .unset, .unset, .unset] []))
    refine own_fwd (fun tt kt => XS.iload X104.here hx rfl (hb hby at_155) rfl kt) ?_
    show own_R p.tables e below P (T104.setTop (mkF m 157 #[.val (.long p0), .second, .val (.long p1), .second, .val (.long p2), .second, .val (.int p3), .val (.int p4), .val (.int p5), .val (.int (1 : Int32)), .val (.long spn), .second, .val (.long t1), .second, .val (.long t2), .second, .val (.long t3), .second, .val (.int va), .val (.int vb), .val (.int vc), .val (.ref b101), .unset, .unset, .unset, .unset, .unset] [(.int (1 : Int32))]))
    refine own_fwd (fun tt kt => XS.iconst X104.here hx rfl (hb hby at_157) kt) ?_
    show own_R p.tables e below P (T104.setTop (mkF m 158 #[.val (.long p0), .second, .val (.long p1), .second, .val (.long p2), .second, .val (.int p3), .val (.int p4), .val (.int p5), .val (.int (1 : Int32)), .val (.long spn), .second, .val (.long t1), .second, .val (.long t2), .second, .val (.long t3), .second, .val (.int va), .val (.int vb), .val (.int vc), .val (.ref b101), .unset, .unset, .unset, .unset, .unset] [(.int (3 : Int32)), (.int (1 : Int32))]))
    have hc107 : ¬ ((1 : Int32) = (3 : Int32)) := (by decide)
    refine own_fwd (fun tt kt => XS.icmpYes X104.here hx rfl (pc0 := 158) (pc' := 166) rfl (hb hby at_158) rfl (feq hc107).2 (by decide) (by decide) kt) ?_
    show own_R p.tables e below P (T104.setTop (mkF m 166 #[.val (.long p0), .second, .val (.long p1), .second, .val (.long p2), .second, .val (.int p3), .val (.int p4), .val (.int p5), .val (.int (1 : Int32)), .val (.long spn), .second, .val (.long t1), .second, .val (.long t2), .second, .val (.long t3), .second, .val (.int va), .val (.int vb), .val (.int vc), .val (.ref b101), .unset, .unset, .unset, .unset, .unset] []))
    refine own_fwd (fun tt kt => XS.iload X104.here hx rfl (hb hby at_166) rfl kt) ?_
    show own_R p.tables e below P (T104.setTop (mkF m 168 #[.val (.long p0), .second, .val (.long p1), .second, .val (.long p2), .second, .val (.int p3), .val (.int p4), .val (.int p5), .val (.int (1 : Int32)), .val (.long spn), .second, .val (.long t1), .second, .val (.long t2), .second, .val (.long t3), .second, .val (.int va), .val (.int vb), .val (.int vc), .val (.ref b101), .unset, .unset, .unset, .unset, .unset] [(.int (1 : Int32))]))
    refine own_fwd (fun tt kt => XS.iconst X104.here hx rfl (hb hby at_168) kt) ?_
    show own_R p.tables e below P (T104.setTop (mkF m 169 #[.val (.long p0), .second, .val (.long p1), .second, .val (.long p2), .second, .val (.int p3), .val (.int p4), .val (.int p5), .val (.int (1 : Int32)), .val (.long spn), .second, .val (.long t1), .second, .val (.long t2), .second, .val (.long t3), .second, .val (.int va), .val (.int vb), .val (.int vc), .val (.ref b101), .unset, .unset, .unset, .unset, .unset] [(.int (2 : Int32)), (.int (1 : Int32))]))
    have hc108 : ¬ ((1 : Int32) = (2 : Int32)) := (by decide)
    refine own_fwd (fun tt kt => XS.icmpYes X104.here hx rfl (pc0 := 169) (pc' := 177) rfl (hb hby at_169) rfl (feq hc108).2 (by decide) (by decide) kt) ?_
    show own_R p.tables e below P (T104.setTop (mkF m 177 #[.val (.long p0), .second, .val (.long p1), .second, .val (.long p2), .second, .val (.int p3), .val (.int p4), .val (.int p5), .val (.int (1 : Int32)), .val (.long spn), .second, .val (.long t1), .second, .val (.long t2), .second, .val (.long t3), .second, .val (.int va), .val (.int vb), .val (.int vc), .val (.ref b101), .unset, .unset, .unset, .unset, .unset] []))
    refine own_fwd (fun tt kt => XS.lload X104.here hx rfl (hb hby at_177) rfl kt) ?_
    show own_R p.tables e below P (T104.setTop (mkF m 179 #[.val (.long p0), .second, .val (.long p1), .second, .val (.long p2), .second, .val (.int p3), .val (.int p4), .val (.int p5), .val (.int (1 : Int32)), .val (.long spn), .second, .val (.long t1), .second, .val (.long t2), .second, .val (.long t3), .second, .val (.int va), .val (.int vb), .val (.int vc), .val (.ref b101), .unset, .unset, .unset, .unset, .unset] [(.long t1)]))
    refine own_fwd (fun tt kt => XS.lstore X104.here hx rfl (hb hby at_179) rfl (l' := #[.val (.long p0), .second, .val (.long p1), .second, .val (.long p2), .second, .val (.int p3), .val (.int p4), .val (.int p5), .val (.int (1 : Int32)), .val (.long spn), .second, .val (.long t1), .second, .val (.long t2), .second, .val (.long t3), .second, .val (.int va), .val (.int vb), .val (.int vc), .val (.ref b101), .val (.long t1), .second, .unset, .unset, .unset]) rfl kt) ?_
    show own_R p.tables e below P (T104.setTop (mkF m 181 #[.val (.long p0), .second, .val (.long p1), .second, .val (.long p2), .second, .val (.int p3), .val (.int p4), .val (.int p5), .val (.int (1 : Int32)), .val (.long spn), .second, .val (.long t1), .second, .val (.long t2), .second, .val (.long t3), .second, .val (.int va), .val (.int vb), .val (.int vc), .val (.ref b101), .val (.long t1), .second, .unset, .unset, .unset] []))
    refine own_fwd (fun tt kt => XS.lload X104.here hx rfl (hb hby at_181) rfl kt) ?_
    show own_R p.tables e below P (T104.setTop (mkF m 183 #[.val (.long p0), .second, .val (.long p1), .second, .val (.long p2), .second, .val (.int p3), .val (.int p4), .val (.int p5), .val (.int (1 : Int32)), .val (.long spn), .second, .val (.long t1), .second, .val (.long t2), .second, .val (.long t3), .second, .val (.int va), .val (.int vb), .val (.int vc), .val (.ref b101), .val (.long t1), .second, .unset, .unset, .unset] [(.long t1)]))
    refine own_fwd (fun tt kt => XS.lload X104.here hx rfl (hb hby at_183) rfl kt) ?_
    show own_R p.tables e below P (T104.setTop (mkF m 185 #[.val (.long p0), .second, .val (.long p1), .second, .val (.long p2), .second, .val (.int p3), .val (.int p4), .val (.int p5), .val (.int (1 : Int32)), .val (.long spn), .second, .val (.long t1), .second, .val (.long t2), .second, .val (.long t3), .second, .val (.int va), .val (.int vb), .val (.int vc), .val (.ref b101), .val (.long t1), .second, .unset, .unset, .unset] [(.long spn), (.long t1)]))
    refine own_fwd (fun tt kt => XS.lsub X104.here hx rfl (hb hby at_185) rfl kt) ?_
    show own_R p.tables e below P (T104.setTop (mkF m 186 #[.val (.long p0), .second, .val (.long p1), .second, .val (.long p2), .second, .val (.int p3), .val (.int p4), .val (.int p5), .val (.int (1 : Int32)), .val (.long spn), .second, .val (.long t1), .second, .val (.long t2), .second, .val (.long t3), .second, .val (.int va), .val (.int vb), .val (.int vc), .val (.ref b101), .val (.long t1), .second, .unset, .unset, .unset] [(.long (t1 - spn))]))
    refine own_fwd (fun tt kt => XS.lload X104.here hx rfl (hb hby at_186) rfl kt) ?_
    show own_R p.tables e below P (T104.setTop (mkF m 188 #[.val (.long p0), .second, .val (.long p1), .second, .val (.long p2), .second, .val (.int p3), .val (.int p4), .val (.int p5), .val (.int (1 : Int32)), .val (.long spn), .second, .val (.long t1), .second, .val (.long t2), .second, .val (.long t3), .second, .val (.int va), .val (.int vb), .val (.int vc), .val (.ref b101), .val (.long t1), .second, .unset, .unset, .unset] [(.long p2), (.long (t1 - spn))]))
    refine own_fwd (fun tt kt => X104.ldc2Long hx hown (mvT hZ (hw _ (List.mem_of_getElem? (i := 0) rfl))) (g := (mkF m 188 #[.val (.long p0), .second, .val (.long p1), .second, .val (.long p2), .second, .val (.int p3), .val (.int p4), .val (.int p5), .val (.int (1 : Int32)), .val (.long spn), .second, .val (.long t1), .second, .val (.long t2), .second, .val (.long t3), .second, .val (.int va), .val (.int vb), .val (.int vc), .val (.ref b101), .val (.long t1), .second, .unset, .unset, .unset] [(.long p2), (.long (t1 - spn))])) rfl (hb hby at_188) tt kt) ?_
    show own_R p.tables e below P (T104.setTop (mkF m 191 #[.val (.long p0), .second, .val (.long p1), .second, .val (.long p2), .second, .val (.int p3), .val (.int p4), .val (.int p5), .val (.int (1 : Int32)), .val (.long spn), .second, .val (.long t1), .second, .val (.long t2), .second, .val (.long t3), .second, .val (.int va), .val (.int vb), .val (.int vc), .val (.ref b101), .val (.long t1), .second, .unset, .unset, .unset] [(.long (4611686018427387903 : Int64)), (.long p2), (.long (t1 - spn))]))
    refine own_fwd (fun tt kt => XS.land X104.here hx rfl (hb hby at_191) rfl kt) ?_
    show own_R p.tables e below P (T104.setTop (mkF m 192 #[.val (.long p0), .second, .val (.long p1), .second, .val (.long p2), .second, .val (.int p3), .val (.int p4), .val (.int p5), .val (.int (1 : Int32)), .val (.long spn), .second, .val (.long t1), .second, .val (.long t2), .second, .val (.long t3), .second, .val (.int va), .val (.int vb), .val (.int vc), .val (.ref b101), .val (.long t1), .second, .unset, .unset, .unset] [(.long (p2 &&& (4611686018427387903 : Int64))), (.long (t1 - spn))]))
    refine own_fwd (fun tt kt => XS.ladd X104.here hx rfl (hb hby at_192) rfl kt) ?_
    show own_R p.tables e below P (T104.setTop (mkF m 193 #[.val (.long p0), .second, .val (.long p1), .second, .val (.long p2), .second, .val (.int p3), .val (.int p4), .val (.int p5), .val (.int (1 : Int32)), .val (.long spn), .second, .val (.long t1), .second, .val (.long t2), .second, .val (.long t3), .second, .val (.int va), .val (.int vb), .val (.int vc), .val (.ref b101), .val (.long t1), .second, .unset, .unset, .unset] [(.long ((t1 - spn) + (p2 &&& (4611686018427387903 : Int64))))]))
    have qb := own_span p2 4611686018427387903 (by decide) (by decide)
    have q1 := own_subL t1 spn (by omega) (by omega) sb1 sb2
    have q2 := own_qry (t1 - spn) (p2 &&& (4611686018427387903 : Int64)) (by omega) (by omega)
    obtain ⟨qq, hg_qq⟩ : ∃ z, ((t1 - spn) + (p2 &&& (4611686018427387903 : Int64))) = z := ⟨_, rfl⟩
    rw [hg_qq]
    show own_R p.tables e below P (T104.setTop (mkF m 193 #[.val (.long p0), .second, .val (.long p1), .second, .val (.long p2), .second, .val (.int p3), .val (.int p4), .val (.int p5), .val (.int (1 : Int32)), .val (.long spn), .second, .val (.long t1), .second, .val (.long t2), .second, .val (.long t3), .second, .val (.int va), .val (.int vb), .val (.int vc), .val (.ref b101), .val (.long t1), .second, .unset, .unset, .unset] [(.long qq)]))
    rw [hg_qq] at q2
    refine own_fwd (fun tt kt => XS.lstore X104.here hx rfl (hb hby at_193) rfl (l' := #[.val (.long p0), .second, .val (.long p1), .second, .val (.long p2), .second, .val (.int p3), .val (.int p4), .val (.int p5), .val (.int (1 : Int32)), .val (.long spn), .second, .val (.long t1), .second, .val (.long t2), .second, .val (.long t3), .second, .val (.int va), .val (.int vb), .val (.int vc), .val (.ref b101), .val (.long t1), .second, .val (.long qq), .second, .unset]) rfl kt) ?_
    show own_R p.tables e below P (T104.setTop (mkF m 195 #[.val (.long p0), .second, .val (.long p1), .second, .val (.long p2), .second, .val (.int p3), .val (.int p4), .val (.int p5), .val (.int (1 : Int32)), .val (.long spn), .second, .val (.long t1), .second, .val (.long t2), .second, .val (.long t3), .second, .val (.int va), .val (.int vb), .val (.int vc), .val (.ref b101), .val (.long t1), .second, .val (.long qq), .second, .unset] []))
    refine own_fwd (fun tt kt => XS.iload X104.here hx rfl (hb hby at_195) rfl kt) ?_
    show own_R p.tables e below P (T104.setTop (mkF m 197 #[.val (.long p0), .second, .val (.long p1), .second, .val (.long p2), .second, .val (.int p3), .val (.int p4), .val (.int p5), .val (.int (1 : Int32)), .val (.long spn), .second, .val (.long t1), .second, .val (.long t2), .second, .val (.long t3), .second, .val (.int va), .val (.int vb), .val (.int vc), .val (.ref b101), .val (.long t1), .second, .val (.long qq), .second, .unset] [(.int p4)]))
    refine own_fwd (fun tt kt => XS.istore X104.here hx rfl (hb hby at_197) rfl (l' := #[.val (.long p0), .second, .val (.long p1), .second, .val (.long p2), .second, .val (.int p3), .val (.int p4), .val (.int p5), .val (.int (1 : Int32)), .val (.long spn), .second, .val (.long t1), .second, .val (.long t2), .second, .val (.long t3), .second, .val (.int va), .val (.int vb), .val (.int vc), .val (.ref b101), .val (.long t1), .second, .val (.long qq), .second, .val (.int p4)]) rfl kt) ?_
    show own_R p.tables e below P (T104.setTop (mkF m 199 #[.val (.long p0), .second, .val (.long p1), .second, .val (.long p2), .second, .val (.int p3), .val (.int p4), .val (.int p5), .val (.int (1 : Int32)), .val (.long spn), .second, .val (.long t1), .second, .val (.long t2), .second, .val (.long t3), .second, .val (.int va), .val (.int vb), .val (.int vc), .val (.ref b101), .val (.long t1), .second, .val (.long qq), .second, .val (.int p4)] []))
    refine own_fwd (fun tt kt => XS.iload X104.here hx rfl (hb hby at_199) rfl kt) ?_
    show own_R p.tables e below P (T104.setTop (mkF m 201 #[.val (.long p0), .second, .val (.long p1), .second, .val (.long p2), .second, .val (.int p3), .val (.int p4), .val (.int p5), .val (.int (1 : Int32)), .val (.long spn), .second, .val (.long t1), .second, .val (.long t2), .second, .val (.long t3), .second, .val (.int va), .val (.int vb), .val (.int vc), .val (.ref b101), .val (.long t1), .second, .val (.long qq), .second, .val (.int p4)] [(.int (1 : Int32))]))
    refine own_fwd (fun tt kt => XS.iconst X104.here hx rfl (hb hby at_201) kt) ?_
    show own_R p.tables e below P (T104.setTop (mkF m 202 #[.val (.long p0), .second, .val (.long p1), .second, .val (.long p2), .second, .val (.int p3), .val (.int p4), .val (.int p5), .val (.int (1 : Int32)), .val (.long spn), .second, .val (.long t1), .second, .val (.long t2), .second, .val (.long t3), .second, .val (.int va), .val (.int vb), .val (.int vc), .val (.ref b101), .val (.long t1), .second, .val (.long qq), .second, .val (.int p4)] [(.int (1 : Int32)), (.int (1 : Int32))]))
    have j115 : ∀ P, own_R p.tables e below P (T104.setTop (mkF m 253 #[.val (.long p0), .second, .val (.long p1), .second, .val (.long p2), .second, .val (.int p3), .val (.int p4), .val (.int p5), .val (.int (1 : Int32)), .val (.long spn), .second, .val (.long t1), .second, .val (.long t2), .second, .val (.long t3), .second, .val (.int va), .val (.int vb), .val (.int vc), .val (.ref b101), .val (.long t1), .second, .val (.long qq), .second, .val (.int (if (lcmpW qq t1) < (0 : Int32) then p4 else va))] [])) → own_R p.tables e below P (T104.setTop (mkF m 202 #[.val (.long p0), .second, .val (.long p1), .second, .val (.long p2), .second, .val (.int p3), .val (.int p4), .val (.int p5), .val (.int (1 : Int32)), .val (.long spn), .second, .val (.long t1), .second, .val (.long t2), .second, .val (.long t3), .second, .val (.int va), .val (.int vb), .val (.int vc), .val (.ref b101), .val (.long t1), .second, .val (.long qq), .second, .val (.int p4)] [(.int (1 : Int32)), (.int (1 : Int32))])) := by
      intro P k
      have hc109 : ¬ ((1 : Int32) < (1 : Int32)) := (by decide)
      refine own_fwd (fun tt kt => XS.icmpNo X104.here hx rfl (hb hby at_202) rfl (flt hc109).1 kt) ?_
      show own_R p.tables e below P (T104.setTop (mkF m 205 #[.val (.long p0), .second, .val (.long p1), .second, .val (.long p2), .second, .val (.int p3), .val (.int p4), .val (.int p5), .val (.int (1 : Int32)), .val (.long spn), .second, .val (.long t1), .second, .val (.long t2), .second, .val (.long t3), .second, .val (.int va), .val (.int vb), .val (.int vc), .val (.ref b101), .val (.long t1), .second, .val (.long qq), .second, .val (.int p4)] []))
      refine own_fwd (fun tt kt => XS.lload X104.here hx rfl (hb hby at_205) rfl kt) ?_
      show own_R p.tables e below P (T104.setTop (mkF m 207 #[.val (.long p0), .second, .val (.long p1), .second, .val (.long p2), .second, .val (.int p3), .val (.int p4), .val (.int p5), .val (.int (1 : Int32)), .val (.long spn), .second, .val (.long t1), .second, .val (.long t2), .second, .val (.long t3), .second, .val (.int va), .val (.int vb), .val (.int vc), .val (.ref b101), .val (.long t1), .second, .val (.long qq), .second, .val (.int p4)] [(.long qq)]))
      refine own_fwd (fun tt kt => XS.lload X104.here hx rfl (hb hby at_207) rfl kt) ?_
      show own_R p.tables e below P (T104.setTop (mkF m 209 #[.val (.long p0), .second, .val (.long p1), .second, .val (.long p2), .second, .val (.int p3), .val (.int p4), .val (.int p5), .val (.int (1 : Int32)), .val (.long spn), .second, .val (.long t1), .second, .val (.long t2), .second, .val (.long t3), .second, .val (.int va), .val (.int vb), .val (.int vc), .val (.ref b101), .val (.long t1), .second, .val (.long qq), .second, .val (.int p4)] [(.long t1), (.long qq)]))
      refine own_fwd (fun tt kt => XS.lcmp X104.here hx rfl (hb hby at_209) rfl kt) ?_
      show own_R p.tables e below P (T104.setTop (mkF m 210 #[.val (.long p0), .second, .val (.long p1), .second, .val (.long p2), .second, .val (.int p3), .val (.int p4), .val (.int p5), .val (.int (1 : Int32)), .val (.long spn), .second, .val (.long t1), .second, .val (.long t2), .second, .val (.long t3), .second, .val (.int va), .val (.int vb), .val (.int vc), .val (.ref b101), .val (.long t1), .second, .val (.long qq), .second, .val (.int p4)] [(.int (lcmpW qq t1))]))
      by_cases hc110 : (lcmpW qq t1) < (0 : Int32)
      · try simp only [if_pos hc110] at k
        refine own_fwd (fun tt kt => XS.ifYes X104.here hx rfl (pc0 := 210) (pc' := 217) rfl (hb hby at_210) rfl ((if0 _ _).trans (tlt hc110).1) (by decide) (by decide) kt) ?_
        show own_R p.tables e below P (T104.setTop (mkF m 217 #[.val (.long p0), .second, .val (.long p1), .second, .val (.long p2), .second, .val (.int p3), .val (.int p4), .val (.int p5), .val (.int (1 : Int32)), .val (.long spn), .second, .val (.long t1), .second, .val (.long t2), .second, .val (.long t3), .second, .val (.int va), .val (.int vb), .val (.int vc), .val (.ref b101), .val (.long t1), .second, .val (.long qq), .second, .val (.int p4)] []))
        refine own_fwd (fun tt kt => XS.iload X104.here hx rfl (hb hby at_217) rfl kt) ?_
        show own_R p.tables e below P (T104.setTop (mkF m 219 #[.val (.long p0), .second, .val (.long p1), .second, .val (.long p2), .second, .val (.int p3), .val (.int p4), .val (.int p5), .val (.int (1 : Int32)), .val (.long spn), .second, .val (.long t1), .second, .val (.long t2), .second, .val (.long t3), .second, .val (.int va), .val (.int vb), .val (.int vc), .val (.ref b101), .val (.long t1), .second, .val (.long qq), .second, .val (.int p4)] [(.int (1 : Int32))]))
        refine own_fwd (fun tt kt => XS.iconst X104.here hx rfl (hb hby at_219) kt) ?_
        show own_R p.tables e below P (T104.setTop (mkF m 220 #[.val (.long p0), .second, .val (.long p1), .second, .val (.long p2), .second, .val (.int p3), .val (.int p4), .val (.int p5), .val (.int (1 : Int32)), .val (.long spn), .second, .val (.long t1), .second, .val (.long t2), .second, .val (.long t3), .second, .val (.int va), .val (.int vb), .val (.int vc), .val (.ref b101), .val (.long t1), .second, .val (.long qq), .second, .val (.int p4)] [(.int (2 : Int32)), (.int (1 : Int32))]))
        have hc111 : (1 : Int32) < (2 : Int32) := (by decide)
        refine own_fwd (fun tt kt => XS.icmpYes X104.here hx rfl (pc0 := 220) (pc' := 235) rfl (hb hby at_220) rfl (tlt hc111).1 (by decide) (by decide) kt) ?_
        show own_R p.tables e below P (T104.setTop (mkF m 235 #[.val (.long p0), .second, .val (.long p1), .second, .val (.long p2), .second, .val (.int p3), .val (.int p4), .val (.int p5), .val (.int (1 : Int32)), .val (.long spn), .second, .val (.long t1), .second, .val (.long t2), .second, .val (.long t3), .second, .val (.int va), .val (.int vb), .val (.int vc), .val (.ref b101), .val (.long t1), .second, .val (.long qq), .second, .val (.int p4)] []))
        refine own_fwd (fun tt kt => XS.iload X104.here hx rfl (hb hby at_235) rfl kt) ?_
        show own_R p.tables e below P (T104.setTop (mkF m 237 #[.val (.long p0), .second, .val (.long p1), .second, .val (.long p2), .second, .val (.int p3), .val (.int p4), .val (.int p5), .val (.int (1 : Int32)), .val (.long spn), .second, .val (.long t1), .second, .val (.long t2), .second, .val (.long t3), .second, .val (.int va), .val (.int vb), .val (.int vc), .val (.ref b101), .val (.long t1), .second, .val (.long qq), .second, .val (.int p4)] [(.int (1 : Int32))]))
        refine own_fwd (fun tt kt => XS.iconst X104.here hx rfl (hb hby at_237) kt) ?_
        show own_R p.tables e below P (T104.setTop (mkF m 238 #[.val (.long p0), .second, .val (.long p1), .second, .val (.long p2), .second, .val (.int p3), .val (.int p4), .val (.int p5), .val (.int (1 : Int32)), .val (.long spn), .second, .val (.long t1), .second, .val (.long t2), .second, .val (.long t3), .second, .val (.int va), .val (.int vb), .val (.int vc), .val (.ref b101), .val (.long t1), .second, .val (.long qq), .second, .val (.int p4)] [(.int (3 : Int32)), (.int (1 : Int32))]))
        have hc112 : (1 : Int32) < (3 : Int32) := (by decide)
        refine own_fwd (fun tt kt => XS.icmpYes X104.here hx rfl (pc0 := 238) (pc' := 253) rfl (hb hby at_238) rfl (tlt hc112).1 (by decide) (by decide) kt) ?_
        show own_R p.tables e below P (T104.setTop (mkF m 253 #[.val (.long p0), .second, .val (.long p1), .second, .val (.long p2), .second, .val (.int p3), .val (.int p4), .val (.int p5), .val (.int (1 : Int32)), .val (.long spn), .second, .val (.long t1), .second, .val (.long t2), .second, .val (.long t3), .second, .val (.int va), .val (.int vb), .val (.int vc), .val (.ref b101), .val (.long t1), .second, .val (.long qq), .second, .val (.int p4)] []))
        exact k
      · try simp only [if_neg hc110] at k
        refine own_fwd (fun tt kt => XS.ifNo X104.here hx rfl (hb hby at_210) rfl ((if0 _ _).trans (flt hc110).1) kt) ?_
        show own_R p.tables e below P (T104.setTop (mkF m 213 #[.val (.long p0), .second, .val (.long p1), .second, .val (.long p2), .second, .val (.int p3), .val (.int p4), .val (.int p5), .val (.int (1 : Int32)), .val (.long spn), .second, .val (.long t1), .second, .val (.long t2), .second, .val (.long t3), .second, .val (.int va), .val (.int vb), .val (.int vc), .val (.ref b101), .val (.long t1), .second, .val (.long qq), .second, .val (.int p4)] []))
        refine own_fwd (fun tt kt => XS.iload X104.here hx rfl (hb hby at_213) rfl kt) ?_
        show own_R p.tables e below P (T104.setTop (mkF m 215 #[.val (.long p0), .second, .val (.long p1), .second, .val (.long p2), .second, .val (.int p3), .val (.int p4), .val (.int p5), .val (.int (1 : Int32)), .val (.long spn), .second, .val (.long t1), .second, .val (.long t2), .second, .val (.long t3), .second, .val (.int va), .val (.int vb), .val (.int vc), .val (.ref b101), .val (.long t1), .second, .val (.long qq), .second, .val (.int p4)] [(.int va)]))
        refine own_fwd (fun tt kt => XS.istore X104.here hx rfl (hb hby at_215) rfl (l' := #[.val (.long p0), .second, .val (.long p1), .second, .val (.long p2), .second, .val (.int p3), .val (.int p4), .val (.int p5), .val (.int (1 : Int32)), .val (.long spn), .second, .val (.long t1), .second, .val (.long t2), .second, .val (.long t3), .second, .val (.int va), .val (.int vb), .val (.int vc), .val (.ref b101), .val (.long t1), .second, .val (.long qq), .second, .val (.int va)]) rfl kt) ?_
        show own_R p.tables e below P (T104.setTop (mkF m 217 #[.val (.long p0), .second, .val (.long p1), .second, .val (.long p2), .second, .val (.int p3), .val (.int p4), .val (.int p5), .val (.int (1 : Int32)), .val (.long spn), .second, .val (.long t1), .second, .val (.long t2), .second, .val (.long t3), .second, .val (.int va), .val (.int vb), .val (.int vc), .val (.ref b101), .val (.long t1), .second, .val (.long qq), .second, .val (.int va)] []))
        refine own_fwd (fun tt kt => XS.iload X104.here hx rfl (hb hby at_217) rfl kt) ?_
        show own_R p.tables e below P (T104.setTop (mkF m 219 #[.val (.long p0), .second, .val (.long p1), .second, .val (.long p2), .second, .val (.int p3), .val (.int p4), .val (.int p5), .val (.int (1 : Int32)), .val (.long spn), .second, .val (.long t1), .second, .val (.long t2), .second, .val (.long t3), .second, .val (.int va), .val (.int vb), .val (.int vc), .val (.ref b101), .val (.long t1), .second, .val (.long qq), .second, .val (.int va)] [(.int (1 : Int32))]))
        refine own_fwd (fun tt kt => XS.iconst X104.here hx rfl (hb hby at_219) kt) ?_
        show own_R p.tables e below P (T104.setTop (mkF m 220 #[.val (.long p0), .second, .val (.long p1), .second, .val (.long p2), .second, .val (.int p3), .val (.int p4), .val (.int p5), .val (.int (1 : Int32)), .val (.long spn), .second, .val (.long t1), .second, .val (.long t2), .second, .val (.long t3), .second, .val (.int va), .val (.int vb), .val (.int vc), .val (.ref b101), .val (.long t1), .second, .val (.long qq), .second, .val (.int va)] [(.int (2 : Int32)), (.int (1 : Int32))]))
        have hc113 : (1 : Int32) < (2 : Int32) := (by decide)
        refine own_fwd (fun tt kt => XS.icmpYes X104.here hx rfl (pc0 := 220) (pc' := 235) rfl (hb hby at_220) rfl (tlt hc113).1 (by decide) (by decide) kt) ?_
        show own_R p.tables e below P (T104.setTop (mkF m 235 #[.val (.long p0), .second, .val (.long p1), .second, .val (.long p2), .second, .val (.int p3), .val (.int p4), .val (.int p5), .val (.int (1 : Int32)), .val (.long spn), .second, .val (.long t1), .second, .val (.long t2), .second, .val (.long t3), .second, .val (.int va), .val (.int vb), .val (.int vc), .val (.ref b101), .val (.long t1), .second, .val (.long qq), .second, .val (.int va)] []))
        refine own_fwd (fun tt kt => XS.iload X104.here hx rfl (hb hby at_235) rfl kt) ?_
        show own_R p.tables e below P (T104.setTop (mkF m 237 #[.val (.long p0), .second, .val (.long p1), .second, .val (.long p2), .second, .val (.int p3), .val (.int p4), .val (.int p5), .val (.int (1 : Int32)), .val (.long spn), .second, .val (.long t1), .second, .val (.long t2), .second, .val (.long t3), .second, .val (.int va), .val (.int vb), .val (.int vc), .val (.ref b101), .val (.long t1), .second, .val (.long qq), .second, .val (.int va)] [(.int (1 : Int32))]))
        refine own_fwd (fun tt kt => XS.iconst X104.here hx rfl (hb hby at_237) kt) ?_
        show own_R p.tables e below P (T104.setTop (mkF m 238 #[.val (.long p0), .second, .val (.long p1), .second, .val (.long p2), .second, .val (.int p3), .val (.int p4), .val (.int p5), .val (.int (1 : Int32)), .val (.long spn), .second, .val (.long t1), .second, .val (.long t2), .second, .val (.long t3), .second, .val (.int va), .val (.int vb), .val (.int vc), .val (.ref b101), .val (.long t1), .second, .val (.long qq), .second, .val (.int va)] [(.int (3 : Int32)), (.int (1 : Int32))]))
        have hc114 : (1 : Int32) < (3 : Int32) := (by decide)
        refine own_fwd (fun tt kt => XS.icmpYes X104.here hx rfl (pc0 := 238) (pc' := 253) rfl (hb hby at_238) rfl (tlt hc114).1 (by decide) (by decide) kt) ?_
        show own_R p.tables e below P (T104.setTop (mkF m 253 #[.val (.long p0), .second, .val (.long p1), .second, .val (.long p2), .second, .val (.int p3), .val (.int p4), .val (.int p5), .val (.int (1 : Int32)), .val (.long spn), .second, .val (.long t1), .second, .val (.long t2), .second, .val (.long t3), .second, .val (.int va), .val (.int vb), .val (.int vc), .val (.ref b101), .val (.long t1), .second, .val (.long qq), .second, .val (.int va)] []))
        exact k
    refine j115 P ?_
    show own_R p.tables e below P (T104.setTop (mkF m 253 #[.val (.long p0), .second, .val (.long p1), .second, .val (.long p2), .second, .val (.int p3), .val (.int p4), .val (.int p5), .val (.int (1 : Int32)), .val (.long spn), .second, .val (.long t1), .second, .val (.long t2), .second, .val (.long t3), .second, .val (.int va), .val (.int vb), .val (.int vc), .val (.ref b101), .val (.long t1), .second, .val (.long qq), .second, .val (.int (if (lcmpW qq t1) < (0 : Int32) then p4 else va))] []))
    refine own_fwd (fun tt kt => XS.aload X104.here hx rfl (hb hby at_253) rfl rfl kt) ?_
    show own_R p.tables e below P (T104.setTop (mkF m 255 #[.val (.long p0), .second, .val (.long p1), .second, .val (.long p2), .second, .val (.int p3), .val (.int p4), .val (.int p5), .val (.int (1 : Int32)), .val (.long spn), .second, .val (.long t1), .second, .val (.long t2), .second, .val (.long t3), .second, .val (.int va), .val (.int vb), .val (.int vc), .val (.ref b101), .val (.long t1), .second, .val (.long qq), .second, .val (.int (if (lcmpW qq t1) < (0 : Int32) then p4 else va))] [(.ref b101)]))
    refine own_fwd (fun tt kt => XS.lload X104.here hx rfl (hb hby at_255) rfl kt) ?_
    show own_R p.tables e below P (T104.setTop (mkF m 257 #[.val (.long p0), .second, .val (.long p1), .second, .val (.long p2), .second, .val (.int p3), .val (.int p4), .val (.int p5), .val (.int (1 : Int32)), .val (.long spn), .second, .val (.long t1), .second, .val (.long t2), .second, .val (.long t3), .second, .val (.int va), .val (.int vb), .val (.int vc), .val (.ref b101), .val (.long t1), .second, .val (.long qq), .second, .val (.int (if (lcmpW qq t1) < (0 : Int32) then p4 else va))] [(.long qq), (.ref b101)]))
    obtain ⟨cq116, kq116, q116a, q116b, q116c⟩ := isOf hZ e104 E104_
    obtain ⟨_, _, ⟨T116, L116, k116, n116⟩, -, X116, ⟨Lc116, hQ116, l116, y116, z116⟩, st116⟩ := X104.virtualBack hx (y := (⟨"com/example/ramp99/ramp99/service/policy/SizeHistory", "at", "(J)I"⟩ : MethodName)) (z := (⟨"com/example/ramp99/ramp99/service/policy/SizeHistory", "at", "(J)I"⟩ : MethodName)) hown (mvT hZ (hw _ (List.mem_of_getElem? (i := 29) rfl))) (mvT hZ (hw _ (List.mem_of_getElem? (i := 30) rfl))) (notFace_of_selects (args := #[]) (mvT hZ (hw _ (List.mem_of_getElem? (i := 32) rfl)))) (mvT hZ (hw _ (List.mem_of_getElem? (i := 32) rfl))) (mvT hZ (hw _ (List.mem_of_getElem? (i := 31) rfl))) (by decide) (backOf (W := 0) (own_rm4 l Z a0 hw [] b101 tA sA qq spn bf1 fi1 ct1 ft1 fs1 F1 K1_ h104 n0 Z104 E104_ F104a F104b F104c F104d F104e F104f A104_ B104_ ge_b101 get_ ges_ nt_b101 ns_b101 nts hF1 hK1 (by omega) asc1) hZ (hw _ (List.mem_of_getElem? (i := 33) rfl)) (hw _ (List.mem_of_getElem? (i := 3) rfl)) (by decide) (by decide)) q116a q116c (g := (mkF m 257 #[.val (.long p0), .second, .val (.long p1), .second, .val (.long p2), .second, .val (.int p3), .val (.int p4), .val (.int p5), .val (.int (1 : Int32)), .val (.long spn), .second, .val (.long t1), .second, .val (.long t2), .second, .val (.long t3), .second, .val (.int va), .val (.int vb), .val (.int vc), .val (.ref b101), .val (.long t1), .second, .val (.long qq), .second, .val (.int (if (lcmpW qq t1) < (0 : Int32) then p4 else va))] [(.long qq), (.ref b101)])) rfl (by rw [hml]; rfl) (Steps.refl _) (argsL := [(.long qq)]) (rest := []) (lenOf own_pd1 rfl) rfl (by show 2 * 0 + _ ≤ _; exact Nat.le_of_eq rfl) (hb hby at_257) (fun _ _ => ⟨rfl, e104, (by decide : 3 + 0 ≤ _), (by decide : 38 + 0 ≤ _)⟩)
    dsimp only [Pt.U, Pt.locs, Pt.cells, Pt.slots] at X116 l116 y116 z116 st116 hQ116
    subst l116 y116 z116
    obtain ⟨h116, e116⟩ : ∃ z, T116.heap = z := ⟨_, rfl⟩
    rw [e116] at hQ116
    obtain ⟨rr, hq116, VV, N116q, q116⟩ := hQ116
    rw [q116] at e116
    subst hq116
    have N116 := Fr.app N104 N116q
    refine own_trn st116 ?_
    show own_R p.tables e below P (T116.setTop (mkF m 260 #[.val (.long p0), .second, .val (.long p1), .second, .val (.long p2), .second, .val (.int p3), .val (.int p4), .val (.int p5), .val (.int (1 : Int32)), .val (.long spn), .second, .val (.long t1), .second, .val (.long t2), .second, .val (.long t3), .second, .val (.int va), .val (.int vb), .val (.int vc), .val (.ref b101), .val (.long t1), .second, .val (.long qq), .second, .val (.int (if (lcmpW qq t1) < (0 : Int32) then p4 else va))] [(.int rr)]))
    refine own_fwd (fun tt kt => XS.iload X116.here hx rfl (hb hby at_260) rfl kt) ?_
    show own_R p.tables e below P (T116.setTop (mkF m 262 #[.val (.long p0), .second, .val (.long p1), .second, .val (.long p2), .second, .val (.int p3), .val (.int p4), .val (.int p5), .val (.int (1 : Int32)), .val (.long spn), .second, .val (.long t1), .second, .val (.long t2), .second, .val (.long t3), .second, .val (.int va), .val (.int vb), .val (.int vc), .val (.ref b101), .val (.long t1), .second, .val (.long qq), .second, .val (.int (if (lcmpW qq t1) < (0 : Int32) then p4 else va))] [(.int (if (lcmpW qq t1) < (0 : Int32) then p4 else va)), (.int rr)]))
    have hc117 : rr = (if (lcmpW qq t1) < (0 : Int32) then p4 else va) := by
      simp only [own_ltT]
      rcases val1 qq.toInt rr (by omega) VV with ⟨c1, e1⟩ | ⟨c1, V1⟩
      · rw [e1]; repeat' split
        all_goals first | rfl | (exfalso; omega)
      · skip
        obtain ⟨i, -, a2, -, -, e0⟩ := V1
        rw [e0, if_pos (by omega)]
        repeat' split
        all_goals first | rfl | (exfalso; omega)
    refine own_fwd (fun tt kt => XS.icmpNo X116.here hx rfl (hb hby at_262) rfl (teq hc117).2 kt) ?_
    show own_R p.tables e below P (T116.setTop (mkF m 265 #[.val (.long p0), .second, .val (.long p1), .second, .val (.long p2), .second, .val (.int p3), .val (.int p4), .val (.int p5), .val (.int (1 : Int32)), .val (.long spn), .second, .val (.long t1), .second, .val (.long t2), .second, .val (.long t3), .second, .val (.int va), .val (.int vb), .val (.int vc), .val (.ref b101), .val (.long t1), .second, .val (.long qq), .second, .val (.int (if (lcmpW qq t1) < (0 : Int32) then p4 else va))] []))
    refine own_fwd (fun tt kt => XS.iconst X116.here hx rfl (hb hby at_265) kt) ?_
    show own_R p.tables e below P (T116.setTop (mkF m 266 #[.val (.long p0), .second, .val (.long p1), .second, .val (.long p2), .second, .val (.int p3), .val (.int p4), .val (.int p5), .val (.int (1 : Int32)), .val (.long spn), .second, .val (.long t1), .second, .val (.long t2), .second, .val (.long t3), .second, .val (.int va), .val (.int vb), .val (.int vc), .val (.ref b101), .val (.long t1), .second, .val (.long qq), .second, .val (.int (if (lcmpW qq t1) < (0 : Int32) then p4 else va))] [(.int (1 : Int32))]))
    refine own_fwd (fun tt kt => XS.goto X116.here hx rfl (pc0 := 266) (pc' := 270) rfl (hb hby at_266) (by decide) (by decide) kt) ?_
    show own_R p.tables e below P (T116.setTop (mkF m 270 #[.val (.long p0), .second, .val (.long p1), .second, .val (.long p2), .second, .val (.int p3), .val (.int p4), .val (.int p5), .val (.int (1 : Int32)), .val (.long spn), .second, .val (.long t1), .second, .val (.long t2), .second, .val (.long t3), .second, .val (.int va), .val (.int vb), .val (.int vc), .val (.ref b101), .val (.long t1), .second, .val (.long qq), .second, .val (.int (if (lcmpW qq t1) < (0 : Int32) then p4 else va))] [(.int (1 : Int32))]))
    obtain ⟨fs118, hr118, hrun118, hended118, hW118, hsame118⟩ := X116.leave (v := some (.int (1 : Int32))) (fun h => by rw [Bd.returns] at h; cases h)
    refine ⟨_, _, X116.ireturnOut hx (w := (1 : Int32)) Bd.returns rfl (by simp) (hb hby at_270) hr118, fin _ _ ⟨hrun118, hended118, _, _, rfl, ?_, ⟨_, rfl⟩, hW118, hsame118.mono (by decide) (by decide)⟩⟩
    show own_Qlaw Z p0 p1 p2 p3 p4 p5 h0 n0 _ T116.heap _
    rw [e116]
    exact ⟨rfl, N116⟩
  · rw [hs]
    show own_R p.tables e below P (s₁.setTop (mkF m 97 #[.val (.long p0), .second, .val (.long p1), .second, .val (.long p2), .second, .val (.int p3), .val (.int p4), .val (.int p5), .val (.int (2 : Int32)), .val (.long spn), .second, .val (.long t1), .second, .val (.long t2), .second, .val (.long t3), .second, .val (.int va), .val (.int vb), .val (.int vc), .unset, .unset, .unset, .unset, .unset, .unset] []))
    obtain ⟨T119, h119, X119, e119, E119, A119, D119, -, st119⟩ := newO X0 hx hZ hown (hw _ (List.mem_of_getElem? (i := 1) rfl)) (hw _ (List.mem_of_getElem? (i := 2) rfl)) (hw _ (List.mem_of_getElem? (i := 3) rfl)) e0 (g := (mkF m 97 #[.val (.long p0), .second, .val (.long p1), .second, .val (.long p2), .second, .val (.int p3), .val (.int p4), .val (.int p5), .val (.int (2 : Int32)), .val (.long spn), .second, .val (.long t1), .second, .val (.long t2), .second, .val (.long t3), .second, .val (.int va), .val (.int vb), .val (.int vc), .unset, .unset, .unset, .unset, .unset, .unset] [])) rfl (hb hby at_97) (by decide) (by decide)
    obtain ⟨b119, g119⟩ : ∃ z, z = h0.size := ⟨_, rfl⟩
    rw [← g119] at A119 D119 st119
    have ge_b119 : n0 ≤ b119 := by rw [g119]; exact Z0
    have sz_b119 : h0.size ≤ b119 := by rw [g119]; exact (Nat.le_refl h0.size)
    have F119_times : Fld Z h119 b119 "com/example/ramp99/ramp99/service/policy/SizeHistory" "times" "[J" .null := D119 (Or.inl (hw _ (List.mem_of_getElem? (i := 12) rfl))) (ty := (.array .long)) (by decide)
    have F119_sizes : Fld Z h119 b119 "com/example/ramp99/ramp99/service/policy/SizeHistory" "sizes" "[I" .null := D119 (Or.inl (hw _ (List.mem_of_getElem? (i := 15) rfl))) (ty := (.array .int)) (by decide)
    have F119_spanNanos : Fld Z h119 b119 "com/example/ramp99/ramp99/service/policy/SizeHistory" "spanNanos" "J" (.long (0 : Int64)) := D119 (Or.inr (hw _ (List.mem_of_getElem? (i := 17) rfl))) (ty := .long) (by decide)
    have F119_before : Fld Z h119 b119 "com/example/ramp99/ramp99/service/policy/SizeHistory" "before" "I" (.int (0 : Int32)) := D119 (Or.inl (hw _ (List.mem_of_getElem? (i := 19) rfl))) (ty := .int) (by decide)
    have F119_count : Fld Z h119 b119 "com/example/ramp99/ramp99/service/policy/SizeHistory" "count" "I" (.int (0 : Int32)) := D119 (Or.inl (hw _ (List.mem_of_getElem? (i := 26) rfl))) (ty := .int) (by decide)
    have F119_first : Fld Z h119 b119 "com/example/ramp99/ramp99/service/policy/SizeHistory" "first" "I" (.int (0 : Int32)) := D119 (Or.inl (hw _ (List.mem_of_getElem? (i := 28) rfl))) (ty := .int) (by decide)
    have Z119 : n0 ≤ h119.size := Nat.le_trans Z0 E119.1
    have Y119 : h0.size ≤ h119.size := Nat.le_trans (Nat.le_refl h0.size) E119.1
    refine own_fwd st119 ?_
    show own_R p.tables e below P (T119.setTop (mkF m 100 #[.val (.long p0), .second, .val (.long p1), .second, .val (.long p2), .second, .val (.int p3), .val (.int p4), .val (.int p5), .val (.int (2 : Int32)), .val (.long spn), .second, .val (.long t1), .second, .val (.long t2), .second, .val (.long t3), .second, .val (.int va), .val (.int vb), .val (.int vc), .unset, .unset, .unset, .unset, .unset, .unset] [(.ref b119)]))
    refine own_fwd (fun tt kt => XS.dup X119.here hx rfl (hb hby at_100) rfl rfl kt) ?_
    show own_R p.tables e below P (T119.setTop (mkF m 101 #[.val (.long p0), .second, .val (.long p1), .second, .val (.long p2), .second, .val (.int p3), .val (.int p4), .val (.int p5), .val (.int (2 : Int32)), .val (.long spn), .second, .val (.long t1), .second, .val (.long t2), .second, .val (.long t3), .second, .val (.int va), .val (.int vb), .val (.int vc), .unset, .unset, .unset, .unset, .unset, .unset] [(.ref b119), (.ref b119)]))
    refine own_fwd (fun tt kt => XS.lload X119.here hx rfl (hb hby at_101) rfl kt) ?_
    show own_R p.tables e below P (T119.setTop (mkF m 103 #[.val (.long p0), .second, .val (.long p1), .second, .val (.long p2), .second, .val (.int p3), .val (.int p4), .val (.int p5), .val (.int (2 : Int32)), .val (.long spn), .second, .val (.long t1), .second, .val (.long t2), .second, .val (.long t3), .second, .val (.int va), .val (.int vb), .val (.int vc), .unset, .unset, .unset, .unset, .unset, .unset] [(.long spn), (.ref b119), (.ref b119)]))
    refine own_fwd (fun tt kt => XS.iload X119.here hx rfl (hb hby at_103) rfl kt) ?_
    show own_R p.tables e below P (T119.setTop (mkF m 105 #[.val (.long p0), .second, .val (.long p1), .second, .val (.long p2), .second, .val (.int p3), .val (.int p4), .val (.int p5), .val (.int (2 : Int32)), .val (.long spn), .second, .val (.long t1), .second, .val (.long t2), .second, .val (.long t3), .second, .val (.int va), .val (.int vb), .val (.int vc), .unset, .unset, .unset, .unset, .unset, .unset] [(.int p4), (.long spn), (.ref b119), (.ref b119)]))
    obtain ⟨_, _, ⟨T120, L120, k120, n120⟩, -, X120, ⟨Lc120, hQ120, l120, y120, z120⟩, st120⟩ := X119.specialBack hx (y := (⟨"com/example/ramp99/ramp99/service/policy/SizeHistory", "<init>", "(JI)V"⟩ : MethodName)) rfl hown (mvT hZ (hw _ (List.mem_of_getElem? (i := 4) rfl))) (mvT hZ (hw _ (List.mem_of_getElem? (i := 5) rfl))) (mvT hZ (hw _ (List.mem_of_getElem? (i := 6) rfl))) (by decide) (backOf (W := 1) (own_rm1 l Z a0 hw [] b119 spn p4 h119 n0 Z119 A119 F119_times F119_sizes F119_spanNanos F119_before F119_first F119_count ge_b119) hZ (hw _ (List.mem_of_getElem? (i := 6) rfl)) (hw _ (List.mem_of_getElem? (i := 3) rfl)) (by decide) (by decide)) (g := (mkF m 105 #[.val (.long p0), .second, .val (.long p1), .second, .val (.long p2), .second, .val (.int p3), .val (.int p4), .val (.int p5), .val (.int (2 : Int32)), .val (.long spn), .second, .val (.long t1), .second, .val (.long t2), .second, .val (.long t3), .second, .val (.int va), .val (.int vb), .val (.int vc), .unset, .unset, .unset, .unset, .unset, .unset] [(.int p4), (.long spn), (.ref b119), (.ref b119)])) rfl (by rw [hml]; rfl) (Steps.refl _) (a := b119) (argsL := [(.long spn), (.int p4)]) (rest := [(.ref b119)]) (lenOf own_pd0 rfl) rfl (by show 2 * 0 + _ ≤ _; exact Nat.le_of_eq rfl) (hb hby at_105) (fun _ _ => ⟨rfl, e119, (by decide : 1 + 2 ≤ _), (by decide : 6 + 32 ≤ _)⟩)
    dsimp only [Pt.U, Pt.locs, Pt.cells, Pt.slots] at X120 l120 y120 z120 st120 hQ120
    subst l120 y120 z120
    obtain ⟨h120, e120⟩ : ∃ z, T120.heap = z := ⟨_, rfl⟩
    rw [e120] at hQ120
    obtain ⟨hq120, N120q, K120, tA, sA, A120_, B120_, szt, szs, nts, E120_, F120a, F120b, F120c, F120d, F120e, F120f⟩ := hQ120
    subst hq120
    have N120 := Fr.app N0 N120q
    have nt_b119 : b119 ≠ tA := Nat.ne_of_lt (Nat.lt_of_lt_of_le A119.lt szt)
    have ns_b119 : b119 ≠ sA := Nat.ne_of_lt (Nat.lt_of_lt_of_le A119.lt szs)
    have get_ : n0 ≤ tA := Nat.le_trans Z119 szt
    have ges_ : n0 ≤ sA := Nat.le_trans Z119 szs
    have A119_x120 := A119.keep K120
    have Z120 : n0 ≤ h120.size := Nat.le_trans Z119 K120.1
    have Y120 : h0.size ≤ h120.size := Nat.le_trans Y119 K120.1
    refine own_trn st120 ?_
    show own_R p.tables e below P (T120.setTop (mkF m 108 #[.val (.long p0), .second, .val (.long p1), .second, .val (.long p2), .second, .val (.int p3), .val (.int p4), .val (.int p5), .val (.int (2 : Int32)), .val (.long spn), .second, .val (.long t1), .second, .val (.long t2), .second, .val (.long t3), .second, .val (.int va), .val (.int vb), .val (.int vc), .unset, .unset, .unset, .unset, .unset, .unset] [(.ref b119)]))
    refine own_fwd (fun tt kt => XS.astore X120.here hx rfl (hb hby at_108) rfl rfl (l' := #[.val (.long p0), .second, .val (.long p1), .second, .val (.long p2), .second, .val (.int p3), .val (.int p4), .val (.int p5), .val (.int (2 : Int32)), .val (.long spn), .second, .val (.long t1), .second, .val (.long t2), .second, .val (.long t3), .second, .val (.int va), .val (.int vb), .val (.int vc), .val (.ref b119), .unset, .unset, .unset, .unset, .unset]) rfl kt) ?_
    show own_R p.tables e below P (T120.setTop (mkF m 110 #[.val (.long p0), .second, .val (.long p1), .second, .val (.long p2), .second, .val (.int p3), .val (.int p4), .val (.int p5), .val (.int (2 : Int32)), .val (.long spn), .second, .val (.long t1), .second, .val (.long t2), .second, .val (.long t3), .second, .val (.int va), .val (.int vb), .val (.int vc), .val (.ref b119), .unset, .unset, .unset, .unset, .unset] []))
    refine own_fwd (fun tt kt => XS.iload X120.here hx rfl (hb hby at_110) rfl kt) ?_
    show own_R p.tables e below P (T120.setTop (mkF m 112 #[.val (.long p0), .second, .val (.long p1), .second, .val (.long p2), .second, .val (.int p3), .val (.int p4), .val (.int p5), .val (.int (2 : Int32)), .val (.long spn), .second, .val (.long t1), .second, .val (.long t2), .second, .val (.long t3), .second, .val (.int va), .val (.int vb), .val (.int vc), .val (.ref b119), .unset, .unset, .unset, .unset, .unset] [(.int (2 : Int32))]))
    refine own_fwd (fun tt kt => XS.iconst X120.here hx rfl (hb hby at_112) kt) ?_
    show own_R p.tables e below P (T120.setTop (mkF m 113 #[.val (.long p0), .second, .val (.long p1), .second, .val (.long p2), .second, .val (.int p3), .val (.int p4), .val (.int p5), .val (.int (2 : Int32)), .val (.long spn), .second, .val (.long t1), .second, .val (.long t2), .second, .val (.long t3), .second, .val (.int va), .val (.int vb), .val (.int vc), .val (.ref b119), .unset, .unset, .unset, .unset, .unset] [(.int (1 : Int32)), (.int (2 : Int32))]))
    have hc121 : ¬ ((2 : Int32) < (1 : Int32)) := (by decide)
    refine own_fwd (fun tt kt => XS.icmpNo X120.here hx rfl (hb hby at_113) rfl (flt hc121).1 kt) ?_
    show own_R p.tables e below P (T120.setTop (mkF m 116 #[.val (.long p0), .second, .val (.long p1), .second, .val (.long p2), .second, .val (.int p3), .val (.int p4), .val (.int p5), .val (.int (2 : Int32)), .val (.long spn), .second, .val (.long t1), .second, .val (.long t2), .second, .val (.long t3), .second, .val (.int va), .val (.int vb), .val (.int vc), .val (.ref b119), .unset, .unset, .unset, .unset, .unset] []))
    refine own_fwd (fun tt kt => XS.aload X120.here hx rfl (hb hby at_116) rfl rfl kt) ?_
    show own_R p.tables e below P (T120.setTop (mkF m 118 #[.val (.long p0), .second, .val (.long p1), .second, .val (.long p2), .second, .val (.int p3), .val (.int p4), .val (.int p5), .val (.int (2 : Int32)), .val (.long spn), .second, .val (.long t1), .second, .val (.long t2), .second, .val (.long t3), .second, .val (.int va), .val (.int vb), .val (.int vc), .val (.ref b119), .unset, .unset, .unset, .unset, .unset] [(.ref b119)]))
    refine own_fwd (fun tt kt => XS.lload X120.here hx rfl (hb hby at_118) rfl kt) ?_
    show own_R p.tables e below P (T120.setTop (mkF m 120 #[.val (.long p0), .second, .val (.long p1), .second, .val (.long p2), .second, .val (.int p3), .val (.int p4), .val (.int p5), .val (.int (2 : Int32)), .val (.long spn), .second, .val (.long t1), .second, .val (.long t2), .second, .val (.long t3), .second, .val (.int va), .val (.int vb), .val (.int vc), .val (.ref b119), .unset, .unset, .unset, .unset, .unset] [(.long t1), (.ref b119)]))
    refine own_fwd (fun tt kt => XS.iload X120.here hx rfl (hb hby at_120) rfl kt) ?_
    show own_R p.tables e below P (T120.setTop (mkF m 122 #[.val (.long p0), .second, .val (.long p1), .second, .val (.long p2), .second, .val (.int p3), .val (.int p4), .val (.int p5), .val (.int (2 : Int32)), .val (.long spn), .second, .val (.long t1), .second, .val (.long t2), .second, .val (.long t3), .second, .val (.int va), .val (.int vb), .val (.int vc), .val (.ref b119), .unset, .unset, .unset, .unset, .unset] [(.int va), (.long t1), (.ref b119)]))
    obtain ⟨cq122, kq122, q122a, q122b, q122c⟩ := isOf hZ e120 E120_
    obtain ⟨_, _, ⟨T122, L122, k122, n122⟩, -, X122, ⟨Lc122, hQ122, l122, y122, z122⟩, st122⟩ := X120.virtualBack hx (y := (⟨"com/example/ramp99/ramp99/service/policy/SizeHistory", "add", "(JI)V"⟩ : MethodName)) (z := (⟨"com/example/ramp99/ramp99/service/policy/SizeHistory", "add", "(JI)V"⟩ : MethodName)) hown (mvT hZ (hw _ (List.mem_of_getElem? (i := 20) rfl))) (mvT hZ (hw _ (List.mem_of_getElem? (i := 21) rfl))) (notFace_of_selects (args := #[]) (mvT hZ (hw _ (List.mem_of_getElem? (i := 23) rfl)))) (mvT hZ (hw _ (List.mem_of_getElem? (i := 23) rfl))) (mvT hZ (hw _ (List.mem_of_getElem? (i := 22) rfl))) (by decide) (backOf (W := 0) (own_rm3 l Z a0 hw [] b119 tA sA t1 spn va p4 (0 : Int32) (0 : Int32) (fun _ => (0 : Int64)) (fun _ => (0 : Int32)) 0 0 h120 n0 Z120 E120_ F120a F120b F120c F120d F120e F120f A120_ B120_ ge_b119 get_ ges_ nt_b119 ns_b119 nts rfl rfl (by omega) (fun i j a b c => absurd c (by omega)) (fun j a b => absurd b (by omega)) (own_subL _ _ (by omega) (by omega) sb1 sb2)) hZ (hw _ (List.mem_of_getElem? (i := 24) rfl)) (hw _ (List.mem_of_getElem? (i := 3) rfl)) (by decide) (by decide)) q122a q122c (g := (mkF m 122 #[.val (.long p0), .second, .val (.long p1), .second, .val (.long p2), .second, .val (.int p3), .val (.int p4), .val (.int p5), .val (.int (2 : Int32)), .val (.long spn), .second, .val (.long t1), .second, .val (.long t2), .second, .val (.long t3), .second, .val (.int va), .val (.int vb), .val (.int vc), .val (.ref b119), .unset, .unset, .unset, .unset, .unset] [(.int va), (.long t1), (.ref b119)])) rfl (by rw [hml]; rfl) (Steps.refl _) (argsL := [(.long t1), (.int va)]) (rest := []) (lenOf own_pd0 rfl) rfl (by show 2 * 0 + _ ≤ _; exact Nat.le_of_eq rfl) (hb hby at_122) (fun _ _ => ⟨rfl, e120, (by decide : 3 + 0 ≤ _), (by decide : 38 + 0 ≤ _)⟩)
    dsimp only [Pt.U, Pt.locs, Pt.cells, Pt.slots] at X122 l122 y122 z122 st122 hQ122
    subst l122 y122 z122
    obtain ⟨h122, e122⟩ : ∃ z, T122.heap = z := ⟨_, rfl⟩
    rw [e122] at hQ122
    obtain ⟨hq122, N122q, K122, F1, K1_, fi1, ct1, bf1, ft1, fs1, A122_, B122_, hF1, hK1, bd1, asc1, le1, val1, E122_, F122a, F122b, F122c, F122d, F122e, F122f⟩ := hQ122
    subst hq122
    have N122 := Fr.app N120 N122q
    have E120__x122 := E120_.keep K122
    have Z122 : n0 ≤ h122.size := Nat.le_trans Z120 K122.1
    have Y122 : h0.size ≤ h122.size := Nat.le_trans Y120 K122.1
    refine own_trn st122 ?_
    show own_R p.tables e below P (T122.setTop (mkF m 125 #[.val (.long p0), .second, .val (.long p1), .second, .val (.long p2), .second, .val (.int p3), .val (.int p4), .val (.int p5), .val (.int (2 : Int32)), .val (.long spn), .second, .val (.long t1), .second, .val (.long t2), .second, .val (.long t3), .second, .val (.int va), .val (.int vb), .val (.int vc), .val (.ref b119), .unset, .unset, .unset, .unset, .unset] []))
    refine own_fwd (fun tt kt => XS.iload X122.here hx rfl (hb hby at_125) rfl kt) ?_
    show own_R p.tables e below P (T122.setTop (mkF m 127 #[.val (.long p0), .second, .val (.long p1), .second, .val (.long p2), .second, .val (.int p3), .val (.int p4), .val (.int p5), .val (.int (2 : Int32)), .val (.long spn), .second, .val (.long t1), .second, .val (.long t2), .second, .val (.long t3), .second, .val (.int va), .val (.int vb), .val (.int vc), .val (.ref b119), .unset, .unset, .unset, .unset, .unset] [(.int (2 : Int32))]))
    refine own_fwd (fun tt kt => XS.iconst X122.here hx rfl (hb hby at_127) kt) ?_
    show own_R p.tables e below P (T122.setTop (mkF m 128 #[.val (.long p0), .second, .val (.long p1), .second, .val (.long p2), .second, .val (.int p3), .val (.int p4), .val (.int p5), .val (.int (2 : Int32)), .val (.long spn), .second, .val (.long t1), .second, .val (.long t2), .second, .val (.long t3), .second, .val (.int va), .val (.int vb), .val (.int vc), .val (.ref b119), .unset, .unset, .unset, .unset, .unset] [(.int (2 : Int32)), (.int (2 : Int32))]))
    have hc123 : ¬ ((2 : Int32) < (2 : Int32)) := (by decide)
    refine own_fwd (fun tt kt => XS.icmpNo X122.here hx rfl (hb hby at_128) rfl (flt hc123).1 kt) ?_
    show own_R p.tables e below P (T122.setTop (mkF m 131 #[.val (.long p0), .second, .val (.long p1), .second, .val (.long p2), .second, .val (.int p3), .val (.int p4), .val (.int p5), .val (.int (2 : Int32)), .val (.long spn), .second, .val (.long t1), .second, .val (.long t2), .second, .val (.long t3), .second, .val (.int va), .val (.int vb), .val (.int vc), .val (.ref b119), .unset, .unset, .unset, .unset, .unset] []))
    refine own_fwd (fun tt kt => XS.aload X122.here hx rfl (hb hby at_131) rfl rfl kt) ?_
    show own_R p.tables e below P (T122.setTop (mkF m 133 #[.val (.long p0), .second, .val (.long p1), .second, .val (.long p2), .second, .val (.int p3), .val (.int p4), .val (.int p5), .val (.int (2 : Int32)), .val (.long spn), .second, .val (.long t1), .second, .val (.long t2), .second, .val (.long t3), .second, .val (.int va), .val (.int vb), .val (.int vc), .val (.ref b119), .unset, .unset, .unset, .unset, .unset] [(.ref b119)]))
    refine own_fwd (fun tt kt => XS.lload X122.here hx rfl (hb hby at_133) rfl kt) ?_
    show own_R p.tables e below P (T122.setTop (mkF m 135 #[.val (.long p0), .second, .val (.long p1), .second, .val (.long p2), .second, .val (.int p3), .val (.int p4), .val (.int p5), .val (.int (2 : Int32)), .val (.long spn), .second, .val (.long t1), .second, .val (.long t2), .second, .val (.long t3), .second, .val (.int va), .val (.int vb), .val (.int vc), .val (.ref b119), .unset, .unset, .unset, .unset, .unset] [(.long t2), (.ref b119)]))
    refine own_fwd (fun tt kt => XS.iload X122.here hx rfl (hb hby at_135) rfl kt) ?_
    show own_R p.tables e below P (T122.setTop (mkF m 137 #[.val (.long p0), .second, .val (.long p1), .second, .val (.long p2), .second, .val (.int p3), .val (.int p4), .val (.int p5), .val (.int (2 : Int32)), .val (.long spn), .second, .val (.long t1), .second, .val (.long t2), .second, .val (.long t3), .second, .val (.int va), .val (.int vb), .val (.int vc), .val (.ref b119), .unset, .unset, .unset, .unset, .unset] [(.int vb), (.long t2), (.ref b119)]))
    obtain ⟨cq124, kq124, q124a, q124b, q124c⟩ := isOf hZ e122 E122_
    obtain ⟨_, _, ⟨T124, L124, k124, n124⟩, -, X124, ⟨Lc124, hQ124, l124, y124, z124⟩, st124⟩ := X122.virtualBack hx (y := (⟨"com/example/ramp99/ramp99/service/policy/SizeHistory", "add", "(JI)V"⟩ : MethodName)) (z := (⟨"com/example/ramp99/ramp99/service/policy/SizeHistory", "add", "(JI)V"⟩ : MethodName)) hown (mvT hZ (hw _ (List.mem_of_getElem? (i := 20) rfl))) (mvT hZ (hw _ (List.mem_of_getElem? (i := 21) rfl))) (notFace_of_selects (args := #[]) (mvT hZ (hw _ (List.mem_of_getElem? (i := 23) rfl)))) (mvT hZ (hw _ (List.mem_of_getElem? (i := 23) rfl))) (mvT hZ (hw _ (List.mem_of_getElem? (i := 22) rfl))) (by decide) (backOf (W := 0) (own_rm3 l Z a0 hw [] b119 tA sA t2 spn vb bf1 fi1 ct1 ft1 fs1 F1 K1_ h122 n0 Z122 E122_ F122a F122b F122c F122d F122e F122f A122_ B122_ ge_b119 get_ ges_ nt_b119 ns_b119 nts hF1 hK1 (by omega) asc1 (fun j a b => by have := le1 j a b; omega) (own_subL _ _ (by omega) (by omega) sb1 sb2)) hZ (hw _ (List.mem_of_getElem? (i := 24) rfl)) (hw _ (List.mem_of_getElem? (i := 3) rfl)) (by decide) (by decide)) q124a q124c (g := (mkF m 137 #[.val (.long p0), .second, .val (.long p1), .second, .val (.long p2), .second, .val (.int p3), .val (.int p4), .val (.int p5), .val (.int (2 : Int32)), .val (.long spn), .second, .val (.long t1), .second, .val (.long t2), .second, .val (.long t3), .second, .val (.int va), .val (.int vb), .val (.int vc), .val (.ref b119), .unset, .unset, .unset, .unset, .unset] [(.int vb), (.long t2), (.ref b119)])) rfl (by rw [hml]; rfl) (Steps.refl _) (argsL := [(.long t2), (.int vb)]) (rest := []) (lenOf own_pd0 rfl) rfl (by show 2 * 0 + _ ≤ _; exact Nat.le_of_eq rfl) (hb hby at_137) (fun _ _ => ⟨rfl, e122, (by decide : 3 + 0 ≤ _), (by decide : 38 + 0 ≤ _)⟩)
    dsimp only [Pt.U, Pt.locs, Pt.cells, Pt.slots] at X124 l124 y124 z124 st124 hQ124
    subst l124 y124 z124
    obtain ⟨h124, e124⟩ : ∃ z, T124.heap = z := ⟨_, rfl⟩
    rw [e124] at hQ124
    obtain ⟨hq124, N124q, K124, F2, K2_, fi2, ct2, bf2, ft2, fs2, A124_, B124_, hF2, hK2, bd2, asc2, le2, val2, E124_, F124a, F124b, F124c, F124d, F124e, F124f⟩ := hQ124
    subst hq124
    have N124 := Fr.app N122 N124q
    have E122__x124 := E122_.keep K124
    have Z124 : n0 ≤ h124.size := Nat.le_trans Z122 K124.1
    have Y124 : h0.size ≤ h124.size := Nat.le_trans Y122 K124.1
    refine own_trn st124 ?_
    show own_R p.tables e below P (T124.setTop (mkF m 140 #[.val (.long p0), .second, .val (.long p1), .second, .val (.long p2), .second, .val (.int p3), .val (.int p4), .val (.int p5), .val (.int (2 : Int32)), .val (.long spn), .second, .val (.long t1), .second, .val (.long t2), .second, .val (.long t3), .second, .val (.int va), .val (.int vb), .val (.int vc), .val (.ref b119), .unset, .unset, .unset, .unset, .unset] []))
    refine own_fwd (fun tt kt => XS.iload X124.here hx rfl (hb hby at_140) rfl kt) ?_
    show own_R p.tables e below P (T124.setTop (mkF m 142 #[.val (.long p0), .second, .val (.long p1), .second, .val (.long p2), .second, .val (.int p3), .val (.int p4), .val (.int p5), .val (.int (2 : Int32)), .val (.long spn), .second, .val (.long t1), .second, .val (.long t2), .second, .val (.long t3), .second, .val (.int va), .val (.int vb), .val (.int vc), .val (.ref b119), .unset, .unset, .unset, .unset, .unset] [(.int (2 : Int32))]))
    refine own_fwd (fun tt kt => XS.iconst X124.here hx rfl (hb hby at_142) kt) ?_
    show own_R p.tables e below P (T124.setTop (mkF m 143 #[.val (.long p0), .second, .val (.long p1), .second, .val (.long p2), .second, .val (.int p3), .val (.int p4), .val (.int p5), .val (.int (2 : Int32)), .val (.long spn), .second, .val (.long t1), .second, .val (.long t2), .second, .val (.long t3), .second, .val (.int va), .val (.int vb), .val (.int vc), .val (.ref b119), .unset, .unset, .unset, .unset, .unset] [(.int (3 : Int32)), (.int (2 : Int32))]))
    have hc125 : (2 : Int32) < (3 : Int32) := (by decide)
    refine own_fwd (fun tt kt => XS.icmpYes X124.here hx rfl (pc0 := 143) (pc' := 155) rfl (hb hby at_143) rfl (tlt hc125).1 (by decide) (by decide) kt) ?_
    show own_R p.tables e below P (T124.setTop (mkF m 155 #[.val (.long p0), .second, .val (.long p1), .second, .val (.long p2), .second, .val (.int p3), .val (.int p4), .val (.int p5), .val (.int (2 : Int32)), .val (.long spn), .second, .val (.long t1), .second, .val (.long t2), .second, .val (.long t3), .second, .val (.int va), .val (.int vb), .val (.int vc), .val (.ref b119), .unset, .unset, .unset, .unset, .unset] []))
    refine own_fwd (fun tt kt => XS.iload X124.here hx rfl (hb hby at_155) rfl kt) ?_
    show own_R p.tables e below P (T124.setTop (mkF m 157 #[.val (.long p0), .second, .val (.long p1), .second, .val (.long p2), .second, .val (.int p3), .val (.int p4), .val (.int p5), .val (.int (2 : Int32)), .val (.long spn), .second, .val (.long t1), .second, .val (.long t2), .second, .val (.long t3), .second, .val (.int va), .val (.int vb), .val (.int vc), .val (.ref b119), .unset, .unset, .unset, .unset, .unset] [(.int (2 : Int32))]))
    refine own_fwd (fun tt kt => XS.iconst X124.here hx rfl (hb hby at_157) kt) ?_
    show own_R p.tables e below P (T124.setTop (mkF m 158 #[.val (.long p0), .second, .val (.long p1), .second, .val (.long p2), .second, .val (.int p3), .val (.int p4), .val (.int p5), .val (.int (2 : Int32)), .val (.long spn), .second, .val (.long t1), .second, .val (.long t2), .second, .val (.long t3), .second, .val (.int va), .val (.int vb), .val (.int vc), .val (.ref b119), .unset, .unset, .unset, .unset, .unset] [(.int (3 : Int32)), (.int (2 : Int32))]))
    have hc126 : ¬ ((2 : Int32) = (3 : Int32)) := (by decide)
    refine own_fwd (fun tt kt => XS.icmpYes X124.here hx rfl (pc0 := 158) (pc' := 166) rfl (hb hby at_158) rfl (feq hc126).2 (by decide) (by decide) kt) ?_
    show own_R p.tables e below P (T124.setTop (mkF m 166 #[.val (.long p0), .second, .val (.long p1), .second, .val (.long p2), .second, .val (.int p3), .val (.int p4), .val (.int p5), .val (.int (2 : Int32)), .val (.long spn), .second, .val (.long t1), .second, .val (.long t2), .second, .val (.long t3), .second, .val (.int va), .val (.int vb), .val (.int vc), .val (.ref b119), .unset, .unset, .unset, .unset, .unset] []))
    refine own_fwd (fun tt kt => XS.iload X124.here hx rfl (hb hby at_166) rfl kt) ?_
    show own_R p.tables e below P (T124.setTop (mkF m 168 #[.val (.long p0), .second, .val (.long p1), .second, .val (.long p2), .second, .val (.int p3), .val (.int p4), .val (.int p5), .val (.int (2 : Int32)), .val (.long spn), .second, .val (.long t1), .second, .val (.long t2), .second, .val (.long t3), .second, .val (.int va), .val (.int vb), .val (.int vc), .val (.ref b119), .unset, .unset, .unset, .unset, .unset] [(.int (2 : Int32))]))
    refine own_fwd (fun tt kt => XS.iconst X124.here hx rfl (hb hby at_168) kt) ?_
    show own_R p.tables e below P (T124.setTop (mkF m 169 #[.val (.long p0), .second, .val (.long p1), .second, .val (.long p2), .second, .val (.int p3), .val (.int p4), .val (.int p5), .val (.int (2 : Int32)), .val (.long spn), .second, .val (.long t1), .second, .val (.long t2), .second, .val (.long t3), .second, .val (.int va), .val (.int vb), .val (.int vc), .val (.ref b119), .unset, .unset, .unset, .unset, .unset] [(.int (2 : Int32)), (.int (2 : Int32))]))
    have hc127 : (2 : Int32) = (2 : Int32) := (by decide)
    refine own_fwd (fun tt kt => XS.icmpNo X124.here hx rfl (hb hby at_169) rfl (teq hc127).2 kt) ?_
    show own_R p.tables e below P (T124.setTop (mkF m 172 #[.val (.long p0), .second, .val (.long p1), .second, .val (.long p2), .second, .val (.int p3), .val (.int p4), .val (.int p5), .val (.int (2 : Int32)), .val (.long spn), .second, .val (.long t1), .second, .val (.long t2), .second, .val (.long t3), .second, .val (.int va), .val (.int vb), .val (.int vc), .val (.ref b119), .unset, .unset, .unset, .unset, .unset] []))
    refine own_fwd (fun tt kt => XS.lload X124.here hx rfl (hb hby at_172) rfl kt) ?_
    show own_R p.tables e below P (T124.setTop (mkF m 174 #[.val (.long p0), .second, .val (.long p1), .second, .val (.long p2), .second, .val (.int p3), .val (.int p4), .val (.int p5), .val (.int (2 : Int32)), .val (.long spn), .second, .val (.long t1), .second, .val (.long t2), .second, .val (.long t3), .second, .val (.int va), .val (.int vb), .val (.int vc), .val (.ref b119), .unset, .unset, .unset, .unset, .unset] [(.long t2)]))
    refine own_fwd (fun tt kt => XS.goto X124.here hx rfl (pc0 := 174) (pc' := 179) rfl (hb hby at_174) (by decide) (by decide) kt) ?_
    show own_R p.tables e below P (T124.setTop (mkF m 179 #[.val (.long p0), .second, .val (.long p1), .second, .val (.long p2), .second, .val (.int p3), .val (.int p4), .val (.int p5), .val (.int (2 : Int32)), .val (.long spn), .second, .val (.long t1), .second, .val (.long t2), .second, .val (.long t3), .second, .val (.int va), .val (.int vb), .val (.int vc), .val (.ref b119), .unset, .unset, .unset, .unset, .unset] [(.long t2)]))
    refine own_fwd (fun tt kt => XS.lstore X124.here hx rfl (hb hby at_179) rfl (l' := #[.val (.long p0), .second, .val (.long p1), .second, .val (.long p2), .second, .val (.int p3), .val (.int p4), .val (.int p5), .val (.int (2 : Int32)), .val (.long spn), .second, .val (.long t1), .second, .val (.long t2), .second, .val (.long t3), .second, .val (.int va), .val (.int vb), .val (.int vc), .val (.ref b119), .val (.long t2), .second, .unset, .unset, .unset]) rfl kt) ?_
    show own_R p.tables e below P (T124.setTop (mkF m 181 #[.val (.long p0), .second, .val (.long p1), .second, .val (.long p2), .second, .val (.int p3), .val (.int p4), .val (.int p5), .val (.int (2 : Int32)), .val (.long spn), .second, .val (.long t1), .second, .val (.long t2), .second, .val (.long t3), .second, .val (.int va), .val (.int vb), .val (.int vc), .val (.ref b119), .val (.long t2), .second, .unset, .unset, .unset] []))
    refine own_fwd (fun tt kt => XS.lload X124.here hx rfl (hb hby at_181) rfl kt) ?_
    show own_R p.tables e below P (T124.setTop (mkF m 183 #[.val (.long p0), .second, .val (.long p1), .second, .val (.long p2), .second, .val (.int p3), .val (.int p4), .val (.int p5), .val (.int (2 : Int32)), .val (.long spn), .second, .val (.long t1), .second, .val (.long t2), .second, .val (.long t3), .second, .val (.int va), .val (.int vb), .val (.int vc), .val (.ref b119), .val (.long t2), .second, .unset, .unset, .unset] [(.long t2)]))
    refine own_fwd (fun tt kt => XS.lload X124.here hx rfl (hb hby at_183) rfl kt) ?_
    show own_R p.tables e below P (T124.setTop (mkF m 185 #[.val (.long p0), .second, .val (.long p1), .second, .val (.long p2), .second, .val (.int p3), .val (.int p4), .val (.int p5), .val (.int (2 : Int32)), .val (.long spn), .second, .val (.long t1), .second, .val (.long t2), .second, .val (.long t3), .second, .val (.int va), .val (.int vb), .val (.int vc), .val (.ref b119), .val (.long t2), .second, .unset, .unset, .unset] [(.long spn), (.long t2)]))
    refine own_fwd (fun tt kt => XS.lsub X124.here hx rfl (hb hby at_185) rfl kt) ?_
    show own_R p.tables e below P (T124.setTop (mkF m 186 #[.val (.long p0), .second, .val (.long p1), .second, .val (.long p2), .second, .val (.int p3), .val (.int p4), .val (.int p5), .val (.int (2 : Int32)), .val (.long spn), .second, .val (.long t1), .second, .val (.long t2), .second, .val (.long t3), .second, .val (.int va), .val (.int vb), .val (.int vc), .val (.ref b119), .val (.long t2), .second, .unset, .unset, .unset] [(.long (t2 - spn))]))
    refine own_fwd (fun tt kt => XS.lload X124.here hx rfl (hb hby at_186) rfl kt) ?_
    show own_R p.tables e below P (T124.setTop (mkF m 188 #[.val (.long p0), .second, .val (.long p1), .second, .val (.long p2), .second, .val (.int p3), .val (.int p4), .val (.int p5), .val (.int (2 : Int32)), .val (.long spn), .second, .val (.long t1), .second, .val (.long t2), .second, .val (.long t3), .second, .val (.int va), .val (.int vb), .val (.int vc), .val (.ref b119), .val (.long t2), .second, .unset, .unset, .unset] [(.long p2), (.long (t2 - spn))]))
    refine own_fwd (fun tt kt => X124.ldc2Long hx hown (mvT hZ (hw _ (List.mem_of_getElem? (i := 0) rfl))) (g := (mkF m 188 #[.val (.long p0), .second, .val (.long p1), .second, .val (.long p2), .second, .val (.int p3), .val (.int p4), .val (.int p5), .val (.int (2 : Int32)), .val (.long spn), .second, .val (.long t1), .second, .val (.long t2), .second, .val (.long t3), .second, .val (.int va), .val (.int vb), .val (.int vc), .val (.ref b119), .val (.long t2), .second, .unset, .unset, .unset] [(.long p2), (.long (t2 - spn))])) rfl (hb hby at_188) tt kt) ?_
    show own_R p.tables e below P (T124.setTop (mkF m 191 #[.val (.long p0), .second, .val (.long p1), .second, .val (.long p2), .second, .val (.int p3), .val (.int p4), .val (.int p5), .val (.int (2 : Int32)), .val (.long spn), .second, .val (.long t1), .second, .val (.long t2), .second, .val (.long t3), .second, .val (.int va), .val (.int vb), .val (.int vc), .val (.ref b119), .val (.long t2), .second, .unset, .unset, .unset] [(.long (4611686018427387903 : Int64)), (.long p2), (.long (t2 - spn))]))
    refine own_fwd (fun tt kt => XS.land X124.here hx rfl (hb hby at_191) rfl kt) ?_
    show own_R p.tables e below P (T124.setTop (mkF m 192 #[.val (.long p0), .second, .val (.long p1), .second, .val (.long p2), .second, .val (.int p3), .val (.int p4), .val (.int p5), .val (.int (2 : Int32)), .val (.long spn), .second, .val (.long t1), .second, .val (.long t2), .second, .val (.long t3), .second, .val (.int va), .val (.int vb), .val (.int vc), .val (.ref b119), .val (.long t2), .second, .unset, .unset, .unset] [(.long (p2 &&& (4611686018427387903 : Int64))), (.long (t2 - spn))]))
    refine own_fwd (fun tt kt => XS.ladd X124.here hx rfl (hb hby at_192) rfl kt) ?_
    show own_R p.tables e below P (T124.setTop (mkF m 193 #[.val (.long p0), .second, .val (.long p1), .second, .val (.long p2), .second, .val (.int p3), .val (.int p4), .val (.int p5), .val (.int (2 : Int32)), .val (.long spn), .second, .val (.long t1), .second, .val (.long t2), .second, .val (.long t3), .second, .val (.int va), .val (.int vb), .val (.int vc), .val (.ref b119), .val (.long t2), .second, .unset, .unset, .unset] [(.long ((t2 - spn) + (p2 &&& (4611686018427387903 : Int64))))]))
    have qb := own_span p2 4611686018427387903 (by decide) (by decide)
    have q1 := own_subL t2 spn (by omega) (by omega) sb1 sb2
    have q2 := own_qry (t2 - spn) (p2 &&& (4611686018427387903 : Int64)) (by omega) (by omega)
    obtain ⟨qq, hg_qq⟩ : ∃ z, ((t2 - spn) + (p2 &&& (4611686018427387903 : Int64))) = z := ⟨_, rfl⟩
    rw [hg_qq]
    show own_R p.tables e below P (T124.setTop (mkF m 193 #[.val (.long p0), .second, .val (.long p1), .second, .val (.long p2), .second, .val (.int p3), .val (.int p4), .val (.int p5), .val (.int (2 : Int32)), .val (.long spn), .second, .val (.long t1), .second, .val (.long t2), .second, .val (.long t3), .second, .val (.int va), .val (.int vb), .val (.int vc), .val (.ref b119), .val (.long t2), .second, .unset, .unset, .unset] [(.long qq)]))
    rw [hg_qq] at q2
    refine own_fwd (fun tt kt => XS.lstore X124.here hx rfl (hb hby at_193) rfl (l' := #[.val (.long p0), .second, .val (.long p1), .second, .val (.long p2), .second, .val (.int p3), .val (.int p4), .val (.int p5), .val (.int (2 : Int32)), .val (.long spn), .second, .val (.long t1), .second, .val (.long t2), .second, .val (.long t3), .second, .val (.int va), .val (.int vb), .val (.int vc), .val (.ref b119), .val (.long t2), .second, .val (.long qq), .second, .unset]) rfl kt) ?_
    show own_R p.tables e below P (T124.setTop (mkF m 195 #[.val (.long p0), .second, .val (.long p1), .second, .val (.long p2), .second, .val (.int p3), .val (.int p4), .val (.int p5), .val (.int (2 : Int32)), .val (.long spn), .second, .val (.long t1), .second, .val (.long t2), .second, .val (.long t3), .second, .val (.int va), .val (.int vb), .val (.int vc), .val (.ref b119), .val (.long t2), .second, .val (.long qq), .second, .unset] []))
    refine own_fwd (fun tt kt => XS.iload X124.here hx rfl (hb hby at_195) rfl kt) ?_
    show own_R p.tables e below P (T124.setTop (mkF m 197 #[.val (.long p0), .second, .val (.long p1), .second, .val (.long p2), .second, .val (.int p3), .val (.int p4), .val (.int p5), .val (.int (2 : Int32)), .val (.long spn), .second, .val (.long t1), .second, .val (.long t2), .second, .val (.long t3), .second, .val (.int va), .val (.int vb), .val (.int vc), .val (.ref b119), .val (.long t2), .second, .val (.long qq), .second, .unset] [(.int p4)]))
    refine own_fwd (fun tt kt => XS.istore X124.here hx rfl (hb hby at_197) rfl (l' := #[.val (.long p0), .second, .val (.long p1), .second, .val (.long p2), .second, .val (.int p3), .val (.int p4), .val (.int p5), .val (.int (2 : Int32)), .val (.long spn), .second, .val (.long t1), .second, .val (.long t2), .second, .val (.long t3), .second, .val (.int va), .val (.int vb), .val (.int vc), .val (.ref b119), .val (.long t2), .second, .val (.long qq), .second, .val (.int p4)]) rfl kt) ?_
    show own_R p.tables e below P (T124.setTop (mkF m 199 #[.val (.long p0), .second, .val (.long p1), .second, .val (.long p2), .second, .val (.int p3), .val (.int p4), .val (.int p5), .val (.int (2 : Int32)), .val (.long spn), .second, .val (.long t1), .second, .val (.long t2), .second, .val (.long t3), .second, .val (.int va), .val (.int vb), .val (.int vc), .val (.ref b119), .val (.long t2), .second, .val (.long qq), .second, .val (.int p4)] []))
    refine own_fwd (fun tt kt => XS.iload X124.here hx rfl (hb hby at_199) rfl kt) ?_
    show own_R p.tables e below P (T124.setTop (mkF m 201 #[.val (.long p0), .second, .val (.long p1), .second, .val (.long p2), .second, .val (.int p3), .val (.int p4), .val (.int p5), .val (.int (2 : Int32)), .val (.long spn), .second, .val (.long t1), .second, .val (.long t2), .second, .val (.long t3), .second, .val (.int va), .val (.int vb), .val (.int vc), .val (.ref b119), .val (.long t2), .second, .val (.long qq), .second, .val (.int p4)] [(.int (2 : Int32))]))
    refine own_fwd (fun tt kt => XS.iconst X124.here hx rfl (hb hby at_201) kt) ?_
    show own_R p.tables e below P (T124.setTop (mkF m 202 #[.val (.long p0), .second, .val (.long p1), .second, .val (.long p2), .second, .val (.int p3), .val (.int p4), .val (.int p5), .val (.int (2 : Int32)), .val (.long spn), .second, .val (.long t1), .second, .val (.long t2), .second, .val (.long t3), .second, .val (.int va), .val (.int vb), .val (.int vc), .val (.ref b119), .val (.long t2), .second, .val (.long qq), .second, .val (.int p4)] [(.int (1 : Int32)), (.int (2 : Int32))]))
    have j138 : ∀ P, own_R p.tables e below P (T124.setTop (mkF m 253 #[.val (.long p0), .second, .val (.long p1), .second, .val (.long p2), .second, .val (.int p3), .val (.int p4), .val (.int p5), .val (.int (2 : Int32)), .val (.long spn), .second, .val (.long t1), .second, .val (.long t2), .second, .val (.long t3), .second, .val (.int va), .val (.int vb), .val (.int vc), .val (.ref b119), .val (.long t2), .second, .val (.long qq), .second, .val (.int (if (lcmpW qq t1) < (0 : Int32) then (if (lcmpW qq t2) < (0 : Int32) then p4 else vb) else (if (lcmpW qq t2) < (0 : Int32) then va else vb)))] [])) → own_R p.tables e below P (T124.setTop (mkF m 202 #[.val (.long p0), .second, .val (.long p1), .second, .val (.long p2), .second, .val (.int p3), .val (.int p4), .val (.int p5), .val (.int (2 : Int32)), .val (.long spn), .second, .val (.long t1), .second, .val (.long t2), .second, .val (.long t3), .second, .val (.int va), .val (.int vb), .val (.int vc), .val (.ref b119), .val (.long t2), .second, .val (.long qq), .second, .val (.int p4)] [(.int (1 : Int32)), (.int (2 : Int32))])) := by
      intro P k
      have hc128 : ¬ ((2 : Int32) < (1 : Int32)) := (by decide)
      refine own_fwd (fun tt kt => XS.icmpNo X124.here hx rfl (hb hby at_202) rfl (flt hc128).1 kt) ?_
      show own_R p.tables e below P (T124.setTop (mkF m 205 #[.val (.long p0), .second, .val (.long p1), .second, .val (.long p2), .second, .val (.int p3), .val (.int p4), .val (.int p5), .val (.int (2 : Int32)), .val (.long spn), .second, .val (.long t1), .second, .val (.long t2), .second, .val (.long t3), .second, .val (.int va), .val (.int vb), .val (.int vc), .val (.ref b119), .val (.long t2), .second, .val (.long qq), .second, .val (.int p4)] []))
      refine own_fwd (fun tt kt => XS.lload X124.here hx rfl (hb hby at_205) rfl kt) ?_
      show own_R p.tables e below P (T124.setTop (mkF m 207 #[.val (.long p0), .second, .val (.long p1), .second, .val (.long p2), .second, .val (.int p3), .val (.int p4), .val (.int p5), .val (.int (2 : Int32)), .val (.long spn), .second, .val (.long t1), .second, .val (.long t2), .second, .val (.long t3), .second, .val (.int va), .val (.int vb), .val (.int vc), .val (.ref b119), .val (.long t2), .second, .val (.long qq), .second, .val (.int p4)] [(.long qq)]))
      refine own_fwd (fun tt kt => XS.lload X124.here hx rfl (hb hby at_207) rfl kt) ?_
      show own_R p.tables e below P (T124.setTop (mkF m 209 #[.val (.long p0), .second, .val (.long p1), .second, .val (.long p2), .second, .val (.int p3), .val (.int p4), .val (.int p5), .val (.int (2 : Int32)), .val (.long spn), .second, .val (.long t1), .second, .val (.long t2), .second, .val (.long t3), .second, .val (.int va), .val (.int vb), .val (.int vc), .val (.ref b119), .val (.long t2), .second, .val (.long qq), .second, .val (.int p4)] [(.long t1), (.long qq)]))
      refine own_fwd (fun tt kt => XS.lcmp X124.here hx rfl (hb hby at_209) rfl kt) ?_
      show own_R p.tables e below P (T124.setTop (mkF m 210 #[.val (.long p0), .second, .val (.long p1), .second, .val (.long p2), .second, .val (.int p3), .val (.int p4), .val (.int p5), .val (.int (2 : Int32)), .val (.long spn), .second, .val (.long t1), .second, .val (.long t2), .second, .val (.long t3), .second, .val (.int va), .val (.int vb), .val (.int vc), .val (.ref b119), .val (.long t2), .second, .val (.long qq), .second, .val (.int p4)] [(.int (lcmpW qq t1))]))
      by_cases hc129 : (lcmpW qq t1) < (0 : Int32)
      · try simp only [if_pos hc129] at k
        refine own_fwd (fun tt kt => XS.ifYes X124.here hx rfl (pc0 := 210) (pc' := 217) rfl (hb hby at_210) rfl ((if0 _ _).trans (tlt hc129).1) (by decide) (by decide) kt) ?_
        show own_R p.tables e below P (T124.setTop (mkF m 217 #[.val (.long p0), .second, .val (.long p1), .second, .val (.long p2), .second, .val (.int p3), .val (.int p4), .val (.int p5), .val (.int (2 : Int32)), .val (.long spn), .second, .val (.long t1), .second, .val (.long t2), .second, .val (.long t3), .second, .val (.int va), .val (.int vb), .val (.int vc), .val (.ref b119), .val (.long t2), .second, .val (.long qq), .second, .val (.int p4)] []))
        refine own_fwd (fun tt kt => XS.iload X124.here hx rfl (hb hby at_217) rfl kt) ?_
        show own_R p.tables e below P (T124.setTop (mkF m 219 #[.val (.long p0), .second, .val (.long p1), .second, .val (.long p2), .second, .val (.int p3), .val (.int p4), .val (.int p5), .val (.int (2 : Int32)), .val (.long spn), .second, .val (.long t1), .second, .val (.long t2), .second, .val (.long t3), .second, .val (.int va), .val (.int vb), .val (.int vc), .val (.ref b119), .val (.long t2), .second, .val (.long qq), .second, .val (.int p4)] [(.int (2 : Int32))]))
        refine own_fwd (fun tt kt => XS.iconst X124.here hx rfl (hb hby at_219) kt) ?_
        show own_R p.tables e below P (T124.setTop (mkF m 220 #[.val (.long p0), .second, .val (.long p1), .second, .val (.long p2), .second, .val (.int p3), .val (.int p4), .val (.int p5), .val (.int (2 : Int32)), .val (.long spn), .second, .val (.long t1), .second, .val (.long t2), .second, .val (.long t3), .second, .val (.int va), .val (.int vb), .val (.int vc), .val (.ref b119), .val (.long t2), .second, .val (.long qq), .second, .val (.int p4)] [(.int (2 : Int32)), (.int (2 : Int32))]))
        have hc130 : ¬ ((2 : Int32) < (2 : Int32)) := (by decide)
        refine own_fwd (fun tt kt => XS.icmpNo X124.here hx rfl (hb hby at_220) rfl (flt hc130).1 kt) ?_
        show own_R p.tables e below P (T124.setTop (mkF m 223 #[.val (.long p0), .second, .val (.long p1), .second, .val (.long p2), .second, .val (.int p3), .val (.int p4), .val (.int p5), .val (.int (2 : Int32)), .val (.long spn), .second, .val (.long t1), .second, .val (.long t2), .second, .val (.long t3), .second, .val (.int va), .val (.int vb), .val (.int vc), .val (.ref b119), .val (.long t2), .second, .val (.long qq), .second, .val (.int p4)] []))
        refine own_fwd (fun tt kt => XS.lload X124.here hx rfl (hb hby at_223) rfl kt) ?_
        show own_R p.tables e below P (T124.setTop (mkF m 225 #[.val (.long p0), .second, .val (.long p1), .second, .val (.long p2), .second, .val (.int p3), .val (.int p4), .val (.int p5), .val (.int (2 : Int32)), .val (.long spn), .second, .val (.long t1), .second, .val (.long t2), .second, .val (.long t3), .second, .val (.int va), .val (.int vb), .val (.int vc), .val (.ref b119), .val (.long t2), .second, .val (.long qq), .second, .val (.int p4)] [(.long qq)]))
        refine own_fwd (fun tt kt => XS.lload X124.here hx rfl (hb hby at_225) rfl kt) ?_
        show own_R p.tables e below P (T124.setTop (mkF m 227 #[.val (.long p0), .second, .val (.long p1), .second, .val (.long p2), .second, .val (.int p3), .val (.int p4), .val (.int p5), .val (.int (2 : Int32)), .val (.long spn), .second, .val (.long t1), .second, .val (.long t2), .second, .val (.long t3), .second, .val (.int va), .val (.int vb), .val (.int vc), .val (.ref b119), .val (.long t2), .second, .val (.long qq), .second, .val (.int p4)] [(.long t2), (.long qq)]))
        refine own_fwd (fun tt kt => XS.lcmp X124.here hx rfl (hb hby at_227) rfl kt) ?_
        show own_R p.tables e below P (T124.setTop (mkF m 228 #[.val (.long p0), .second, .val (.long p1), .second, .val (.long p2), .second, .val (.int p3), .val (.int p4), .val (.int p5), .val (.int (2 : Int32)), .val (.long spn), .second, .val (.long t1), .second, .val (.long t2), .second, .val (.long t3), .second, .val (.int va), .val (.int vb), .val (.int vc), .val (.ref b119), .val (.long t2), .second, .val (.long qq), .second, .val (.int p4)] [(.int (lcmpW qq t2))]))
        by_cases hc131 : (lcmpW qq t2) < (0 : Int32)
        · try simp only [if_pos hc131] at k
          refine own_fwd (fun tt kt => XS.ifYes X124.here hx rfl (pc0 := 228) (pc' := 235) rfl (hb hby at_228) rfl ((if0 _ _).trans (tlt hc131).1) (by decide) (by decide) kt) ?_
          show own_R p.tables e below P (T124.setTop (mkF m 235 #[.val (.long p0), .second, .val (.long p1), .second, .val (.long p2), .second, .val (.int p3), .val (.int p4), .val (.int p5), .val (.int (2 : Int32)), .val (.long spn), .second, .val (.long t1), .second, .val (.long t2), .second, .val (.long t3), .second, .val (.int va), .val (.int vb), .val (.int vc), .val (.ref b119), .val (.long t2), .second, .val (.long qq), .second, .val (.int p4)] []))
          refine own_fwd (fun tt kt => XS.iload X124.here hx rfl (hb hby at_235) rfl kt) ?_
          show own_R p.tables e below P (T124.setTop (mkF m 237 #[.val (.long p0), .second, .val (.long p1), .second, .val (.long p2), .second, .val (.int p3), .val (.int p4), .val (.int p5), .val (.int (2 : Int32)), .val (.long spn), .second, .val (.long t1), .second, .val (.long t2), .second, .val (.long t3), .second, .val (.int va), .val (.int vb), .val (.int vc), .val (.ref b119), .val (.long t2), .second, .val (.long qq), .second, .val (.int p4)] [(.int (2 : Int32))]))
          refine own_fwd (fun tt kt => XS.iconst X124.here hx rfl (hb hby at_237) kt) ?_
          show own_R p.tables e below P (T124.setTop (mkF m 238 #[.val (.long p0), .second, .val (.long p1), .second, .val (.long p2), .second, .val (.int p3), .val (.int p4), .val (.int p5), .val (.int (2 : Int32)), .val (.long spn), .second, .val (.long t1), .second, .val (.long t2), .second, .val (.long t3), .second, .val (.int va), .val (.int vb), .val (.int vc), .val (.ref b119), .val (.long t2), .second, .val (.long qq), .second, .val (.int p4)] [(.int (3 : Int32)), (.int (2 : Int32))]))
          have hc132 : (2 : Int32) < (3 : Int32) := (by decide)
          refine own_fwd (fun tt kt => XS.icmpYes X124.here hx rfl (pc0 := 238) (pc' := 253) rfl (hb hby at_238) rfl (tlt hc132).1 (by decide) (by decide) kt) ?_
          show own_R p.tables e below P (T124.setTop (mkF m 253 #[.val (.long p0), .second, .val (.long p1), .second, .val (.long p2), .second, .val (.int p3), .val (.int p4), .val (.int p5), .val (.int (2 : Int32)), .val (.long spn), .second, .val (.long t1), .second, .val (.long t2), .second, .val (.long t3), .second, .val (.int va), .val (.int vb), .val (.int vc), .val (.ref b119), .val (.long t2), .second, .val (.long qq), .second, .val (.int p4)] []))
          exact k
        · try simp only [if_neg hc131] at k
          refine own_fwd (fun tt kt => XS.ifNo X124.here hx rfl (hb hby at_228) rfl ((if0 _ _).trans (flt hc131).1) kt) ?_
          show own_R p.tables e below P (T124.setTop (mkF m 231 #[.val (.long p0), .second, .val (.long p1), .second, .val (.long p2), .second, .val (.int p3), .val (.int p4), .val (.int p5), .val (.int (2 : Int32)), .val (.long spn), .second, .val (.long t1), .second, .val (.long t2), .second, .val (.long t3), .second, .val (.int va), .val (.int vb), .val (.int vc), .val (.ref b119), .val (.long t2), .second, .val (.long qq), .second, .val (.int p4)] []))
          refine own_fwd (fun tt kt => XS.iload X124.here hx rfl (hb hby at_231) rfl kt) ?_
          show own_R p.tables e below P (T124.setTop (mkF m 233 #[.val (.long p0), .second, .val (.long p1), .second, .val (.long p2), .second, .val (.int p3), .val (.int p4), .val (.int p5), .val (.int (2 : Int32)), .val (.long spn), .second, .val (.long t1), .second, .val (.long t2), .second, .val (.long t3), .second, .val (.int va), .val (.int vb), .val (.int vc), .val (.ref b119), .val (.long t2), .second, .val (.long qq), .second, .val (.int p4)] [(.int vb)]))
          refine own_fwd (fun tt kt => XS.istore X124.here hx rfl (hb hby at_233) rfl (l' := #[.val (.long p0), .second, .val (.long p1), .second, .val (.long p2), .second, .val (.int p3), .val (.int p4), .val (.int p5), .val (.int (2 : Int32)), .val (.long spn), .second, .val (.long t1), .second, .val (.long t2), .second, .val (.long t3), .second, .val (.int va), .val (.int vb), .val (.int vc), .val (.ref b119), .val (.long t2), .second, .val (.long qq), .second, .val (.int vb)]) rfl kt) ?_
          show own_R p.tables e below P (T124.setTop (mkF m 235 #[.val (.long p0), .second, .val (.long p1), .second, .val (.long p2), .second, .val (.int p3), .val (.int p4), .val (.int p5), .val (.int (2 : Int32)), .val (.long spn), .second, .val (.long t1), .second, .val (.long t2), .second, .val (.long t3), .second, .val (.int va), .val (.int vb), .val (.int vc), .val (.ref b119), .val (.long t2), .second, .val (.long qq), .second, .val (.int vb)] []))
          refine own_fwd (fun tt kt => XS.iload X124.here hx rfl (hb hby at_235) rfl kt) ?_
          show own_R p.tables e below P (T124.setTop (mkF m 237 #[.val (.long p0), .second, .val (.long p1), .second, .val (.long p2), .second, .val (.int p3), .val (.int p4), .val (.int p5), .val (.int (2 : Int32)), .val (.long spn), .second, .val (.long t1), .second, .val (.long t2), .second, .val (.long t3), .second, .val (.int va), .val (.int vb), .val (.int vc), .val (.ref b119), .val (.long t2), .second, .val (.long qq), .second, .val (.int vb)] [(.int (2 : Int32))]))
          refine own_fwd (fun tt kt => XS.iconst X124.here hx rfl (hb hby at_237) kt) ?_
          show own_R p.tables e below P (T124.setTop (mkF m 238 #[.val (.long p0), .second, .val (.long p1), .second, .val (.long p2), .second, .val (.int p3), .val (.int p4), .val (.int p5), .val (.int (2 : Int32)), .val (.long spn), .second, .val (.long t1), .second, .val (.long t2), .second, .val (.long t3), .second, .val (.int va), .val (.int vb), .val (.int vc), .val (.ref b119), .val (.long t2), .second, .val (.long qq), .second, .val (.int vb)] [(.int (3 : Int32)), (.int (2 : Int32))]))
          have hc133 : (2 : Int32) < (3 : Int32) := (by decide)
          refine own_fwd (fun tt kt => XS.icmpYes X124.here hx rfl (pc0 := 238) (pc' := 253) rfl (hb hby at_238) rfl (tlt hc133).1 (by decide) (by decide) kt) ?_
          show own_R p.tables e below P (T124.setTop (mkF m 253 #[.val (.long p0), .second, .val (.long p1), .second, .val (.long p2), .second, .val (.int p3), .val (.int p4), .val (.int p5), .val (.int (2 : Int32)), .val (.long spn), .second, .val (.long t1), .second, .val (.long t2), .second, .val (.long t3), .second, .val (.int va), .val (.int vb), .val (.int vc), .val (.ref b119), .val (.long t2), .second, .val (.long qq), .second, .val (.int vb)] []))
          exact k
      · try simp only [if_neg hc129] at k
        refine own_fwd (fun tt kt => XS.ifNo X124.here hx rfl (hb hby at_210) rfl ((if0 _ _).trans (flt hc129).1) kt) ?_
        show own_R p.tables e below P (T124.setTop (mkF m 213 #[.val (.long p0), .second, .val (.long p1), .second, .val (.long p2), .second, .val (.int p3), .val (.int p4), .val (.int p5), .val (.int (2 : Int32)), .val (.long spn), .second, .val (.long t1), .second, .val (.long t2), .second, .val (.long t3), .second, .val (.int va), .val (.int vb), .val (.int vc), .val (.ref b119), .val (.long t2), .second, .val (.long qq), .second, .val (.int p4)] []))
        refine own_fwd (fun tt kt => XS.iload X124.here hx rfl (hb hby at_213) rfl kt) ?_
        show own_R p.tables e below P (T124.setTop (mkF m 215 #[.val (.long p0), .second, .val (.long p1), .second, .val (.long p2), .second, .val (.int p3), .val (.int p4), .val (.int p5), .val (.int (2 : Int32)), .val (.long spn), .second, .val (.long t1), .second, .val (.long t2), .second, .val (.long t3), .second, .val (.int va), .val (.int vb), .val (.int vc), .val (.ref b119), .val (.long t2), .second, .val (.long qq), .second, .val (.int p4)] [(.int va)]))
        refine own_fwd (fun tt kt => XS.istore X124.here hx rfl (hb hby at_215) rfl (l' := #[.val (.long p0), .second, .val (.long p1), .second, .val (.long p2), .second, .val (.int p3), .val (.int p4), .val (.int p5), .val (.int (2 : Int32)), .val (.long spn), .second, .val (.long t1), .second, .val (.long t2), .second, .val (.long t3), .second, .val (.int va), .val (.int vb), .val (.int vc), .val (.ref b119), .val (.long t2), .second, .val (.long qq), .second, .val (.int va)]) rfl kt) ?_
        show own_R p.tables e below P (T124.setTop (mkF m 217 #[.val (.long p0), .second, .val (.long p1), .second, .val (.long p2), .second, .val (.int p3), .val (.int p4), .val (.int p5), .val (.int (2 : Int32)), .val (.long spn), .second, .val (.long t1), .second, .val (.long t2), .second, .val (.long t3), .second, .val (.int va), .val (.int vb), .val (.int vc), .val (.ref b119), .val (.long t2), .second, .val (.long qq), .second, .val (.int va)] []))
        refine own_fwd (fun tt kt => XS.iload X124.here hx rfl (hb hby at_217) rfl kt) ?_
        show own_R p.tables e below P (T124.setTop (mkF m 219 #[.val (.long p0), .second, .val (.long p1), .second, .val (.long p2), .second, .val (.int p3), .val (.int p4), .val (.int p5), .val (.int (2 : Int32)), .val (.long spn), .second, .val (.long t1), .second, .val (.long t2), .second, .val (.long t3), .second, .val (.int va), .val (.int vb), .val (.int vc), .val (.ref b119), .val (.long t2), .second, .val (.long qq), .second, .val (.int va)] [(.int (2 : Int32))]))
        refine own_fwd (fun tt kt => XS.iconst X124.here hx rfl (hb hby at_219) kt) ?_
        show own_R p.tables e below P (T124.setTop (mkF m 220 #[.val (.long p0), .second, .val (.long p1), .second, .val (.long p2), .second, .val (.int p3), .val (.int p4), .val (.int p5), .val (.int (2 : Int32)), .val (.long spn), .second, .val (.long t1), .second, .val (.long t2), .second, .val (.long t3), .second, .val (.int va), .val (.int vb), .val (.int vc), .val (.ref b119), .val (.long t2), .second, .val (.long qq), .second, .val (.int va)] [(.int (2 : Int32)), (.int (2 : Int32))]))
        have hc134 : ¬ ((2 : Int32) < (2 : Int32)) := (by decide)
        refine own_fwd (fun tt kt => XS.icmpNo X124.here hx rfl (hb hby at_220) rfl (flt hc134).1 kt) ?_
        show own_R p.tables e below P (T124.setTop (mkF m 223 #[.val (.long p0), .second, .val (.long p1), .second, .val (.long p2), .second, .val (.int p3), .val (.int p4), .val (.int p5), .val (.int (2 : Int32)), .val (.long spn), .second, .val (.long t1), .second, .val (.long t2), .second, .val (.long t3), .second, .val (.int va), .val (.int vb), .val (.int vc), .val (.ref b119), .val (.long t2), .second, .val (.long qq), .second, .val (.int va)] []))
        refine own_fwd (fun tt kt => XS.lload X124.here hx rfl (hb hby at_223) rfl kt) ?_
        show own_R p.tables e below P (T124.setTop (mkF m 225 #[.val (.long p0), .second, .val (.long p1), .second, .val (.long p2), .second, .val (.int p3), .val (.int p4), .val (.int p5), .val (.int (2 : Int32)), .val (.long spn), .second, .val (.long t1), .second, .val (.long t2), .second, .val (.long t3), .second, .val (.int va), .val (.int vb), .val (.int vc), .val (.ref b119), .val (.long t2), .second, .val (.long qq), .second, .val (.int va)] [(.long qq)]))
        refine own_fwd (fun tt kt => XS.lload X124.here hx rfl (hb hby at_225) rfl kt) ?_
        show own_R p.tables e below P (T124.setTop (mkF m 227 #[.val (.long p0), .second, .val (.long p1), .second, .val (.long p2), .second, .val (.int p3), .val (.int p4), .val (.int p5), .val (.int (2 : Int32)), .val (.long spn), .second, .val (.long t1), .second, .val (.long t2), .second, .val (.long t3), .second, .val (.int va), .val (.int vb), .val (.int vc), .val (.ref b119), .val (.long t2), .second, .val (.long qq), .second, .val (.int va)] [(.long t2), (.long qq)]))
        refine own_fwd (fun tt kt => XS.lcmp X124.here hx rfl (hb hby at_227) rfl kt) ?_
        show own_R p.tables e below P (T124.setTop (mkF m 228 #[.val (.long p0), .second, .val (.long p1), .second, .val (.long p2), .second, .val (.int p3), .val (.int p4), .val (.int p5), .val (.int (2 : Int32)), .val (.long spn), .second, .val (.long t1), .second, .val (.long t2), .second, .val (.long t3), .second, .val (.int va), .val (.int vb), .val (.int vc), .val (.ref b119), .val (.long t2), .second, .val (.long qq), .second, .val (.int va)] [(.int (lcmpW qq t2))]))
        by_cases hc135 : (lcmpW qq t2) < (0 : Int32)
        · try simp only [if_pos hc135] at k
          refine own_fwd (fun tt kt => XS.ifYes X124.here hx rfl (pc0 := 228) (pc' := 235) rfl (hb hby at_228) rfl ((if0 _ _).trans (tlt hc135).1) (by decide) (by decide) kt) ?_
          show own_R p.tables e below P (T124.setTop (mkF m 235 #[.val (.long p0), .second, .val (.long p1), .second, .val (.long p2), .second, .val (.int p3), .val (.int p4), .val (.int p5), .val (.int (2 : Int32)), .val (.long spn), .second, .val (.long t1), .second, .val (.long t2), .second, .val (.long t3), .second, .val (.int va), .val (.int vb), .val (.int vc), .val (.ref b119), .val (.long t2), .second, .val (.long qq), .second, .val (.int va)] []))
          refine own_fwd (fun tt kt => XS.iload X124.here hx rfl (hb hby at_235) rfl kt) ?_
          show own_R p.tables e below P (T124.setTop (mkF m 237 #[.val (.long p0), .second, .val (.long p1), .second, .val (.long p2), .second, .val (.int p3), .val (.int p4), .val (.int p5), .val (.int (2 : Int32)), .val (.long spn), .second, .val (.long t1), .second, .val (.long t2), .second, .val (.long t3), .second, .val (.int va), .val (.int vb), .val (.int vc), .val (.ref b119), .val (.long t2), .second, .val (.long qq), .second, .val (.int va)] [(.int (2 : Int32))]))
          refine own_fwd (fun tt kt => XS.iconst X124.here hx rfl (hb hby at_237) kt) ?_
          show own_R p.tables e below P (T124.setTop (mkF m 238 #[.val (.long p0), .second, .val (.long p1), .second, .val (.long p2), .second, .val (.int p3), .val (.int p4), .val (.int p5), .val (.int (2 : Int32)), .val (.long spn), .second, .val (.long t1), .second, .val (.long t2), .second, .val (.long t3), .second, .val (.int va), .val (.int vb), .val (.int vc), .val (.ref b119), .val (.long t2), .second, .val (.long qq), .second, .val (.int va)] [(.int (3 : Int32)), (.int (2 : Int32))]))
          have hc136 : (2 : Int32) < (3 : Int32) := (by decide)
          refine own_fwd (fun tt kt => XS.icmpYes X124.here hx rfl (pc0 := 238) (pc' := 253) rfl (hb hby at_238) rfl (tlt hc136).1 (by decide) (by decide) kt) ?_
          show own_R p.tables e below P (T124.setTop (mkF m 253 #[.val (.long p0), .second, .val (.long p1), .second, .val (.long p2), .second, .val (.int p3), .val (.int p4), .val (.int p5), .val (.int (2 : Int32)), .val (.long spn), .second, .val (.long t1), .second, .val (.long t2), .second, .val (.long t3), .second, .val (.int va), .val (.int vb), .val (.int vc), .val (.ref b119), .val (.long t2), .second, .val (.long qq), .second, .val (.int va)] []))
          exact k
        · try simp only [if_neg hc135] at k
          refine own_fwd (fun tt kt => XS.ifNo X124.here hx rfl (hb hby at_228) rfl ((if0 _ _).trans (flt hc135).1) kt) ?_
          show own_R p.tables e below P (T124.setTop (mkF m 231 #[.val (.long p0), .second, .val (.long p1), .second, .val (.long p2), .second, .val (.int p3), .val (.int p4), .val (.int p5), .val (.int (2 : Int32)), .val (.long spn), .second, .val (.long t1), .second, .val (.long t2), .second, .val (.long t3), .second, .val (.int va), .val (.int vb), .val (.int vc), .val (.ref b119), .val (.long t2), .second, .val (.long qq), .second, .val (.int va)] []))
          refine own_fwd (fun tt kt => XS.iload X124.here hx rfl (hb hby at_231) rfl kt) ?_
          show own_R p.tables e below P (T124.setTop (mkF m 233 #[.val (.long p0), .second, .val (.long p1), .second, .val (.long p2), .second, .val (.int p3), .val (.int p4), .val (.int p5), .val (.int (2 : Int32)), .val (.long spn), .second, .val (.long t1), .second, .val (.long t2), .second, .val (.long t3), .second, .val (.int va), .val (.int vb), .val (.int vc), .val (.ref b119), .val (.long t2), .second, .val (.long qq), .second, .val (.int va)] [(.int vb)]))
          refine own_fwd (fun tt kt => XS.istore X124.here hx rfl (hb hby at_233) rfl (l' := #[.val (.long p0), .second, .val (.long p1), .second, .val (.long p2), .second, .val (.int p3), .val (.int p4), .val (.int p5), .val (.int (2 : Int32)), .val (.long spn), .second, .val (.long t1), .second, .val (.long t2), .second, .val (.long t3), .second, .val (.int va), .val (.int vb), .val (.int vc), .val (.ref b119), .val (.long t2), .second, .val (.long qq), .second, .val (.int vb)]) rfl kt) ?_
          show own_R p.tables e below P (T124.setTop (mkF m 235 #[.val (.long p0), .second, .val (.long p1), .second, .val (.long p2), .second, .val (.int p3), .val (.int p4), .val (.int p5), .val (.int (2 : Int32)), .val (.long spn), .second, .val (.long t1), .second, .val (.long t2), .second, .val (.long t3), .second, .val (.int va), .val (.int vb), .val (.int vc), .val (.ref b119), .val (.long t2), .second, .val (.long qq), .second, .val (.int vb)] []))
          refine own_fwd (fun tt kt => XS.iload X124.here hx rfl (hb hby at_235) rfl kt) ?_
          show own_R p.tables e below P (T124.setTop (mkF m 237 #[.val (.long p0), .second, .val (.long p1), .second, .val (.long p2), .second, .val (.int p3), .val (.int p4), .val (.int p5), .val (.int (2 : Int32)), .val (.long spn), .second, .val (.long t1), .second, .val (.long t2), .second, .val (.long t3), .second, .val (.int va), .val (.int vb), .val (.int vc), .val (.ref b119), .val (.long t2), .second, .val (.long qq), .second, .val (.int vb)] [(.int (2 : Int32))]))
          refine own_fwd (fun tt kt => XS.iconst X124.here hx rfl (hb hby at_237) kt) ?_
          show own_R p.tables e below P (T124.setTop (mkF m 238 #[.val (.long p0), .second, .val (.long p1), .second, .val (.long p2), .second, .val (.int p3), .val (.int p4), .val (.int p5), .val (.int (2 : Int32)), .val (.long spn), .second, .val (.long t1), .second, .val (.long t2), .second, .val (.long t3), .second, .val (.int va), .val (.int vb), .val (.int vc), .val (.ref b119), .val (.long t2), .second, .val (.long qq), .second, .val (.int vb)] [(.int (3 : Int32)), (.int (2 : Int32))]))
          have hc137 : (2 : Int32) < (3 : Int32) := (by decide)
          refine own_fwd (fun tt kt => XS.icmpYes X124.here hx rfl (pc0 := 238) (pc' := 253) rfl (hb hby at_238) rfl (tlt hc137).1 (by decide) (by decide) kt) ?_
          show own_R p.tables e below P (T124.setTop (mkF m 253 #[.val (.long p0), .second, .val (.long p1), .second, .val (.long p2), .second, .val (.int p3), .val (.int p4), .val (.int p5), .val (.int (2 : Int32)), .val (.long spn), .second, .val (.long t1), .second, .val (.long t2), .second, .val (.long t3), .second, .val (.int va), .val (.int vb), .val (.int vc), .val (.ref b119), .val (.long t2), .second, .val (.long qq), .second, .val (.int vb)] []))
          exact k
    refine j138 P ?_
    show own_R p.tables e below P (T124.setTop (mkF m 253 #[.val (.long p0), .second, .val (.long p1), .second, .val (.long p2), .second, .val (.int p3), .val (.int p4), .val (.int p5), .val (.int (2 : Int32)), .val (.long spn), .second, .val (.long t1), .second, .val (.long t2), .second, .val (.long t3), .second, .val (.int va), .val (.int vb), .val (.int vc), .val (.ref b119), .val (.long t2), .second, .val (.long qq), .second, .val (.int (if (lcmpW qq t1) < (0 : Int32) then (if (lcmpW qq t2) < (0 : Int32) then p4 else vb) else (if (lcmpW qq t2) < (0 : Int32) then va else vb)))] []))
    refine own_fwd (fun tt kt => XS.aload X124.here hx rfl (hb hby at_253) rfl rfl kt) ?_
    show own_R p.tables e below P (T124.setTop (mkF m 255 #[.val (.long p0), .second, .val (.long p1), .second, .val (.long p2), .second, .val (.int p3), .val (.int p4), .val (.int p5), .val (.int (2 : Int32)), .val (.long spn), .second, .val (.long t1), .second, .val (.long t2), .second, .val (.long t3), .second, .val (.int va), .val (.int vb), .val (.int vc), .val (.ref b119), .val (.long t2), .second, .val (.long qq), .second, .val (.int (if (lcmpW qq t1) < (0 : Int32) then (if (lcmpW qq t2) < (0 : Int32) then p4 else vb) else (if (lcmpW qq t2) < (0 : Int32) then va else vb)))] [(.ref b119)]))
    refine own_fwd (fun tt kt => XS.lload X124.here hx rfl (hb hby at_255) rfl kt) ?_
    show own_R p.tables e below P (T124.setTop (mkF m 257 #[.val (.long p0), .second, .val (.long p1), .second, .val (.long p2), .second, .val (.int p3), .val (.int p4), .val (.int p5), .val (.int (2 : Int32)), .val (.long spn), .second, .val (.long t1), .second, .val (.long t2), .second, .val (.long t3), .second, .val (.int va), .val (.int vb), .val (.int vc), .val (.ref b119), .val (.long t2), .second, .val (.long qq), .second, .val (.int (if (lcmpW qq t1) < (0 : Int32) then (if (lcmpW qq t2) < (0 : Int32) then p4 else vb) else (if (lcmpW qq t2) < (0 : Int32) then va else vb)))] [(.long qq), (.ref b119)]))
    obtain ⟨cq139, kq139, q139a, q139b, q139c⟩ := isOf hZ e124 E124_
    obtain ⟨_, _, ⟨T139, L139, k139, n139⟩, -, X139, ⟨Lc139, hQ139, l139, y139, z139⟩, st139⟩ := X124.virtualBack hx (y := (⟨"com/example/ramp99/ramp99/service/policy/SizeHistory", "at", "(J)I"⟩ : MethodName)) (z := (⟨"com/example/ramp99/ramp99/service/policy/SizeHistory", "at", "(J)I"⟩ : MethodName)) hown (mvT hZ (hw _ (List.mem_of_getElem? (i := 29) rfl))) (mvT hZ (hw _ (List.mem_of_getElem? (i := 30) rfl))) (notFace_of_selects (args := #[]) (mvT hZ (hw _ (List.mem_of_getElem? (i := 32) rfl)))) (mvT hZ (hw _ (List.mem_of_getElem? (i := 32) rfl))) (mvT hZ (hw _ (List.mem_of_getElem? (i := 31) rfl))) (by decide) (backOf (W := 0) (own_rm4 l Z a0 hw [] b119 tA sA qq spn bf2 fi2 ct2 ft2 fs2 F2 K2_ h124 n0 Z124 E124_ F124a F124b F124c F124d F124e F124f A124_ B124_ ge_b119 get_ ges_ nt_b119 ns_b119 nts hF2 hK2 (by omega) asc2) hZ (hw _ (List.mem_of_getElem? (i := 33) rfl)) (hw _ (List.mem_of_getElem? (i := 3) rfl)) (by decide) (by decide)) q139a q139c (g := (mkF m 257 #[.val (.long p0), .second, .val (.long p1), .second, .val (.long p2), .second, .val (.int p3), .val (.int p4), .val (.int p5), .val (.int (2 : Int32)), .val (.long spn), .second, .val (.long t1), .second, .val (.long t2), .second, .val (.long t3), .second, .val (.int va), .val (.int vb), .val (.int vc), .val (.ref b119), .val (.long t2), .second, .val (.long qq), .second, .val (.int (if (lcmpW qq t1) < (0 : Int32) then (if (lcmpW qq t2) < (0 : Int32) then p4 else vb) else (if (lcmpW qq t2) < (0 : Int32) then va else vb)))] [(.long qq), (.ref b119)])) rfl (by rw [hml]; rfl) (Steps.refl _) (argsL := [(.long qq)]) (rest := []) (lenOf own_pd1 rfl) rfl (by show 2 * 0 + _ ≤ _; exact Nat.le_of_eq rfl) (hb hby at_257) (fun _ _ => ⟨rfl, e124, (by decide : 3 + 0 ≤ _), (by decide : 38 + 0 ≤ _)⟩)
    dsimp only [Pt.U, Pt.locs, Pt.cells, Pt.slots] at X139 l139 y139 z139 st139 hQ139
    subst l139 y139 z139
    obtain ⟨h139, e139⟩ : ∃ z, T139.heap = z := ⟨_, rfl⟩
    rw [e139] at hQ139
    obtain ⟨rr, hq139, VV, N139q, q139⟩ := hQ139
    rw [q139] at e139
    subst hq139
    have N139 := Fr.app N124 N139q
    refine own_trn st139 ?_
    show own_R p.tables e below P (T139.setTop (mkF m 260 #[.val (.long p0), .second, .val (.long p1), .second, .val (.long p2), .second, .val (.int p3), .val (.int p4), .val (.int p5), .val (.int (2 : Int32)), .val (.long spn), .second, .val (.long t1), .second, .val (.long t2), .second, .val (.long t3), .second, .val (.int va), .val (.int vb), .val (.int vc), .val (.ref b119), .val (.long t2), .second, .val (.long qq), .second, .val (.int (if (lcmpW qq t1) < (0 : Int32) then (if (lcmpW qq t2) < (0 : Int32) then p4 else vb) else (if (lcmpW qq t2) < (0 : Int32) then va else vb)))] [(.int rr)]))
    refine own_fwd (fun tt kt => XS.iload X139.here hx rfl (hb hby at_260) rfl kt) ?_
    show own_R p.tables e below P (T139.setTop (mkF m 262 #[.val (.long p0), .second, .val (.long p1), .second, .val (.long p2), .second, .val (.int p3), .val (.int p4), .val (.int p5), .val (.int (2 : Int32)), .val (.long spn), .second, .val (.long t1), .second, .val (.long t2), .second, .val (.long t3), .second, .val (.int va), .val (.int vb), .val (.int vc), .val (.ref b119), .val (.long t2), .second, .val (.long qq), .second, .val (.int (if (lcmpW qq t1) < (0 : Int32) then (if (lcmpW qq t2) < (0 : Int32) then p4 else vb) else (if (lcmpW qq t2) < (0 : Int32) then va else vb)))] [(.int (if (lcmpW qq t1) < (0 : Int32) then (if (lcmpW qq t2) < (0 : Int32) then p4 else vb) else (if (lcmpW qq t2) < (0 : Int32) then va else vb))), (.int rr)]))
    have hc140 : rr = (if (lcmpW qq t1) < (0 : Int32) then (if (lcmpW qq t2) < (0 : Int32) then p4 else vb) else (if (lcmpW qq t2) < (0 : Int32) then va else vb)) := by
      simp only [own_ltT]
      rcases val2 qq.toInt rr (by omega) VV with ⟨c2, e2⟩ | ⟨c2, V2⟩
      · rw [e2]; repeat' split
        all_goals first | rfl | (exfalso; omega)
      · skip
        rcases val1 qq.toInt rr (by omega) V2 with ⟨c1, e1⟩ | ⟨c1, V1⟩
        · rw [e1]; repeat' split
          all_goals first | rfl | (exfalso; omega)
        · skip
          obtain ⟨i, -, a2, -, -, e0⟩ := V1
          rw [e0, if_pos (by omega)]
          repeat' split
          all_goals first | rfl | (exfalso; omega)
    refine own_fwd (fun tt kt => XS.icmpNo X139.here hx rfl (hb hby at_262) rfl (teq hc140).2 kt) ?_
    show own_R p.tables e below P (T139.setTop (mkF m 265 #[.val (.long p0), .second, .val (.long p1), .second, .val (.long p2), .second, .val (.int p3), .val (.int p4), .val (.int p5), .val (.int (2 : Int32)), .val (.long spn), .second, .val (.long t1), .second, .val (.long t2), .second, .val (.long t3), .second, .val (.int va), .val (.int vb), .val (.int vc), .val (.ref b119), .val (.long t2), .second, .val (.long qq), .second, .val (.int (if (lcmpW qq t1) < (0 : Int32) then (if (lcmpW qq t2) < (0 : Int32) then p4 else vb) else (if (lcmpW qq t2) < (0 : Int32) then va else vb)))] []))
    refine own_fwd (fun tt kt => XS.iconst X139.here hx rfl (hb hby at_265) kt) ?_
    show own_R p.tables e below P (T139.setTop (mkF m 266 #[.val (.long p0), .second, .val (.long p1), .second, .val (.long p2), .second, .val (.int p3), .val (.int p4), .val (.int p5), .val (.int (2 : Int32)), .val (.long spn), .second, .val (.long t1), .second, .val (.long t2), .second, .val (.long t3), .second, .val (.int va), .val (.int vb), .val (.int vc), .val (.ref b119), .val (.long t2), .second, .val (.long qq), .second, .val (.int (if (lcmpW qq t1) < (0 : Int32) then (if (lcmpW qq t2) < (0 : Int32) then p4 else vb) else (if (lcmpW qq t2) < (0 : Int32) then va else vb)))] [(.int (1 : Int32))]))
    refine own_fwd (fun tt kt => XS.goto X139.here hx rfl (pc0 := 266) (pc' := 270) rfl (hb hby at_266) (by decide) (by decide) kt) ?_
    show own_R p.tables e below P (T139.setTop (mkF m 270 #[.val (.long p0), .second, .val (.long p1), .second, .val (.long p2), .second, .val (.int p3), .val (.int p4), .val (.int p5), .val (.int (2 : Int32)), .val (.long spn), .second, .val (.long t1), .second, .val (.long t2), .second, .val (.long t3), .second, .val (.int va), .val (.int vb), .val (.int vc), .val (.ref b119), .val (.long t2), .second, .val (.long qq), .second, .val (.int (if (lcmpW qq t1) < (0 : Int32) then (if (lcmpW qq t2) < (0 : Int32) then p4 else vb) else (if (lcmpW qq t2) < (0 : Int32) then va else vb)))] [(.int (1 : Int32))]))
    obtain ⟨fs141, hr141, hrun141, hended141, hW141, hsame141⟩ := X139.leave (v := some (.int (1 : Int32))) (fun h => by rw [Bd.returns] at h; cases h)
    refine ⟨_, _, X139.ireturnOut hx (w := (1 : Int32)) Bd.returns rfl (by simp) (hb hby at_270) hr141, fin _ _ ⟨hrun141, hended141, _, _, rfl, ?_, ⟨_, rfl⟩, hW141, hsame141.mono (by decide) (by decide)⟩⟩
    show own_Qlaw Z p0 p1 p2 p3 p4 p5 h0 n0 _ T139.heap _
    rw [e139]
    exact ⟨rfl, N139⟩
  · rw [hs]
    show own_R p.tables e below P (s₁.setTop (mkF m 97 #[.val (.long p0), .second, .val (.long p1), .second, .val (.long p2), .second, .val (.int p3), .val (.int p4), .val (.int p5), .val (.int (3 : Int32)), .val (.long spn), .second, .val (.long t1), .second, .val (.long t2), .second, .val (.long t3), .second, .val (.int va), .val (.int vb), .val (.int vc), .unset, .unset, .unset, .unset, .unset, .unset] []))
    obtain ⟨T142, h142, X142, e142, E142, A142, D142, -, st142⟩ := newO X0 hx hZ hown (hw _ (List.mem_of_getElem? (i := 1) rfl)) (hw _ (List.mem_of_getElem? (i := 2) rfl)) (hw _ (List.mem_of_getElem? (i := 3) rfl)) e0 (g := (mkF m 97 #[.val (.long p0), .second, .val (.long p1), .second, .val (.long p2), .second, .val (.int p3), .val (.int p4), .val (.int p5), .val (.int (3 : Int32)), .val (.long spn), .second, .val (.long t1), .second, .val (.long t2), .second, .val (.long t3), .second, .val (.int va), .val (.int vb), .val (.int vc), .unset, .unset, .unset, .unset, .unset, .unset] [])) rfl (hb hby at_97) (by decide) (by decide)
    obtain ⟨b142, g142⟩ : ∃ z, z = h0.size := ⟨_, rfl⟩
    rw [← g142] at A142 D142 st142
    have ge_b142 : n0 ≤ b142 := by rw [g142]; exact Z0
    have sz_b142 : h0.size ≤ b142 := by rw [g142]; exact (Nat.le_refl h0.size)
    have F142_times : Fld Z h142 b142 "com/example/ramp99/ramp99/service/policy/SizeHistory" "times" "[J" .null := D142 (Or.inl (hw _ (List.mem_of_getElem? (i := 12) rfl))) (ty := (.array .long)) (by decide)
    have F142_sizes : Fld Z h142 b142 "com/example/ramp99/ramp99/service/policy/SizeHistory" "sizes" "[I" .null := D142 (Or.inl (hw _ (List.mem_of_getElem? (i := 15) rfl))) (ty := (.array .int)) (by decide)
    have F142_spanNanos : Fld Z h142 b142 "com/example/ramp99/ramp99/service/policy/SizeHistory" "spanNanos" "J" (.long (0 : Int64)) := D142 (Or.inr (hw _ (List.mem_of_getElem? (i := 17) rfl))) (ty := .long) (by decide)
    have F142_before : Fld Z h142 b142 "com/example/ramp99/ramp99/service/policy/SizeHistory" "before" "I" (.int (0 : Int32)) := D142 (Or.inl (hw _ (List.mem_of_getElem? (i := 19) rfl))) (ty := .int) (by decide)
    have F142_count : Fld Z h142 b142 "com/example/ramp99/ramp99/service/policy/SizeHistory" "count" "I" (.int (0 : Int32)) := D142 (Or.inl (hw _ (List.mem_of_getElem? (i := 26) rfl))) (ty := .int) (by decide)
    have F142_first : Fld Z h142 b142 "com/example/ramp99/ramp99/service/policy/SizeHistory" "first" "I" (.int (0 : Int32)) := D142 (Or.inl (hw _ (List.mem_of_getElem? (i := 28) rfl))) (ty := .int) (by decide)
    have Z142 : n0 ≤ h142.size := Nat.le_trans Z0 E142.1
    have Y142 : h0.size ≤ h142.size := Nat.le_trans (Nat.le_refl h0.size) E142.1
    refine own_fwd st142 ?_
    show own_R p.tables e below P (T142.setTop (mkF m 100 #[.val (.long p0), .second, .val (.long p1), .second, .val (.long p2), .second, .val (.int p3), .val (.int p4), .val (.int p5), .val (.int (3 : Int32)), .val (.long spn), .second, .val (.long t1), .second, .val (.long t2), .second, .val (.long t3), .second, .val (.int va), .val (.int vb), .val (.int vc), .unset, .unset, .unset, .unset, .unset, .unset] [(.ref b142)]))
    refine own_fwd (fun tt kt => XS.dup X142.here hx rfl (hb hby at_100) rfl rfl kt) ?_
    show own_R p.tables e below P (T142.setTop (mkF m 101 #[.val (.long p0), .second, .val (.long p1), .second, .val (.long p2), .second, .val (.int p3), .val (.int p4), .val (.int p5), .val (.int (3 : Int32)), .val (.long spn), .second, .val (.long t1), .second, .val (.long t2), .second, .val (.long t3), .second, .val (.int va), .val (.int vb), .val (.int vc), .unset, .unset, .unset, .unset, .unset, .unset] [(.ref b142), (.ref b142)]))
    refine own_fwd (fun tt kt => XS.lload X142.here hx rfl (hb hby at_101) rfl kt) ?_
    show own_R p.tables e below P (T142.setTop (mkF m 103 #[.val (.long p0), .second, .val (.long p1), .second, .val (.long p2), .second, .val (.int p3), .val (.int p4), .val (.int p5), .val (.int (3 : Int32)), .val (.long spn), .second, .val (.long t1), .second, .val (.long t2), .second, .val (.long t3), .second, .val (.int va), .val (.int vb), .val (.int vc), .unset, .unset, .unset, .unset, .unset, .unset] [(.long spn), (.ref b142), (.ref b142)]))
    refine own_fwd (fun tt kt => XS.iload X142.here hx rfl (hb hby at_103) rfl kt) ?_
    show own_R p.tables e below P (T142.setTop (mkF m 105 #[.val (.long p0), .second, .val (.long p1), .second, .val (.long p2), .second, .val (.int p3), .val (.int p4), .val (.int p5), .val (.int (3 : Int32)), .val (.long spn), .second, .val (.long t1), .second, .val (.long t2), .second, .val (.long t3), .second, .val (.int va), .val (.int vb), .val (.int vc), .unset, .unset, .unset, .unset, .unset, .unset] [(.int p4), (.long spn), (.ref b142), (.ref b142)]))
    obtain ⟨_, _, ⟨T143, L143, k143, n143⟩, -, X143, ⟨Lc143, hQ143, l143, y143, z143⟩, st143⟩ := X142.specialBack hx (y := (⟨"com/example/ramp99/ramp99/service/policy/SizeHistory", "<init>", "(JI)V"⟩ : MethodName)) rfl hown (mvT hZ (hw _ (List.mem_of_getElem? (i := 4) rfl))) (mvT hZ (hw _ (List.mem_of_getElem? (i := 5) rfl))) (mvT hZ (hw _ (List.mem_of_getElem? (i := 6) rfl))) (by decide) (backOf (W := 1) (own_rm1 l Z a0 hw [] b142 spn p4 h142 n0 Z142 A142 F142_times F142_sizes F142_spanNanos F142_before F142_first F142_count ge_b142) hZ (hw _ (List.mem_of_getElem? (i := 6) rfl)) (hw _ (List.mem_of_getElem? (i := 3) rfl)) (by decide) (by decide)) (g := (mkF m 105 #[.val (.long p0), .second, .val (.long p1), .second, .val (.long p2), .second, .val (.int p3), .val (.int p4), .val (.int p5), .val (.int (3 : Int32)), .val (.long spn), .second, .val (.long t1), .second, .val (.long t2), .second, .val (.long t3), .second, .val (.int va), .val (.int vb), .val (.int vc), .unset, .unset, .unset, .unset, .unset, .unset] [(.int p4), (.long spn), (.ref b142), (.ref b142)])) rfl (by rw [hml]; rfl) (Steps.refl _) (a := b142) (argsL := [(.long spn), (.int p4)]) (rest := [(.ref b142)]) (lenOf own_pd0 rfl) rfl (by show 2 * 0 + _ ≤ _; exact Nat.le_of_eq rfl) (hb hby at_105) (fun _ _ => ⟨rfl, e142, (by decide : 1 + 2 ≤ _), (by decide : 6 + 32 ≤ _)⟩)
    dsimp only [Pt.U, Pt.locs, Pt.cells, Pt.slots] at X143 l143 y143 z143 st143 hQ143
    subst l143 y143 z143
    obtain ⟨h143, e143⟩ : ∃ z, T143.heap = z := ⟨_, rfl⟩
    rw [e143] at hQ143
    obtain ⟨hq143, N143q, K143, tA, sA, A143_, B143_, szt, szs, nts, E143_, F143a, F143b, F143c, F143d, F143e, F143f⟩ := hQ143
    subst hq143
    have N143 := Fr.app N0 N143q
    have nt_b142 : b142 ≠ tA := Nat.ne_of_lt (Nat.lt_of_lt_of_le A142.lt szt)
    have ns_b142 : b142 ≠ sA := Nat.ne_of_lt (Nat.lt_of_lt_of_le A142.lt szs)
    have get_ : n0 ≤ tA := Nat.le_trans Z142 szt
    have ges_ : n0 ≤ sA := Nat.le_trans Z142 szs
    have A142_x143 := A142.keep K143
    have Z143 : n0 ≤ h143.size := Nat.le_trans Z142 K143.1
    have Y143 : h0.size ≤ h143.size := Nat.le_trans Y142 K143.1
    refine own_trn st143 ?_
    show own_R p.tables e below P (T143.setTop (mkF m 108 #[.val (.long p0), .second, .val (.long p1), .second, .val (.long p2), .second, .val (.int p3), .val (.int p4), .val (.int p5), .val (.int (3 : Int32)), .val (.long spn), .second, .val (.long t1), .second, .val (.long t2), .second, .val (.long t3), .second, .val (.int va), .val (.int vb), .val (.int vc), .unset, .unset, .unset, .unset, .unset, .unset] [(.ref b142)]))
    refine own_fwd (fun tt kt => XS.astore X143.here hx rfl (hb hby at_108) rfl rfl (l' := #[.val (.long p0), .second, .val (.long p1), .second, .val (.long p2), .second, .val (.int p3), .val (.int p4), .val (.int p5), .val (.int (3 : Int32)), .val (.long spn), .second, .val (.long t1), .second, .val (.long t2), .second, .val (.long t3), .second, .val (.int va), .val (.int vb), .val (.int vc), .val (.ref b142), .unset, .unset, .unset, .unset, .unset]) rfl kt) ?_
    show own_R p.tables e below P (T143.setTop (mkF m 110 #[.val (.long p0), .second, .val (.long p1), .second, .val (.long p2), .second, .val (.int p3), .val (.int p4), .val (.int p5), .val (.int (3 : Int32)), .val (.long spn), .second, .val (.long t1), .second, .val (.long t2), .second, .val (.long t3), .second, .val (.int va), .val (.int vb), .val (.int vc), .val (.ref b142), .unset, .unset, .unset, .unset, .unset] []))
    refine own_fwd (fun tt kt => XS.iload X143.here hx rfl (hb hby at_110) rfl kt) ?_
    show own_R p.tables e below P (T143.setTop (mkF m 112 #[.val (.long p0), .second, .val (.long p1), .second, .val (.long p2), .second, .val (.int p3), .val (.int p4), .val (.int p5), .val (.int (3 : Int32)), .val (.long spn), .second, .val (.long t1), .second, .val (.long t2), .second, .val (.long t3), .second, .val (.int va), .val (.int vb), .val (.int vc), .val (.ref b142), .unset, .unset, .unset, .unset, .unset] [(.int (3 : Int32))]))
    refine own_fwd (fun tt kt => XS.iconst X143.here hx rfl (hb hby at_112) kt) ?_
    show own_R p.tables e below P (T143.setTop (mkF m 113 #[.val (.long p0), .second, .val (.long p1), .second, .val (.long p2), .second, .val (.int p3), .val (.int p4), .val (.int p5), .val (.int (3 : Int32)), .val (.long spn), .second, .val (.long t1), .second, .val (.long t2), .second, .val (.long t3), .second, .val (.int va), .val (.int vb), .val (.int vc), .val (.ref b142), .unset, .unset, .unset, .unset, .unset] [(.int (1 : Int32)), (.int (3 : Int32))]))
    have hc144 : ¬ ((3 : Int32) < (1 : Int32)) := (by decide)
    refine own_fwd (fun tt kt => XS.icmpNo X143.here hx rfl (hb hby at_113) rfl (flt hc144).1 kt) ?_
    show own_R p.tables e below P (T143.setTop (mkF m 116 #[.val (.long p0), .second, .val (.long p1), .second, .val (.long p2), .second, .val (.int p3), .val (.int p4), .val (.int p5), .val (.int (3 : Int32)), .val (.long spn), .second, .val (.long t1), .second, .val (.long t2), .second, .val (.long t3), .second, .val (.int va), .val (.int vb), .val (.int vc), .val (.ref b142), .unset, .unset, .unset, .unset, .unset] []))
    refine own_fwd (fun tt kt => XS.aload X143.here hx rfl (hb hby at_116) rfl rfl kt) ?_
    show own_R p.tables e below P (T143.setTop (mkF m 118 #[.val (.long p0), .second, .val (.long p1), .second, .val (.long p2), .second, .val (.int p3), .val (.int p4), .val (.int p5), .val (.int (3 : Int32)), .val (.long spn), .second, .val (.long t1), .second, .val (.long t2), .second, .val (.long t3), .second, .val (.int va), .val (.int vb), .val (.int vc), .val (.ref b142), .unset, .unset, .unset, .unset, .unset] [(.ref b142)]))
    refine own_fwd (fun tt kt => XS.lload X143.here hx rfl (hb hby at_118) rfl kt) ?_
    show own_R p.tables e below P (T143.setTop (mkF m 120 #[.val (.long p0), .second, .val (.long p1), .second, .val (.long p2), .second, .val (.int p3), .val (.int p4), .val (.int p5), .val (.int (3 : Int32)), .val (.long spn), .second, .val (.long t1), .second, .val (.long t2), .second, .val (.long t3), .second, .val (.int va), .val (.int vb), .val (.int vc), .val (.ref b142), .unset, .unset, .unset, .unset, .unset] [(.long t1), (.ref b142)]))
    refine own_fwd (fun tt kt => XS.iload X143.here hx rfl (hb hby at_120) rfl kt) ?_
    show own_R p.tables e below P (T143.setTop (mkF m 122 #[.val (.long p0), .second, .val (.long p1), .second, .val (.long p2), .second, .val (.int p3), .val (.int p4), .val (.int p5), .val (.int (3 : Int32)), .val (.long spn), .second, .val (.long t1), .second, .val (.long t2), .second, .val (.long t3), .second, .val (.int va), .val (.int vb), .val (.int vc), .val (.ref b142), .unset, .unset, .unset, .unset, .unset] [(.int va), (.long t1), (.ref b142)]))
    obtain ⟨cq145, kq145, q145a, q145b, q145c⟩ := isOf hZ e143 E143_
    obtain ⟨_, _, ⟨T145, L145, k145, n145⟩, -, X145, ⟨Lc145, hQ145, l145, y145, z145⟩, st145⟩ := X143.virtualBack hx (y := (⟨"com/example/ramp99/ramp99/service/policy/SizeHistory", "add", "(JI)V"⟩ : MethodName)) (z := (⟨"com/example/ramp99/ramp99/service/policy/SizeHistory", "add", "(JI)V"⟩ : MethodName)) hown (mvT hZ (hw _ (List.mem_of_getElem? (i := 20) rfl))) (mvT hZ (hw _ (List.mem_of_getElem? (i := 21) rfl))) (notFace_of_selects (args := #[]) (mvT hZ (hw _ (List.mem_of_getElem? (i := 23) rfl)))) (mvT hZ (hw _ (List.mem_of_getElem? (i := 23) rfl))) (mvT hZ (hw _ (List.mem_of_getElem? (i := 22) rfl))) (by decide) (backOf (W := 0) (own_rm3 l Z a0 hw [] b142 tA sA t1 spn va p4 (0 : Int32) (0 : Int32) (fun _ => (0 : Int64)) (fun _ => (0 : Int32)) 0 0 h143 n0 Z143 E143_ F143a F143b F143c F143d F143e F143f A143_ B143_ ge_b142 get_ ges_ nt_b142 ns_b142 nts rfl rfl (by omega) (fun i j a b c => absurd c (by omega)) (fun j a b => absurd b (by omega)) (own_subL _ _ (by omega) (by omega) sb1 sb2)) hZ (hw _ (List.mem_of_getElem? (i := 24) rfl)) (hw _ (List.mem_of_getElem? (i := 3) rfl)) (by decide) (by decide)) q145a q145c (g := (mkF m 122 #[.val (.long p0), .second, .val (.long p1), .second, .val (.long p2), .second, .val (.int p3), .val (.int p4), .val (.int p5), .val (.int (3 : Int32)), .val (.long spn), .second, .val (.long t1), .second, .val (.long t2), .second, .val (.long t3), .second, .val (.int va), .val (.int vb), .val (.int vc), .val (.ref b142), .unset, .unset, .unset, .unset, .unset] [(.int va), (.long t1), (.ref b142)])) rfl (by rw [hml]; rfl) (Steps.refl _) (argsL := [(.long t1), (.int va)]) (rest := []) (lenOf own_pd0 rfl) rfl (by show 2 * 0 + _ ≤ _; exact Nat.le_of_eq rfl) (hb hby at_122) (fun _ _ => ⟨rfl, e143, (by decide : 3 + 0 ≤ _), (by decide : 38 + 0 ≤ _)⟩)
    dsimp only [Pt.U, Pt.locs, Pt.cells, Pt.slots] at X145 l145 y145 z145 st145 hQ145
    subst l145 y145 z145
    obtain ⟨h145, e145⟩ : ∃ z, T145.heap = z := ⟨_, rfl⟩
    rw [e145] at hQ145
    obtain ⟨hq145, N145q, K145, F1, K1_, fi1, ct1, bf1, ft1, fs1, A145_, B145_, hF1, hK1, bd1, asc1, le1, val1, E145_, F145a, F145b, F145c, F145d, F145e, F145f⟩ := hQ145
    subst hq145
    have N145 := Fr.app N143 N145q
    have E143__x145 := E143_.keep K145
    have Z145 : n0 ≤ h145.size := Nat.le_trans Z143 K145.1
    have Y145 : h0.size ≤ h145.size := Nat.le_trans Y143 K145.1
    refine own_trn st145 ?_
    show own_R p.tables e below P (T145.setTop (mkF m 125 #[.val (.long p0), .second, .val (.long p1), .second, .val (.long p2), .second, .val (.int p3), .val (.int p4), .val (.int p5), .val (.int (3 : Int32)), .val (.long spn), .second, .val (.long t1), .second, .val (.long t2), .second, .val (.long t3), .second, .val (.int va), .val (.int vb), .val (.int vc), .val (.ref b142), .unset, .unset, .unset, .unset, .unset] []))
    refine own_fwd (fun tt kt => XS.iload X145.here hx rfl (hb hby at_125) rfl kt) ?_
    show own_R p.tables e below P (T145.setTop (mkF m 127 #[.val (.long p0), .second, .val (.long p1), .second, .val (.long p2), .second, .val (.int p3), .val (.int p4), .val (.int p5), .val (.int (3 : Int32)), .val (.long spn), .second, .val (.long t1), .second, .val (.long t2), .second, .val (.long t3), .second, .val (.int va), .val (.int vb), .val (.int vc), .val (.ref b142), .unset, .unset, .unset, .unset, .unset] [(.int (3 : Int32))]))
    refine own_fwd (fun tt kt => XS.iconst X145.here hx rfl (hb hby at_127) kt) ?_
    show own_R p.tables e below P (T145.setTop (mkF m 128 #[.val (.long p0), .second, .val (.long p1), .second, .val (.long p2), .second, .val (.int p3), .val (.int p4), .val (.int p5), .val (.int (3 : Int32)), .val (.long spn), .second, .val (.long t1), .second, .val (.long t2), .second, .val (.long t3), .second, .val (.int va), .val (.int vb), .val (.int vc), .val (.ref b142), .unset, .unset, .unset, .unset, .unset] [(.int (2 : Int32)), (.int (3 : Int32))]))
    have hc146 : ¬ ((3 : Int32) < (2 : Int32)) := (by decide)
    refine own_fwd (fun tt kt => XS.icmpNo X145.here hx rfl (hb hby at_128) rfl (flt hc146).1 kt) ?_
    show own_R p.tables e below P (T145.setTop (mkF m 131 #[.val (.long p0), .second, .val (.long p1), .second, .val (.long p2), .second, .val (.int p3), .val (.int p4), .val (.int p5), .val (.int (3 : Int32)), .val (.long spn), .second, .val (.long t1), .second, .val (.long t2), .second, .val (.long t3), .second, .val (.int va), .val (.int vb), .val (.int vc), .val (.ref b142), .unset, .unset, .unset, .unset, .unset] []))
    refine own_fwd (fun tt kt => XS.aload X145.here hx rfl (hb hby at_131) rfl rfl kt) ?_
    show own_R p.tables e below P (T145.setTop (mkF m 133 #[.val (.long p0), .second, .val (.long p1), .second, .val (.long p2), .second, .val (.int p3), .val (.int p4), .val (.int p5), .val (.int (3 : Int32)), .val (.long spn), .second, .val (.long t1), .second, .val (.long t2), .second, .val (.long t3), .second, .val (.int va), .val (.int vb), .val (.int vc), .val (.ref b142), .unset, .unset, .unset, .unset, .unset] [(.ref b142)]))
    refine own_fwd (fun tt kt => XS.lload X145.here hx rfl (hb hby at_133) rfl kt) ?_
    show own_R p.tables e below P (T145.setTop (mkF m 135 #[.val (.long p0), .second, .val (.long p1), .second, .val (.long p2), .second, .val (.int p3), .val (.int p4), .val (.int p5), .val (.int (3 : Int32)), .val (.long spn), .second, .val (.long t1), .second, .val (.long t2), .second, .val (.long t3), .second, .val (.int va), .val (.int vb), .val (.int vc), .val (.ref b142), .unset, .unset, .unset, .unset, .unset] [(.long t2), (.ref b142)]))
    refine own_fwd (fun tt kt => XS.iload X145.here hx rfl (hb hby at_135) rfl kt) ?_
    show own_R p.tables e below P (T145.setTop (mkF m 137 #[.val (.long p0), .second, .val (.long p1), .second, .val (.long p2), .second, .val (.int p3), .val (.int p4), .val (.int p5), .val (.int (3 : Int32)), .val (.long spn), .second, .val (.long t1), .second, .val (.long t2), .second, .val (.long t3), .second, .val (.int va), .val (.int vb), .val (.int vc), .val (.ref b142), .unset, .unset, .unset, .unset, .unset] [(.int vb), (.long t2), (.ref b142)]))
    obtain ⟨cq147, kq147, q147a, q147b, q147c⟩ := isOf hZ e145 E145_
    obtain ⟨_, _, ⟨T147, L147, k147, n147⟩, -, X147, ⟨Lc147, hQ147, l147, y147, z147⟩, st147⟩ := X145.virtualBack hx (y := (⟨"com/example/ramp99/ramp99/service/policy/SizeHistory", "add", "(JI)V"⟩ : MethodName)) (z := (⟨"com/example/ramp99/ramp99/service/policy/SizeHistory", "add", "(JI)V"⟩ : MethodName)) hown (mvT hZ (hw _ (List.mem_of_getElem? (i := 20) rfl))) (mvT hZ (hw _ (List.mem_of_getElem? (i := 21) rfl))) (notFace_of_selects (args := #[]) (mvT hZ (hw _ (List.mem_of_getElem? (i := 23) rfl)))) (mvT hZ (hw _ (List.mem_of_getElem? (i := 23) rfl))) (mvT hZ (hw _ (List.mem_of_getElem? (i := 22) rfl))) (by decide) (backOf (W := 0) (own_rm3 l Z a0 hw [] b142 tA sA t2 spn vb bf1 fi1 ct1 ft1 fs1 F1 K1_ h145 n0 Z145 E145_ F145a F145b F145c F145d F145e F145f A145_ B145_ ge_b142 get_ ges_ nt_b142 ns_b142 nts hF1 hK1 (by omega) asc1 (fun j a b => by have := le1 j a b; omega) (own_subL _ _ (by omega) (by omega) sb1 sb2)) hZ (hw _ (List.mem_of_getElem? (i := 24) rfl)) (hw _ (List.mem_of_getElem? (i := 3) rfl)) (by decide) (by decide)) q147a q147c (g := (mkF m 137 #[.val (.long p0), .second, .val (.long p1), .second, .val (.long p2), .second, .val (.int p3), .val (.int p4), .val (.int p5), .val (.int (3 : Int32)), .val (.long spn), .second, .val (.long t1), .second, .val (.long t2), .second, .val (.long t3), .second, .val (.int va), .val (.int vb), .val (.int vc), .val (.ref b142), .unset, .unset, .unset, .unset, .unset] [(.int vb), (.long t2), (.ref b142)])) rfl (by rw [hml]; rfl) (Steps.refl _) (argsL := [(.long t2), (.int vb)]) (rest := []) (lenOf own_pd0 rfl) rfl (by show 2 * 0 + _ ≤ _; exact Nat.le_of_eq rfl) (hb hby at_137) (fun _ _ => ⟨rfl, e145, (by decide : 3 + 0 ≤ _), (by decide : 38 + 0 ≤ _)⟩)
    dsimp only [Pt.U, Pt.locs, Pt.cells, Pt.slots] at X147 l147 y147 z147 st147 hQ147
    subst l147 y147 z147
    obtain ⟨h147, e147⟩ : ∃ z, T147.heap = z := ⟨_, rfl⟩
    rw [e147] at hQ147
    obtain ⟨hq147, N147q, K147, F2, K2_, fi2, ct2, bf2, ft2, fs2, A147_, B147_, hF2, hK2, bd2, asc2, le2, val2, E147_, F147a, F147b, F147c, F147d, F147e, F147f⟩ := hQ147
    subst hq147
    have N147 := Fr.app N145 N147q
    have E145__x147 := E145_.keep K147
    have Z147 : n0 ≤ h147.size := Nat.le_trans Z145 K147.1
    have Y147 : h0.size ≤ h147.size := Nat.le_trans Y145 K147.1
    refine own_trn st147 ?_
    show own_R p.tables e below P (T147.setTop (mkF m 140 #[.val (.long p0), .second, .val (.long p1), .second, .val (.long p2), .second, .val (.int p3), .val (.int p4), .val (.int p5), .val (.int (3 : Int32)), .val (.long spn), .second, .val (.long t1), .second, .val (.long t2), .second, .val (.long t3), .second, .val (.int va), .val (.int vb), .val (.int vc), .val (.ref b142), .unset, .unset, .unset, .unset, .unset] []))
    refine own_fwd (fun tt kt => XS.iload X147.here hx rfl (hb hby at_140) rfl kt) ?_
    show own_R p.tables e below P (T147.setTop (mkF m 142 #[.val (.long p0), .second, .val (.long p1), .second, .val (.long p2), .second, .val (.int p3), .val (.int p4), .val (.int p5), .val (.int (3 : Int32)), .val (.long spn), .second, .val (.long t1), .second, .val (.long t2), .second, .val (.long t3), .second, .val (.int va), .val (.int vb), .val (.int vc), .val (.ref b142), .unset, .unset, .unset, .unset, .unset] [(.int (3 : Int32))]))
    refine own_fwd (fun tt kt => XS.iconst X147.here hx rfl (hb hby at_142) kt) ?_
    show own_R p.tables e below P (T147.setTop (mkF m 143 #[.val (.long p0), .second, .val (.long p1), .second, .val (.long p2), .second, .val (.int p3), .val (.int p4), .val (.int p5), .val (.int (3 : Int32)), .val (.long spn), .second, .val (.long t1), .second, .val (.long t2), .second, .val (.long t3), .second, .val (.int va), .val (.int vb), .val (.int vc), .val (.ref b142), .unset, .unset, .unset, .unset, .unset] [(.int (3 : Int32)), (.int (3 : Int32))]))
    have hc148 : ¬ ((3 : Int32) < (3 : Int32)) := (by decide)
    refine own_fwd (fun tt kt => XS.icmpNo X147.here hx rfl (hb hby at_143) rfl (flt hc148).1 kt) ?_
    show own_R p.tables e below P (T147.setTop (mkF m 146 #[.val (.long p0), .second, .val (.long p1), .second, .val (.long p2), .second, .val (.int p3), .val (.int p4), .val (.int p5), .val (.int (3 : Int32)), .val (.long spn), .second, .val (.long t1), .second, .val (.long t2), .second, .val (.long t3), .second, .val (.int va), .val (.int vb), .val (.int vc), .val (.ref b142), .unset, .unset, .unset, .unset, .unset] []))
    refine own_fwd (fun tt kt => XS.aload X147.here hx rfl (hb hby at_146) rfl rfl kt) ?_
    show own_R p.tables e below P (T147.setTop (mkF m 148 #[.val (.long p0), .second, .val (.long p1), .second, .val (.long p2), .second, .val (.int p3), .val (.int p4), .val (.int p5), .val (.int (3 : Int32)), .val (.long spn), .second, .val (.long t1), .second, .val (.long t2), .second, .val (.long t3), .second, .val (.int va), .val (.int vb), .val (.int vc), .val (.ref b142), .unset, .unset, .unset, .unset, .unset] [(.ref b142)]))
    refine own_fwd (fun tt kt => XS.lload X147.here hx rfl (hb hby at_148) rfl kt) ?_
    show own_R p.tables e below P (T147.setTop (mkF m 150 #[.val (.long p0), .second, .val (.long p1), .second, .val (.long p2), .second, .val (.int p3), .val (.int p4), .val (.int p5), .val (.int (3 : Int32)), .val (.long spn), .second, .val (.long t1), .second, .val (.long t2), .second, .val (.long t3), .second, .val (.int va), .val (.int vb), .val (.int vc), .val (.ref b142), .unset, .unset, .unset, .unset, .unset] [(.long t3), (.ref b142)]))
    refine own_fwd (fun tt kt => XS.iload X147.here hx rfl (hb hby at_150) rfl kt) ?_
    show own_R p.tables e below P (T147.setTop (mkF m 152 #[.val (.long p0), .second, .val (.long p1), .second, .val (.long p2), .second, .val (.int p3), .val (.int p4), .val (.int p5), .val (.int (3 : Int32)), .val (.long spn), .second, .val (.long t1), .second, .val (.long t2), .second, .val (.long t3), .second, .val (.int va), .val (.int vb), .val (.int vc), .val (.ref b142), .unset, .unset, .unset, .unset, .unset] [(.int vc), (.long t3), (.ref b142)]))
    obtain ⟨cq149, kq149, q149a, q149b, q149c⟩ := isOf hZ e147 E147_
    obtain ⟨_, _, ⟨T149, L149, k149, n149⟩, -, X149, ⟨Lc149, hQ149, l149, y149, z149⟩, st149⟩ := X147.virtualBack hx (y := (⟨"com/example/ramp99/ramp99/service/policy/SizeHistory", "add", "(JI)V"⟩ : MethodName)) (z := (⟨"com/example/ramp99/ramp99/service/policy/SizeHistory", "add", "(JI)V"⟩ : MethodName)) hown (mvT hZ (hw _ (List.mem_of_getElem? (i := 20) rfl))) (mvT hZ (hw _ (List.mem_of_getElem? (i := 21) rfl))) (notFace_of_selects (args := #[]) (mvT hZ (hw _ (List.mem_of_getElem? (i := 23) rfl)))) (mvT hZ (hw _ (List.mem_of_getElem? (i := 23) rfl))) (mvT hZ (hw _ (List.mem_of_getElem? (i := 22) rfl))) (by decide) (backOf (W := 0) (own_rm3 l Z a0 hw [] b142 tA sA t3 spn vc bf2 fi2 ct2 ft2 fs2 F2 K2_ h147 n0 Z147 E147_ F147a F147b F147c F147d F147e F147f A147_ B147_ ge_b142 get_ ges_ nt_b142 ns_b142 nts hF2 hK2 (by omega) asc2 (fun j a b => by have := le2 j a b; omega) (own_subL _ _ (by omega) (by omega) sb1 sb2)) hZ (hw _ (List.mem_of_getElem? (i := 24) rfl)) (hw _ (List.mem_of_getElem? (i := 3) rfl)) (by decide) (by decide)) q149a q149c (g := (mkF m 152 #[.val (.long p0), .second, .val (.long p1), .second, .val (.long p2), .second, .val (.int p3), .val (.int p4), .val (.int p5), .val (.int (3 : Int32)), .val (.long spn), .second, .val (.long t1), .second, .val (.long t2), .second, .val (.long t3), .second, .val (.int va), .val (.int vb), .val (.int vc), .val (.ref b142), .unset, .unset, .unset, .unset, .unset] [(.int vc), (.long t3), (.ref b142)])) rfl (by rw [hml]; rfl) (Steps.refl _) (argsL := [(.long t3), (.int vc)]) (rest := []) (lenOf own_pd0 rfl) rfl (by show 2 * 0 + _ ≤ _; exact Nat.le_of_eq rfl) (hb hby at_152) (fun _ _ => ⟨rfl, e147, (by decide : 3 + 0 ≤ _), (by decide : 38 + 0 ≤ _)⟩)
    dsimp only [Pt.U, Pt.locs, Pt.cells, Pt.slots] at X149 l149 y149 z149 st149 hQ149
    subst l149 y149 z149
    obtain ⟨h149, e149⟩ : ∃ z, T149.heap = z := ⟨_, rfl⟩
    rw [e149] at hQ149
    obtain ⟨hq149, N149q, K149, F3, K3_, fi3, ct3, bf3, ft3, fs3, A149_, B149_, hF3, hK3, bd3, asc3, le3, val3, E149_, F149a, F149b, F149c, F149d, F149e, F149f⟩ := hQ149
    subst hq149
    have N149 := Fr.app N147 N149q
    have E147__x149 := E147_.keep K149
    have Z149 : n0 ≤ h149.size := Nat.le_trans Z147 K149.1
    have Y149 : h0.size ≤ h149.size := Nat.le_trans Y147 K149.1
    refine own_trn st149 ?_
    show own_R p.tables e below P (T149.setTop (mkF m 155 #[.val (.long p0), .second, .val (.long p1), .second, .val (.long p2), .second, .val (.int p3), .val (.int p4), .val (.int p5), .val (.int (3 : Int32)), .val (.long spn), .second, .val (.long t1), .second, .val (.long t2), .second, .val (.long t3), .second, .val (.int va), .val (.int vb), .val (.int vc), .val (.ref b142), .unset, .unset, .unset, .unset, .unset] []))
    refine own_fwd (fun tt kt => XS.iload X149.here hx rfl (hb hby at_155) rfl kt) ?_
    show own_R p.tables e below P (T149.setTop (mkF m 157 #[.val (.long p0), .second, .val (.long p1), .second, .val (.long p2), .second, .val (.int p3), .val (.int p4), .val (.int p5), .val (.int (3 : Int32)), .val (.long spn), .second, .val (.long t1), .second, .val (.long t2), .second, .val (.long t3), .second, .val (.int va), .val (.int vb), .val (.int vc), .val (.ref b142), .unset, .unset, .unset, .unset, .unset] [(.int (3 : Int32))]))
    refine own_fwd (fun tt kt => XS.iconst X149.here hx rfl (hb hby at_157) kt) ?_
    show own_R p.tables e below P (T149.setTop (mkF m 158 #[.val (.long p0), .second, .val (.long p1), .second, .val (.long p2), .second, .val (.int p3), .val (.int p4), .val (.int p5), .val (.int (3 : Int32)), .val (.long spn), .second, .val (.long t1), .second, .val (.long t2), .second, .val (.long t3), .second, .val (.int va), .val (.int vb), .val (.int vc), .val (.ref b142), .unset, .unset, .unset, .unset, .unset] [(.int (3 : Int32)), (.int (3 : Int32))]))
    have hc150 : (3 : Int32) = (3 : Int32) := (by decide)
    refine own_fwd (fun tt kt => XS.icmpNo X149.here hx rfl (hb hby at_158) rfl (teq hc150).2 kt) ?_
    show own_R p.tables e below P (T149.setTop (mkF m 161 #[.val (.long p0), .second, .val (.long p1), .second, .val (.long p2), .second, .val (.int p3), .val (.int p4), .val (.int p5), .val (.int (3 : Int32)), .val (.long spn), .second, .val (.long t1), .second, .val (.long t2), .second, .val (.long t3), .second, .val (.int va), .val (.int vb), .val (.int vc), .val (.ref b142), .unset, .unset, .unset, .unset, .unset] []))
    refine own_fwd (fun tt kt => XS.lload X149.here hx rfl (hb hby at_161) rfl kt) ?_
    show own_R p.tables e below P (T149.setTop (mkF m 163 #[.val (.long p0), .second, .val (.long p1), .second, .val (.long p2), .second, .val (.int p3), .val (.int p4), .val (.int p5), .val (.int (3 : Int32)), .val (.long spn), .second, .val (.long t1), .second, .val (.long t2), .second, .val (.long t3), .second, .val (.int va), .val (.int vb), .val (.int vc), .val (.ref b142), .unset, .unset, .unset, .unset, .unset] [(.long t3)]))
    refine own_fwd (fun tt kt => XS.goto X149.here hx rfl (pc0 := 163) (pc' := 179) rfl (hb hby at_163) (by decide) (by decide) kt) ?_
    show own_R p.tables e below P (T149.setTop (mkF m 179 #[.val (.long p0), .second, .val (.long p1), .second, .val (.long p2), .second, .val (.int p3), .val (.int p4), .val (.int p5), .val (.int (3 : Int32)), .val (.long spn), .second, .val (.long t1), .second, .val (.long t2), .second, .val (.long t3), .second, .val (.int va), .val (.int vb), .val (.int vc), .val (.ref b142), .unset, .unset, .unset, .unset, .unset] [(.long t3)]))
    refine own_fwd (fun tt kt => XS.lstore X149.here hx rfl (hb hby at_179) rfl (l' := #[.val (.long p0), .second, .val (.long p1), .second, .val (.long p2), .second, .val (.int p3), .val (.int p4), .val (.int p5), .val (.int (3 : Int32)), .val (.long spn), .second, .val (.long t1), .second, .val (.long t2), .second, .val (.long t3), .second, .val (.int va), .val (.int vb), .val (.int vc), .val (.ref b142), .val (.long t3), .second, .unset, .unset, .unset]) rfl kt) ?_
    show own_R p.tables e below P (T149.setTop (mkF m 181 #[.val (.long p0), .second, .val (.long p1), .second, .val (.long p2), .second, .val (.int p3), .val (.int p4), .val (.int p5), .val (.int (3 : Int32)), .val (.long spn), .second, .val (.long t1), .second, .val (.long t2), .second, .val (.long t3), .second, .val (.int va), .val (.int vb), .val (.int vc), .val (.ref b142), .val (.long t3), .second, .unset, .unset, .unset] []))
    refine own_fwd (fun tt kt => XS.lload X149.here hx rfl (hb hby at_181) rfl kt) ?_
    show own_R p.tables e below P (T149.setTop (mkF m 183 #[.val (.long p0), .second, .val (.long p1), .second, .val (.long p2), .second, .val (.int p3), .val (.int p4), .val (.int p5), .val (.int (3 : Int32)), .val (.long spn), .second, .val (.long t1), .second, .val (.long t2), .second, .val (.long t3), .second, .val (.int va), .val (.int vb), .val (.int vc), .val (.ref b142), .val (.long t3), .second, .unset, .unset, .unset] [(.long t3)]))
    refine own_fwd (fun tt kt => XS.lload X149.here hx rfl (hb hby at_183) rfl kt) ?_
    show own_R p.tables e below P (T149.setTop (mkF m 185 #[.val (.long p0), .second, .val (.long p1), .second, .val (.long p2), .second, .val (.int p3), .val (.int p4), .val (.int p5), .val (.int (3 : Int32)), .val (.long spn), .second, .val (.long t1), .second, .val (.long t2), .second, .val (.long t3), .second, .val (.int va), .val (.int vb), .val (.int vc), .val (.ref b142), .val (.long t3), .second, .unset, .unset, .unset] [(.long spn), (.long t3)]))
    refine own_fwd (fun tt kt => XS.lsub X149.here hx rfl (hb hby at_185) rfl kt) ?_
    show own_R p.tables e below P (T149.setTop (mkF m 186 #[.val (.long p0), .second, .val (.long p1), .second, .val (.long p2), .second, .val (.int p3), .val (.int p4), .val (.int p5), .val (.int (3 : Int32)), .val (.long spn), .second, .val (.long t1), .second, .val (.long t2), .second, .val (.long t3), .second, .val (.int va), .val (.int vb), .val (.int vc), .val (.ref b142), .val (.long t3), .second, .unset, .unset, .unset] [(.long (t3 - spn))]))
    refine own_fwd (fun tt kt => XS.lload X149.here hx rfl (hb hby at_186) rfl kt) ?_
    show own_R p.tables e below P (T149.setTop (mkF m 188 #[.val (.long p0), .second, .val (.long p1), .second, .val (.long p2), .second, .val (.int p3), .val (.int p4), .val (.int p5), .val (.int (3 : Int32)), .val (.long spn), .second, .val (.long t1), .second, .val (.long t2), .second, .val (.long t3), .second, .val (.int va), .val (.int vb), .val (.int vc), .val (.ref b142), .val (.long t3), .second, .unset, .unset, .unset] [(.long p2), (.long (t3 - spn))]))
    refine own_fwd (fun tt kt => X149.ldc2Long hx hown (mvT hZ (hw _ (List.mem_of_getElem? (i := 0) rfl))) (g := (mkF m 188 #[.val (.long p0), .second, .val (.long p1), .second, .val (.long p2), .second, .val (.int p3), .val (.int p4), .val (.int p5), .val (.int (3 : Int32)), .val (.long spn), .second, .val (.long t1), .second, .val (.long t2), .second, .val (.long t3), .second, .val (.int va), .val (.int vb), .val (.int vc), .val (.ref b142), .val (.long t3), .second, .unset, .unset, .unset] [(.long p2), (.long (t3 - spn))])) rfl (hb hby at_188) tt kt) ?_
    show own_R p.tables e below P (T149.setTop (mkF m 191 #[.val (.long p0), .second, .val (.long p1), .second, .val (.long p2), .second, .val (.int p3), .val (.int p4), .val (.int p5), .val (.int (3 : Int32)), .val (.long spn), .second, .val (.long t1), .second, .val (.long t2), .second, .val (.long t3), .second, .val (.int va), .val (.int vb), .val (.int vc), .val (.ref b142), .val (.long t3), .second, .unset, .unset, .unset] [(.long (4611686018427387903 : Int64)), (.long p2), (.long (t3 - spn))]))
    refine own_fwd (fun tt kt => XS.land X149.here hx rfl (hb hby at_191) rfl kt) ?_
    show own_R p.tables e below P (T149.setTop (mkF m 192 #[.val (.long p0), .second, .val (.long p1), .second, .val (.long p2), .second, .val (.int p3), .val (.int p4), .val (.int p5), .val (.int (3 : Int32)), .val (.long spn), .second, .val (.long t1), .second, .val (.long t2), .second, .val (.long t3), .second, .val (.int va), .val (.int vb), .val (.int vc), .val (.ref b142), .val (.long t3), .second, .unset, .unset, .unset] [(.long (p2 &&& (4611686018427387903 : Int64))), (.long (t3 - spn))]))
    refine own_fwd (fun tt kt => XS.ladd X149.here hx rfl (hb hby at_192) rfl kt) ?_
    show own_R p.tables e below P (T149.setTop (mkF m 193 #[.val (.long p0), .second, .val (.long p1), .second, .val (.long p2), .second, .val (.int p3), .val (.int p4), .val (.int p5), .val (.int (3 : Int32)), .val (.long spn), .second, .val (.long t1), .second, .val (.long t2), .second, .val (.long t3), .second, .val (.int va), .val (.int vb), .val (.int vc), .val (.ref b142), .val (.long t3), .second, .unset, .unset, .unset] [(.long ((t3 - spn) + (p2 &&& (4611686018427387903 : Int64))))]))
    have qb := own_span p2 4611686018427387903 (by decide) (by decide)
    have q1 := own_subL t3 spn (by omega) (by omega) sb1 sb2
    have q2 := own_qry (t3 - spn) (p2 &&& (4611686018427387903 : Int64)) (by omega) (by omega)
    obtain ⟨qq, hg_qq⟩ : ∃ z, ((t3 - spn) + (p2 &&& (4611686018427387903 : Int64))) = z := ⟨_, rfl⟩
    rw [hg_qq]
    show own_R p.tables e below P (T149.setTop (mkF m 193 #[.val (.long p0), .second, .val (.long p1), .second, .val (.long p2), .second, .val (.int p3), .val (.int p4), .val (.int p5), .val (.int (3 : Int32)), .val (.long spn), .second, .val (.long t1), .second, .val (.long t2), .second, .val (.long t3), .second, .val (.int va), .val (.int vb), .val (.int vc), .val (.ref b142), .val (.long t3), .second, .unset, .unset, .unset] [(.long qq)]))
    rw [hg_qq] at q2
    refine own_fwd (fun tt kt => XS.lstore X149.here hx rfl (hb hby at_193) rfl (l' := #[.val (.long p0), .second, .val (.long p1), .second, .val (.long p2), .second, .val (.int p3), .val (.int p4), .val (.int p5), .val (.int (3 : Int32)), .val (.long spn), .second, .val (.long t1), .second, .val (.long t2), .second, .val (.long t3), .second, .val (.int va), .val (.int vb), .val (.int vc), .val (.ref b142), .val (.long t3), .second, .val (.long qq), .second, .unset]) rfl kt) ?_
    show own_R p.tables e below P (T149.setTop (mkF m 195 #[.val (.long p0), .second, .val (.long p1), .second, .val (.long p2), .second, .val (.int p3), .val (.int p4), .val (.int p5), .val (.int (3 : Int32)), .val (.long spn), .second, .val (.long t1), .second, .val (.long t2), .second, .val (.long t3), .second, .val (.int va), .val (.int vb), .val (.int vc), .val (.ref b142), .val (.long t3), .second, .val (.long qq), .second, .unset] []))
    refine own_fwd (fun tt kt => XS.iload X149.here hx rfl (hb hby at_195) rfl kt) ?_
    show own_R p.tables e below P (T149.setTop (mkF m 197 #[.val (.long p0), .second, .val (.long p1), .second, .val (.long p2), .second, .val (.int p3), .val (.int p4), .val (.int p5), .val (.int (3 : Int32)), .val (.long spn), .second, .val (.long t1), .second, .val (.long t2), .second, .val (.long t3), .second, .val (.int va), .val (.int vb), .val (.int vc), .val (.ref b142), .val (.long t3), .second, .val (.long qq), .second, .unset] [(.int p4)]))
    refine own_fwd (fun tt kt => XS.istore X149.here hx rfl (hb hby at_197) rfl (l' := #[.val (.long p0), .second, .val (.long p1), .second, .val (.long p2), .second, .val (.int p3), .val (.int p4), .val (.int p5), .val (.int (3 : Int32)), .val (.long spn), .second, .val (.long t1), .second, .val (.long t2), .second, .val (.long t3), .second, .val (.int va), .val (.int vb), .val (.int vc), .val (.ref b142), .val (.long t3), .second, .val (.long qq), .second, .val (.int p4)]) rfl kt) ?_
    show own_R p.tables e below P (T149.setTop (mkF m 199 #[.val (.long p0), .second, .val (.long p1), .second, .val (.long p2), .second, .val (.int p3), .val (.int p4), .val (.int p5), .val (.int (3 : Int32)), .val (.long spn), .second, .val (.long t1), .second, .val (.long t2), .second, .val (.long t3), .second, .val (.int va), .val (.int vb), .val (.int vc), .val (.ref b142), .val (.long t3), .second, .val (.long qq), .second, .val (.int p4)] []))
    refine own_fwd (fun tt kt => XS.iload X149.here hx rfl (hb hby at_199) rfl kt) ?_
    show own_R p.tables e below P (T149.setTop (mkF m 201 #[.val (.long p0), .second, .val (.long p1), .second, .val (.long p2), .second, .val (.int p3), .val (.int p4), .val (.int p5), .val (.int (3 : Int32)), .val (.long spn), .second, .val (.long t1), .second, .val (.long t2), .second, .val (.long t3), .second, .val (.int va), .val (.int vb), .val (.int vc), .val (.ref b142), .val (.long t3), .second, .val (.long qq), .second, .val (.int p4)] [(.int (3 : Int32))]))
    refine own_fwd (fun tt kt => XS.iconst X149.here hx rfl (hb hby at_201) kt) ?_
    show own_R p.tables e below P (T149.setTop (mkF m 202 #[.val (.long p0), .second, .val (.long p1), .second, .val (.long p2), .second, .val (.int p3), .val (.int p4), .val (.int p5), .val (.int (3 : Int32)), .val (.long spn), .second, .val (.long t1), .second, .val (.long t2), .second, .val (.long t3), .second, .val (.int va), .val (.int vb), .val (.int vc), .val (.ref b142), .val (.long t3), .second, .val (.long qq), .second, .val (.int p4)] [(.int (1 : Int32)), (.int (3 : Int32))]))
    have j165 : ∀ P, own_R p.tables e below P (T149.setTop (mkF m 253 #[.val (.long p0), .second, .val (.long p1), .second, .val (.long p2), .second, .val (.int p3), .val (.int p4), .val (.int p5), .val (.int (3 : Int32)), .val (.long spn), .second, .val (.long t1), .second, .val (.long t2), .second, .val (.long t3), .second, .val (.int va), .val (.int vb), .val (.int vc), .val (.ref b142), .val (.long t3), .second, .val (.long qq), .second, .val (.int (if (lcmpW qq t1) < (0 : Int32) then (if (lcmpW qq t2) < (0 : Int32) then (if (lcmpW qq t3) < (0 : Int32) then p4 else vc) else (if (lcmpW qq t3) < (0 : Int32) then vb else vc)) else (if (lcmpW qq t2) < (0 : Int32) then (if (lcmpW qq t3) < (0 : Int32) then va else vc) else (if (lcmpW qq t3) < (0 : Int32) then vb else vc))))] [])) → own_R p.tables e below P (T149.setTop (mkF m 202 #[.val (.long p0), .second, .val (.long p1), .second, .val (.long p2), .second, .val (.int p3), .val (.int p4), .val (.int p5), .val (.int (3 : Int32)), .val (.long spn), .second, .val (.long t1), .second, .val (.long t2), .second, .val (.long t3), .second, .val (.int va), .val (.int vb), .val (.int vc), .val (.ref b142), .val (.long t3), .second, .val (.long qq), .second, .val (.int p4)] [(.int (1 : Int32)), (.int (3 : Int32))])) := by
      intro P k
      have hc151 : ¬ ((3 : Int32) < (1 : Int32)) := (by decide)
      refine own_fwd (fun tt kt => XS.icmpNo X149.here hx rfl (hb hby at_202) rfl (flt hc151).1 kt) ?_
      show own_R p.tables e below P (T149.setTop (mkF m 205 #[.val (.long p0), .second, .val (.long p1), .second, .val (.long p2), .second, .val (.int p3), .val (.int p4), .val (.int p5), .val (.int (3 : Int32)), .val (.long spn), .second, .val (.long t1), .second, .val (.long t2), .second, .val (.long t3), .second, .val (.int va), .val (.int vb), .val (.int vc), .val (.ref b142), .val (.long t3), .second, .val (.long qq), .second, .val (.int p4)] []))
      refine own_fwd (fun tt kt => XS.lload X149.here hx rfl (hb hby at_205) rfl kt) ?_
      show own_R p.tables e below P (T149.setTop (mkF m 207 #[.val (.long p0), .second, .val (.long p1), .second, .val (.long p2), .second, .val (.int p3), .val (.int p4), .val (.int p5), .val (.int (3 : Int32)), .val (.long spn), .second, .val (.long t1), .second, .val (.long t2), .second, .val (.long t3), .second, .val (.int va), .val (.int vb), .val (.int vc), .val (.ref b142), .val (.long t3), .second, .val (.long qq), .second, .val (.int p4)] [(.long qq)]))
      refine own_fwd (fun tt kt => XS.lload X149.here hx rfl (hb hby at_207) rfl kt) ?_
      show own_R p.tables e below P (T149.setTop (mkF m 209 #[.val (.long p0), .second, .val (.long p1), .second, .val (.long p2), .second, .val (.int p3), .val (.int p4), .val (.int p5), .val (.int (3 : Int32)), .val (.long spn), .second, .val (.long t1), .second, .val (.long t2), .second, .val (.long t3), .second, .val (.int va), .val (.int vb), .val (.int vc), .val (.ref b142), .val (.long t3), .second, .val (.long qq), .second, .val (.int p4)] [(.long t1), (.long qq)]))
      refine own_fwd (fun tt kt => XS.lcmp X149.here hx rfl (hb hby at_209) rfl kt) ?_
      show own_R p.tables e below P (T149.setTop (mkF m 210 #[.val (.long p0), .second, .val (.long p1), .second, .val (.long p2), .second, .val (.int p3), .val (.int p4), .val (.int p5), .val (.int (3 : Int32)), .val (.long spn), .second, .val (.long t1), .second, .val (.long t2), .second, .val (.long t3), .second, .val (.int va), .val (.int vb), .val (.int vc), .val (.ref b142), .val (.long t3), .second, .val (.long qq), .second, .val (.int p4)] [(.int (lcmpW qq t1))]))
      by_cases hc152 : (lcmpW qq t1) < (0 : Int32)
      · try simp only [if_pos hc152] at k
        refine own_fwd (fun tt kt => XS.ifYes X149.here hx rfl (pc0 := 210) (pc' := 217) rfl (hb hby at_210) rfl ((if0 _ _).trans (tlt hc152).1) (by decide) (by decide) kt) ?_
        show own_R p.tables e below P (T149.setTop (mkF m 217 #[.val (.long p0), .second, .val (.long p1), .second, .val (.long p2), .second, .val (.int p3), .val (.int p4), .val (.int p5), .val (.int (3 : Int32)), .val (.long spn), .second, .val (.long t1), .second, .val (.long t2), .second, .val (.long t3), .second, .val (.int va), .val (.int vb), .val (.int vc), .val (.ref b142), .val (.long t3), .second, .val (.long qq), .second, .val (.int p4)] []))
        refine own_fwd (fun tt kt => XS.iload X149.here hx rfl (hb hby at_217) rfl kt) ?_
        show own_R p.tables e below P (T149.setTop (mkF m 219 #[.val (.long p0), .second, .val (.long p1), .second, .val (.long p2), .second, .val (.int p3), .val (.int p4), .val (.int p5), .val (.int (3 : Int32)), .val (.long spn), .second, .val (.long t1), .second, .val (.long t2), .second, .val (.long t3), .second, .val (.int va), .val (.int vb), .val (.int vc), .val (.ref b142), .val (.long t3), .second, .val (.long qq), .second, .val (.int p4)] [(.int (3 : Int32))]))
        refine own_fwd (fun tt kt => XS.iconst X149.here hx rfl (hb hby at_219) kt) ?_
        show own_R p.tables e below P (T149.setTop (mkF m 220 #[.val (.long p0), .second, .val (.long p1), .second, .val (.long p2), .second, .val (.int p3), .val (.int p4), .val (.int p5), .val (.int (3 : Int32)), .val (.long spn), .second, .val (.long t1), .second, .val (.long t2), .second, .val (.long t3), .second, .val (.int va), .val (.int vb), .val (.int vc), .val (.ref b142), .val (.long t3), .second, .val (.long qq), .second, .val (.int p4)] [(.int (2 : Int32)), (.int (3 : Int32))]))
        have hc153 : ¬ ((3 : Int32) < (2 : Int32)) := (by decide)
        refine own_fwd (fun tt kt => XS.icmpNo X149.here hx rfl (hb hby at_220) rfl (flt hc153).1 kt) ?_
        show own_R p.tables e below P (T149.setTop (mkF m 223 #[.val (.long p0), .second, .val (.long p1), .second, .val (.long p2), .second, .val (.int p3), .val (.int p4), .val (.int p5), .val (.int (3 : Int32)), .val (.long spn), .second, .val (.long t1), .second, .val (.long t2), .second, .val (.long t3), .second, .val (.int va), .val (.int vb), .val (.int vc), .val (.ref b142), .val (.long t3), .second, .val (.long qq), .second, .val (.int p4)] []))
        refine own_fwd (fun tt kt => XS.lload X149.here hx rfl (hb hby at_223) rfl kt) ?_
        show own_R p.tables e below P (T149.setTop (mkF m 225 #[.val (.long p0), .second, .val (.long p1), .second, .val (.long p2), .second, .val (.int p3), .val (.int p4), .val (.int p5), .val (.int (3 : Int32)), .val (.long spn), .second, .val (.long t1), .second, .val (.long t2), .second, .val (.long t3), .second, .val (.int va), .val (.int vb), .val (.int vc), .val (.ref b142), .val (.long t3), .second, .val (.long qq), .second, .val (.int p4)] [(.long qq)]))
        refine own_fwd (fun tt kt => XS.lload X149.here hx rfl (hb hby at_225) rfl kt) ?_
        show own_R p.tables e below P (T149.setTop (mkF m 227 #[.val (.long p0), .second, .val (.long p1), .second, .val (.long p2), .second, .val (.int p3), .val (.int p4), .val (.int p5), .val (.int (3 : Int32)), .val (.long spn), .second, .val (.long t1), .second, .val (.long t2), .second, .val (.long t3), .second, .val (.int va), .val (.int vb), .val (.int vc), .val (.ref b142), .val (.long t3), .second, .val (.long qq), .second, .val (.int p4)] [(.long t2), (.long qq)]))
        refine own_fwd (fun tt kt => XS.lcmp X149.here hx rfl (hb hby at_227) rfl kt) ?_
        show own_R p.tables e below P (T149.setTop (mkF m 228 #[.val (.long p0), .second, .val (.long p1), .second, .val (.long p2), .second, .val (.int p3), .val (.int p4), .val (.int p5), .val (.int (3 : Int32)), .val (.long spn), .second, .val (.long t1), .second, .val (.long t2), .second, .val (.long t3), .second, .val (.int va), .val (.int vb), .val (.int vc), .val (.ref b142), .val (.long t3), .second, .val (.long qq), .second, .val (.int p4)] [(.int (lcmpW qq t2))]))
        by_cases hc154 : (lcmpW qq t2) < (0 : Int32)
        · try simp only [if_pos hc154] at k
          refine own_fwd (fun tt kt => XS.ifYes X149.here hx rfl (pc0 := 228) (pc' := 235) rfl (hb hby at_228) rfl ((if0 _ _).trans (tlt hc154).1) (by decide) (by decide) kt) ?_
          show own_R p.tables e below P (T149.setTop (mkF m 235 #[.val (.long p0), .second, .val (.long p1), .second, .val (.long p2), .second, .val (.int p3), .val (.int p4), .val (.int p5), .val (.int (3 : Int32)), .val (.long spn), .second, .val (.long t1), .second, .val (.long t2), .second, .val (.long t3), .second, .val (.int va), .val (.int vb), .val (.int vc), .val (.ref b142), .val (.long t3), .second, .val (.long qq), .second, .val (.int p4)] []))
          refine own_fwd (fun tt kt => XS.iload X149.here hx rfl (hb hby at_235) rfl kt) ?_
          show own_R p.tables e below P (T149.setTop (mkF m 237 #[.val (.long p0), .second, .val (.long p1), .second, .val (.long p2), .second, .val (.int p3), .val (.int p4), .val (.int p5), .val (.int (3 : Int32)), .val (.long spn), .second, .val (.long t1), .second, .val (.long t2), .second, .val (.long t3), .second, .val (.int va), .val (.int vb), .val (.int vc), .val (.ref b142), .val (.long t3), .second, .val (.long qq), .second, .val (.int p4)] [(.int (3 : Int32))]))
          refine own_fwd (fun tt kt => XS.iconst X149.here hx rfl (hb hby at_237) kt) ?_
          show own_R p.tables e below P (T149.setTop (mkF m 238 #[.val (.long p0), .second, .val (.long p1), .second, .val (.long p2), .second, .val (.int p3), .val (.int p4), .val (.int p5), .val (.int (3 : Int32)), .val (.long spn), .second, .val (.long t1), .second, .val (.long t2), .second, .val (.long t3), .second, .val (.int va), .val (.int vb), .val (.int vc), .val (.ref b142), .val (.long t3), .second, .val (.long qq), .second, .val (.int p4)] [(.int (3 : Int32)), (.int (3 : Int32))]))
          have hc155 : ¬ ((3 : Int32) < (3 : Int32)) := (by decide)
          refine own_fwd (fun tt kt => XS.icmpNo X149.here hx rfl (hb hby at_238) rfl (flt hc155).1 kt) ?_
          show own_R p.tables e below P (T149.setTop (mkF m 241 #[.val (.long p0), .second, .val (.long p1), .second, .val (.long p2), .second, .val (.int p3), .val (.int p4), .val (.int p5), .val (.int (3 : Int32)), .val (.long spn), .second, .val (.long t1), .second, .val (.long t2), .second, .val (.long t3), .second, .val (.int va), .val (.int vb), .val (.int vc), .val (.ref b142), .val (.long t3), .second, .val (.long qq), .second, .val (.int p4)] []))
          refine own_fwd (fun tt kt => XS.lload X149.here hx rfl (hb hby at_241) rfl kt) ?_
          show own_R p.tables e below P (T149.setTop (mkF m 243 #[.val (.long p0), .second, .val (.long p1), .second, .val (.long p2), .second, .val (.int p3), .val (.int p4), .val (.int p5), .val (.int (3 : Int32)), .val (.long spn), .second, .val (.long t1), .second, .val (.long t2), .second, .val (.long t3), .second, .val (.int va), .val (.int vb), .val (.int vc), .val (.ref b142), .val (.long t3), .second, .val (.long qq), .second, .val (.int p4)] [(.long qq)]))
          refine own_fwd (fun tt kt => XS.lload X149.here hx rfl (hb hby at_243) rfl kt) ?_
          show own_R p.tables e below P (T149.setTop (mkF m 245 #[.val (.long p0), .second, .val (.long p1), .second, .val (.long p2), .second, .val (.int p3), .val (.int p4), .val (.int p5), .val (.int (3 : Int32)), .val (.long spn), .second, .val (.long t1), .second, .val (.long t2), .second, .val (.long t3), .second, .val (.int va), .val (.int vb), .val (.int vc), .val (.ref b142), .val (.long t3), .second, .val (.long qq), .second, .val (.int p4)] [(.long t3), (.long qq)]))
          refine own_fwd (fun tt kt => XS.lcmp X149.here hx rfl (hb hby at_245) rfl kt) ?_
          show own_R p.tables e below P (T149.setTop (mkF m 246 #[.val (.long p0), .second, .val (.long p1), .second, .val (.long p2), .second, .val (.int p3), .val (.int p4), .val (.int p5), .val (.int (3 : Int32)), .val (.long spn), .second, .val (.long t1), .second, .val (.long t2), .second, .val (.long t3), .second, .val (.int va), .val (.int vb), .val (.int vc), .val (.ref b142), .val (.long t3), .second, .val (.long qq), .second, .val (.int p4)] [(.int (lcmpW qq t3))]))
          by_cases hc156 : (lcmpW qq t3) < (0 : Int32)
          · try simp only [if_pos hc156] at k
            refine own_fwd (fun tt kt => XS.ifYes X149.here hx rfl (pc0 := 246) (pc' := 253) rfl (hb hby at_246) rfl ((if0 _ _).trans (tlt hc156).1) (by decide) (by decide) kt) ?_
            show own_R p.tables e below P (T149.setTop (mkF m 253 #[.val (.long p0), .second, .val (.long p1), .second, .val (.long p2), .second, .val (.int p3), .val (.int p4), .val (.int p5), .val (.int (3 : Int32)), .val (.long spn), .second, .val (.long t1), .second, .val (.long t2), .second, .val (.long t3), .second, .val (.int va), .val (.int vb), .val (.int vc), .val (.ref b142), .val (.long t3), .second, .val (.long qq), .second, .val (.int p4)] []))
            exact k
          · try simp only [if_neg hc156] at k
            refine own_fwd (fun tt kt => XS.ifNo X149.here hx rfl (hb hby at_246) rfl ((if0 _ _).trans (flt hc156).1) kt) ?_
            show own_R p.tables e below P (T149.setTop (mkF m 249 #[.val (.long p0), .second, .val (.long p1), .second, .val (.long p2), .second, .val (.int p3), .val (.int p4), .val (.int p5), .val (.int (3 : Int32)), .val (.long spn), .second, .val (.long t1), .second, .val (.long t2), .second, .val (.long t3), .second, .val (.int va), .val (.int vb), .val (.int vc), .val (.ref b142), .val (.long t3), .second, .val (.long qq), .second, .val (.int p4)] []))
            refine own_fwd (fun tt kt => XS.iload X149.here hx rfl (hb hby at_249) rfl kt) ?_
            show own_R p.tables e below P (T149.setTop (mkF m 251 #[.val (.long p0), .second, .val (.long p1), .second, .val (.long p2), .second, .val (.int p3), .val (.int p4), .val (.int p5), .val (.int (3 : Int32)), .val (.long spn), .second, .val (.long t1), .second, .val (.long t2), .second, .val (.long t3), .second, .val (.int va), .val (.int vb), .val (.int vc), .val (.ref b142), .val (.long t3), .second, .val (.long qq), .second, .val (.int p4)] [(.int vc)]))
            refine own_fwd (fun tt kt => XS.istore X149.here hx rfl (hb hby at_251) rfl (l' := #[.val (.long p0), .second, .val (.long p1), .second, .val (.long p2), .second, .val (.int p3), .val (.int p4), .val (.int p5), .val (.int (3 : Int32)), .val (.long spn), .second, .val (.long t1), .second, .val (.long t2), .second, .val (.long t3), .second, .val (.int va), .val (.int vb), .val (.int vc), .val (.ref b142), .val (.long t3), .second, .val (.long qq), .second, .val (.int vc)]) rfl kt) ?_
            show own_R p.tables e below P (T149.setTop (mkF m 253 #[.val (.long p0), .second, .val (.long p1), .second, .val (.long p2), .second, .val (.int p3), .val (.int p4), .val (.int p5), .val (.int (3 : Int32)), .val (.long spn), .second, .val (.long t1), .second, .val (.long t2), .second, .val (.long t3), .second, .val (.int va), .val (.int vb), .val (.int vc), .val (.ref b142), .val (.long t3), .second, .val (.long qq), .second, .val (.int vc)] []))
            exact k
        · try simp only [if_neg hc154] at k
          refine own_fwd (fun tt kt => XS.ifNo X149.here hx rfl (hb hby at_228) rfl ((if0 _ _).trans (flt hc154).1) kt) ?_
          show own_R p.tables e below P (T149.setTop (mkF m 231 #[.val (.long p0), .second, .val (.long p1), .second, .val (.long p2), .second, .val (.int p3), .val (.int p4), .val (.int p5), .val (.int (3 : Int32)), .val (.long spn), .second, .val (.long t1), .second, .val (.long t2), .second, .val (.long t3), .second, .val (.int va), .val (.int vb), .val (.int vc), .val (.ref b142), .val (.long t3), .second, .val (.long qq), .second, .val (.int p4)] []))
          refine own_fwd (fun tt kt => XS.iload X149.here hx rfl (hb hby at_231) rfl kt) ?_
          show own_R p.tables e below P (T149.setTop (mkF m 233 #[.val (.long p0), .second, .val (.long p1), .second, .val (.long p2), .second, .val (.int p3), .val (.int p4), .val (.int p5), .val (.int (3 : Int32)), .val (.long spn), .second, .val (.long t1), .second, .val (.long t2), .second, .val (.long t3), .second, .val (.int va), .val (.int vb), .val (.int vc), .val (.ref b142), .val (.long t3), .second, .val (.long qq), .second, .val (.int p4)] [(.int vb)]))
          refine own_fwd (fun tt kt => XS.istore X149.here hx rfl (hb hby at_233) rfl (l' := #[.val (.long p0), .second, .val (.long p1), .second, .val (.long p2), .second, .val (.int p3), .val (.int p4), .val (.int p5), .val (.int (3 : Int32)), .val (.long spn), .second, .val (.long t1), .second, .val (.long t2), .second, .val (.long t3), .second, .val (.int va), .val (.int vb), .val (.int vc), .val (.ref b142), .val (.long t3), .second, .val (.long qq), .second, .val (.int vb)]) rfl kt) ?_
          show own_R p.tables e below P (T149.setTop (mkF m 235 #[.val (.long p0), .second, .val (.long p1), .second, .val (.long p2), .second, .val (.int p3), .val (.int p4), .val (.int p5), .val (.int (3 : Int32)), .val (.long spn), .second, .val (.long t1), .second, .val (.long t2), .second, .val (.long t3), .second, .val (.int va), .val (.int vb), .val (.int vc), .val (.ref b142), .val (.long t3), .second, .val (.long qq), .second, .val (.int vb)] []))
          refine own_fwd (fun tt kt => XS.iload X149.here hx rfl (hb hby at_235) rfl kt) ?_
          show own_R p.tables e below P (T149.setTop (mkF m 237 #[.val (.long p0), .second, .val (.long p1), .second, .val (.long p2), .second, .val (.int p3), .val (.int p4), .val (.int p5), .val (.int (3 : Int32)), .val (.long spn), .second, .val (.long t1), .second, .val (.long t2), .second, .val (.long t3), .second, .val (.int va), .val (.int vb), .val (.int vc), .val (.ref b142), .val (.long t3), .second, .val (.long qq), .second, .val (.int vb)] [(.int (3 : Int32))]))
          refine own_fwd (fun tt kt => XS.iconst X149.here hx rfl (hb hby at_237) kt) ?_
          show own_R p.tables e below P (T149.setTop (mkF m 238 #[.val (.long p0), .second, .val (.long p1), .second, .val (.long p2), .second, .val (.int p3), .val (.int p4), .val (.int p5), .val (.int (3 : Int32)), .val (.long spn), .second, .val (.long t1), .second, .val (.long t2), .second, .val (.long t3), .second, .val (.int va), .val (.int vb), .val (.int vc), .val (.ref b142), .val (.long t3), .second, .val (.long qq), .second, .val (.int vb)] [(.int (3 : Int32)), (.int (3 : Int32))]))
          have hc157 : ¬ ((3 : Int32) < (3 : Int32)) := (by decide)
          refine own_fwd (fun tt kt => XS.icmpNo X149.here hx rfl (hb hby at_238) rfl (flt hc157).1 kt) ?_
          show own_R p.tables e below P (T149.setTop (mkF m 241 #[.val (.long p0), .second, .val (.long p1), .second, .val (.long p2), .second, .val (.int p3), .val (.int p4), .val (.int p5), .val (.int (3 : Int32)), .val (.long spn), .second, .val (.long t1), .second, .val (.long t2), .second, .val (.long t3), .second, .val (.int va), .val (.int vb), .val (.int vc), .val (.ref b142), .val (.long t3), .second, .val (.long qq), .second, .val (.int vb)] []))
          refine own_fwd (fun tt kt => XS.lload X149.here hx rfl (hb hby at_241) rfl kt) ?_
          show own_R p.tables e below P (T149.setTop (mkF m 243 #[.val (.long p0), .second, .val (.long p1), .second, .val (.long p2), .second, .val (.int p3), .val (.int p4), .val (.int p5), .val (.int (3 : Int32)), .val (.long spn), .second, .val (.long t1), .second, .val (.long t2), .second, .val (.long t3), .second, .val (.int va), .val (.int vb), .val (.int vc), .val (.ref b142), .val (.long t3), .second, .val (.long qq), .second, .val (.int vb)] [(.long qq)]))
          refine own_fwd (fun tt kt => XS.lload X149.here hx rfl (hb hby at_243) rfl kt) ?_
          show own_R p.tables e below P (T149.setTop (mkF m 245 #[.val (.long p0), .second, .val (.long p1), .second, .val (.long p2), .second, .val (.int p3), .val (.int p4), .val (.int p5), .val (.int (3 : Int32)), .val (.long spn), .second, .val (.long t1), .second, .val (.long t2), .second, .val (.long t3), .second, .val (.int va), .val (.int vb), .val (.int vc), .val (.ref b142), .val (.long t3), .second, .val (.long qq), .second, .val (.int vb)] [(.long t3), (.long qq)]))
          refine own_fwd (fun tt kt => XS.lcmp X149.here hx rfl (hb hby at_245) rfl kt) ?_
          show own_R p.tables e below P (T149.setTop (mkF m 246 #[.val (.long p0), .second, .val (.long p1), .second, .val (.long p2), .second, .val (.int p3), .val (.int p4), .val (.int p5), .val (.int (3 : Int32)), .val (.long spn), .second, .val (.long t1), .second, .val (.long t2), .second, .val (.long t3), .second, .val (.int va), .val (.int vb), .val (.int vc), .val (.ref b142), .val (.long t3), .second, .val (.long qq), .second, .val (.int vb)] [(.int (lcmpW qq t3))]))
          by_cases hc158 : (lcmpW qq t3) < (0 : Int32)
          · try simp only [if_pos hc158] at k
            refine own_fwd (fun tt kt => XS.ifYes X149.here hx rfl (pc0 := 246) (pc' := 253) rfl (hb hby at_246) rfl ((if0 _ _).trans (tlt hc158).1) (by decide) (by decide) kt) ?_
            show own_R p.tables e below P (T149.setTop (mkF m 253 #[.val (.long p0), .second, .val (.long p1), .second, .val (.long p2), .second, .val (.int p3), .val (.int p4), .val (.int p5), .val (.int (3 : Int32)), .val (.long spn), .second, .val (.long t1), .second, .val (.long t2), .second, .val (.long t3), .second, .val (.int va), .val (.int vb), .val (.int vc), .val (.ref b142), .val (.long t3), .second, .val (.long qq), .second, .val (.int vb)] []))
            exact k
          · try simp only [if_neg hc158] at k
            refine own_fwd (fun tt kt => XS.ifNo X149.here hx rfl (hb hby at_246) rfl ((if0 _ _).trans (flt hc158).1) kt) ?_
            show own_R p.tables e below P (T149.setTop (mkF m 249 #[.val (.long p0), .second, .val (.long p1), .second, .val (.long p2), .second, .val (.int p3), .val (.int p4), .val (.int p5), .val (.int (3 : Int32)), .val (.long spn), .second, .val (.long t1), .second, .val (.long t2), .second, .val (.long t3), .second, .val (.int va), .val (.int vb), .val (.int vc), .val (.ref b142), .val (.long t3), .second, .val (.long qq), .second, .val (.int vb)] []))
            refine own_fwd (fun tt kt => XS.iload X149.here hx rfl (hb hby at_249) rfl kt) ?_
            show own_R p.tables e below P (T149.setTop (mkF m 251 #[.val (.long p0), .second, .val (.long p1), .second, .val (.long p2), .second, .val (.int p3), .val (.int p4), .val (.int p5), .val (.int (3 : Int32)), .val (.long spn), .second, .val (.long t1), .second, .val (.long t2), .second, .val (.long t3), .second, .val (.int va), .val (.int vb), .val (.int vc), .val (.ref b142), .val (.long t3), .second, .val (.long qq), .second, .val (.int vb)] [(.int vc)]))
            refine own_fwd (fun tt kt => XS.istore X149.here hx rfl (hb hby at_251) rfl (l' := #[.val (.long p0), .second, .val (.long p1), .second, .val (.long p2), .second, .val (.int p3), .val (.int p4), .val (.int p5), .val (.int (3 : Int32)), .val (.long spn), .second, .val (.long t1), .second, .val (.long t2), .second, .val (.long t3), .second, .val (.int va), .val (.int vb), .val (.int vc), .val (.ref b142), .val (.long t3), .second, .val (.long qq), .second, .val (.int vc)]) rfl kt) ?_
            show own_R p.tables e below P (T149.setTop (mkF m 253 #[.val (.long p0), .second, .val (.long p1), .second, .val (.long p2), .second, .val (.int p3), .val (.int p4), .val (.int p5), .val (.int (3 : Int32)), .val (.long spn), .second, .val (.long t1), .second, .val (.long t2), .second, .val (.long t3), .second, .val (.int va), .val (.int vb), .val (.int vc), .val (.ref b142), .val (.long t3), .second, .val (.long qq), .second, .val (.int vc)] []))
            exact k
      · try simp only [if_neg hc152] at k
        refine own_fwd (fun tt kt => XS.ifNo X149.here hx rfl (hb hby at_210) rfl ((if0 _ _).trans (flt hc152).1) kt) ?_
        show own_R p.tables e below P (T149.setTop (mkF m 213 #[.val (.long p0), .second, .val (.long p1), .second, .val (.long p2), .second, .val (.int p3), .val (.int p4), .val (.int p5), .val (.int (3 : Int32)), .val (.long spn), .second, .val (.long t1), .second, .val (.long t2), .second, .val (.long t3), .second, .val (.int va), .val (.int vb), .val (.int vc), .val (.ref b142), .val (.long t3), .second, .val (.long qq), .second, .val (.int p4)] []))
        refine own_fwd (fun tt kt => XS.iload X149.here hx rfl (hb hby at_213) rfl kt) ?_
        show own_R p.tables e below P (T149.setTop (mkF m 215 #[.val (.long p0), .second, .val (.long p1), .second, .val (.long p2), .second, .val (.int p3), .val (.int p4), .val (.int p5), .val (.int (3 : Int32)), .val (.long spn), .second, .val (.long t1), .second, .val (.long t2), .second, .val (.long t3), .second, .val (.int va), .val (.int vb), .val (.int vc), .val (.ref b142), .val (.long t3), .second, .val (.long qq), .second, .val (.int p4)] [(.int va)]))
        refine own_fwd (fun tt kt => XS.istore X149.here hx rfl (hb hby at_215) rfl (l' := #[.val (.long p0), .second, .val (.long p1), .second, .val (.long p2), .second, .val (.int p3), .val (.int p4), .val (.int p5), .val (.int (3 : Int32)), .val (.long spn), .second, .val (.long t1), .second, .val (.long t2), .second, .val (.long t3), .second, .val (.int va), .val (.int vb), .val (.int vc), .val (.ref b142), .val (.long t3), .second, .val (.long qq), .second, .val (.int va)]) rfl kt) ?_
        show own_R p.tables e below P (T149.setTop (mkF m 217 #[.val (.long p0), .second, .val (.long p1), .second, .val (.long p2), .second, .val (.int p3), .val (.int p4), .val (.int p5), .val (.int (3 : Int32)), .val (.long spn), .second, .val (.long t1), .second, .val (.long t2), .second, .val (.long t3), .second, .val (.int va), .val (.int vb), .val (.int vc), .val (.ref b142), .val (.long t3), .second, .val (.long qq), .second, .val (.int va)] []))
        refine own_fwd (fun tt kt => XS.iload X149.here hx rfl (hb hby at_217) rfl kt) ?_
        show own_R p.tables e below P (T149.setTop (mkF m 219 #[.val (.long p0), .second, .val (.long p1), .second, .val (.long p2), .second, .val (.int p3), .val (.int p4), .val (.int p5), .val (.int (3 : Int32)), .val (.long spn), .second, .val (.long t1), .second, .val (.long t2), .second, .val (.long t3), .second, .val (.int va), .val (.int vb), .val (.int vc), .val (.ref b142), .val (.long t3), .second, .val (.long qq), .second, .val (.int va)] [(.int (3 : Int32))]))
        refine own_fwd (fun tt kt => XS.iconst X149.here hx rfl (hb hby at_219) kt) ?_
        show own_R p.tables e below P (T149.setTop (mkF m 220 #[.val (.long p0), .second, .val (.long p1), .second, .val (.long p2), .second, .val (.int p3), .val (.int p4), .val (.int p5), .val (.int (3 : Int32)), .val (.long spn), .second, .val (.long t1), .second, .val (.long t2), .second, .val (.long t3), .second, .val (.int va), .val (.int vb), .val (.int vc), .val (.ref b142), .val (.long t3), .second, .val (.long qq), .second, .val (.int va)] [(.int (2 : Int32)), (.int (3 : Int32))]))
        have hc159 : ¬ ((3 : Int32) < (2 : Int32)) := (by decide)
        refine own_fwd (fun tt kt => XS.icmpNo X149.here hx rfl (hb hby at_220) rfl (flt hc159).1 kt) ?_
        show own_R p.tables e below P (T149.setTop (mkF m 223 #[.val (.long p0), .second, .val (.long p1), .second, .val (.long p2), .second, .val (.int p3), .val (.int p4), .val (.int p5), .val (.int (3 : Int32)), .val (.long spn), .second, .val (.long t1), .second, .val (.long t2), .second, .val (.long t3), .second, .val (.int va), .val (.int vb), .val (.int vc), .val (.ref b142), .val (.long t3), .second, .val (.long qq), .second, .val (.int va)] []))
        refine own_fwd (fun tt kt => XS.lload X149.here hx rfl (hb hby at_223) rfl kt) ?_
        show own_R p.tables e below P (T149.setTop (mkF m 225 #[.val (.long p0), .second, .val (.long p1), .second, .val (.long p2), .second, .val (.int p3), .val (.int p4), .val (.int p5), .val (.int (3 : Int32)), .val (.long spn), .second, .val (.long t1), .second, .val (.long t2), .second, .val (.long t3), .second, .val (.int va), .val (.int vb), .val (.int vc), .val (.ref b142), .val (.long t3), .second, .val (.long qq), .second, .val (.int va)] [(.long qq)]))
        refine own_fwd (fun tt kt => XS.lload X149.here hx rfl (hb hby at_225) rfl kt) ?_
        show own_R p.tables e below P (T149.setTop (mkF m 227 #[.val (.long p0), .second, .val (.long p1), .second, .val (.long p2), .second, .val (.int p3), .val (.int p4), .val (.int p5), .val (.int (3 : Int32)), .val (.long spn), .second, .val (.long t1), .second, .val (.long t2), .second, .val (.long t3), .second, .val (.int va), .val (.int vb), .val (.int vc), .val (.ref b142), .val (.long t3), .second, .val (.long qq), .second, .val (.int va)] [(.long t2), (.long qq)]))
        refine own_fwd (fun tt kt => XS.lcmp X149.here hx rfl (hb hby at_227) rfl kt) ?_
        show own_R p.tables e below P (T149.setTop (mkF m 228 #[.val (.long p0), .second, .val (.long p1), .second, .val (.long p2), .second, .val (.int p3), .val (.int p4), .val (.int p5), .val (.int (3 : Int32)), .val (.long spn), .second, .val (.long t1), .second, .val (.long t2), .second, .val (.long t3), .second, .val (.int va), .val (.int vb), .val (.int vc), .val (.ref b142), .val (.long t3), .second, .val (.long qq), .second, .val (.int va)] [(.int (lcmpW qq t2))]))
        by_cases hc160 : (lcmpW qq t2) < (0 : Int32)
        · try simp only [if_pos hc160] at k
          refine own_fwd (fun tt kt => XS.ifYes X149.here hx rfl (pc0 := 228) (pc' := 235) rfl (hb hby at_228) rfl ((if0 _ _).trans (tlt hc160).1) (by decide) (by decide) kt) ?_
          show own_R p.tables e below P (T149.setTop (mkF m 235 #[.val (.long p0), .second, .val (.long p1), .second, .val (.long p2), .second, .val (.int p3), .val (.int p4), .val (.int p5), .val (.int (3 : Int32)), .val (.long spn), .second, .val (.long t1), .second, .val (.long t2), .second, .val (.long t3), .second, .val (.int va), .val (.int vb), .val (.int vc), .val (.ref b142), .val (.long t3), .second, .val (.long qq), .second, .val (.int va)] []))
          refine own_fwd (fun tt kt => XS.iload X149.here hx rfl (hb hby at_235) rfl kt) ?_
          show own_R p.tables e below P (T149.setTop (mkF m 237 #[.val (.long p0), .second, .val (.long p1), .second, .val (.long p2), .second, .val (.int p3), .val (.int p4), .val (.int p5), .val (.int (3 : Int32)), .val (.long spn), .second, .val (.long t1), .second, .val (.long t2), .second, .val (.long t3), .second, .val (.int va), .val (.int vb), .val (.int vc), .val (.ref b142), .val (.long t3), .second, .val (.long qq), .second, .val (.int va)] [(.int (3 : Int32))]))
          refine own_fwd (fun tt kt => XS.iconst X149.here hx rfl (hb hby at_237) kt) ?_
          show own_R p.tables e below P (T149.setTop (mkF m 238 #[.val (.long p0), .second, .val (.long p1), .second, .val (.long p2), .second, .val (.int p3), .val (.int p4), .val (.int p5), .val (.int (3 : Int32)), .val (.long spn), .second, .val (.long t1), .second, .val (.long t2), .second, .val (.long t3), .second, .val (.int va), .val (.int vb), .val (.int vc), .val (.ref b142), .val (.long t3), .second, .val (.long qq), .second, .val (.int va)] [(.int (3 : Int32)), (.int (3 : Int32))]))
          have hc161 : ¬ ((3 : Int32) < (3 : Int32)) := (by decide)
          refine own_fwd (fun tt kt => XS.icmpNo X149.here hx rfl (hb hby at_238) rfl (flt hc161).1 kt) ?_
          show own_R p.tables e below P (T149.setTop (mkF m 241 #[.val (.long p0), .second, .val (.long p1), .second, .val (.long p2), .second, .val (.int p3), .val (.int p4), .val (.int p5), .val (.int (3 : Int32)), .val (.long spn), .second, .val (.long t1), .second, .val (.long t2), .second, .val (.long t3), .second, .val (.int va), .val (.int vb), .val (.int vc), .val (.ref b142), .val (.long t3), .second, .val (.long qq), .second, .val (.int va)] []))
          refine own_fwd (fun tt kt => XS.lload X149.here hx rfl (hb hby at_241) rfl kt) ?_
          show own_R p.tables e below P (T149.setTop (mkF m 243 #[.val (.long p0), .second, .val (.long p1), .second, .val (.long p2), .second, .val (.int p3), .val (.int p4), .val (.int p5), .val (.int (3 : Int32)), .val (.long spn), .second, .val (.long t1), .second, .val (.long t2), .second, .val (.long t3), .second, .val (.int va), .val (.int vb), .val (.int vc), .val (.ref b142), .val (.long t3), .second, .val (.long qq), .second, .val (.int va)] [(.long qq)]))
          refine own_fwd (fun tt kt => XS.lload X149.here hx rfl (hb hby at_243) rfl kt) ?_
          show own_R p.tables e below P (T149.setTop (mkF m 245 #[.val (.long p0), .second, .val (.long p1), .second, .val (.long p2), .second, .val (.int p3), .val (.int p4), .val (.int p5), .val (.int (3 : Int32)), .val (.long spn), .second, .val (.long t1), .second, .val (.long t2), .second, .val (.long t3), .second, .val (.int va), .val (.int vb), .val (.int vc), .val (.ref b142), .val (.long t3), .second, .val (.long qq), .second, .val (.int va)] [(.long t3), (.long qq)]))
          refine own_fwd (fun tt kt => XS.lcmp X149.here hx rfl (hb hby at_245) rfl kt) ?_
          show own_R p.tables e below P (T149.setTop (mkF m 246 #[.val (.long p0), .second, .val (.long p1), .second, .val (.long p2), .second, .val (.int p3), .val (.int p4), .val (.int p5), .val (.int (3 : Int32)), .val (.long spn), .second, .val (.long t1), .second, .val (.long t2), .second, .val (.long t3), .second, .val (.int va), .val (.int vb), .val (.int vc), .val (.ref b142), .val (.long t3), .second, .val (.long qq), .second, .val (.int va)] [(.int (lcmpW qq t3))]))
          by_cases hc162 : (lcmpW qq t3) < (0 : Int32)
          · try simp only [if_pos hc162] at k
            refine own_fwd (fun tt kt => XS.ifYes X149.here hx rfl (pc0 := 246) (pc' := 253) rfl (hb hby at_246) rfl ((if0 _ _).trans (tlt hc162).1) (by decide) (by decide) kt) ?_
            show own_R p.tables e below P (T149.setTop (mkF m 253 #[.val (.long p0), .second, .val (.long p1), .second, .val (.long p2), .second, .val (.int p3), .val (.int p4), .val (.int p5), .val (.int (3 : Int32)), .val (.long spn), .second, .val (.long t1), .second, .val (.long t2), .second, .val (.long t3), .second, .val (.int va), .val (.int vb), .val (.int vc), .val (.ref b142), .val (.long t3), .second, .val (.long qq), .second, .val (.int va)] []))
            exact k
          · try simp only [if_neg hc162] at k
            refine own_fwd (fun tt kt => XS.ifNo X149.here hx rfl (hb hby at_246) rfl ((if0 _ _).trans (flt hc162).1) kt) ?_
            show own_R p.tables e below P (T149.setTop (mkF m 249 #[.val (.long p0), .second, .val (.long p1), .second, .val (.long p2), .second, .val (.int p3), .val (.int p4), .val (.int p5), .val (.int (3 : Int32)), .val (.long spn), .second, .val (.long t1), .second, .val (.long t2), .second, .val (.long t3), .second, .val (.int va), .val (.int vb), .val (.int vc), .val (.ref b142), .val (.long t3), .second, .val (.long qq), .second, .val (.int va)] []))
            refine own_fwd (fun tt kt => XS.iload X149.here hx rfl (hb hby at_249) rfl kt) ?_
            show own_R p.tables e below P (T149.setTop (mkF m 251 #[.val (.long p0), .second, .val (.long p1), .second, .val (.long p2), .second, .val (.int p3), .val (.int p4), .val (.int p5), .val (.int (3 : Int32)), .val (.long spn), .second, .val (.long t1), .second, .val (.long t2), .second, .val (.long t3), .second, .val (.int va), .val (.int vb), .val (.int vc), .val (.ref b142), .val (.long t3), .second, .val (.long qq), .second, .val (.int va)] [(.int vc)]))
            refine own_fwd (fun tt kt => XS.istore X149.here hx rfl (hb hby at_251) rfl (l' := #[.val (.long p0), .second, .val (.long p1), .second, .val (.long p2), .second, .val (.int p3), .val (.int p4), .val (.int p5), .val (.int (3 : Int32)), .val (.long spn), .second, .val (.long t1), .second, .val (.long t2), .second, .val (.long t3), .second, .val (.int va), .val (.int vb), .val (.int vc), .val (.ref b142), .val (.long t3), .second, .val (.long qq), .second, .val (.int vc)]) rfl kt) ?_
            show own_R p.tables e below P (T149.setTop (mkF m 253 #[.val (.long p0), .second, .val (.long p1), .second, .val (.long p2), .second, .val (.int p3), .val (.int p4), .val (.int p5), .val (.int (3 : Int32)), .val (.long spn), .second, .val (.long t1), .second, .val (.long t2), .second, .val (.long t3), .second, .val (.int va), .val (.int vb), .val (.int vc), .val (.ref b142), .val (.long t3), .second, .val (.long qq), .second, .val (.int vc)] []))
            exact k
        · try simp only [if_neg hc160] at k
          refine own_fwd (fun tt kt => XS.ifNo X149.here hx rfl (hb hby at_228) rfl ((if0 _ _).trans (flt hc160).1) kt) ?_
          show own_R p.tables e below P (T149.setTop (mkF m 231 #[.val (.long p0), .second, .val (.long p1), .second, .val (.long p2), .second, .val (.int p3), .val (.int p4), .val (.int p5), .val (.int (3 : Int32)), .val (.long spn), .second, .val (.long t1), .second, .val (.long t2), .second, .val (.long t3), .second, .val (.int va), .val (.int vb), .val (.int vc), .val (.ref b142), .val (.long t3), .second, .val (.long qq), .second, .val (.int va)] []))
          refine own_fwd (fun tt kt => XS.iload X149.here hx rfl (hb hby at_231) rfl kt) ?_
          show own_R p.tables e below P (T149.setTop (mkF m 233 #[.val (.long p0), .second, .val (.long p1), .second, .val (.long p2), .second, .val (.int p3), .val (.int p4), .val (.int p5), .val (.int (3 : Int32)), .val (.long spn), .second, .val (.long t1), .second, .val (.long t2), .second, .val (.long t3), .second, .val (.int va), .val (.int vb), .val (.int vc), .val (.ref b142), .val (.long t3), .second, .val (.long qq), .second, .val (.int va)] [(.int vb)]))
          refine own_fwd (fun tt kt => XS.istore X149.here hx rfl (hb hby at_233) rfl (l' := #[.val (.long p0), .second, .val (.long p1), .second, .val (.long p2), .second, .val (.int p3), .val (.int p4), .val (.int p5), .val (.int (3 : Int32)), .val (.long spn), .second, .val (.long t1), .second, .val (.long t2), .second, .val (.long t3), .second, .val (.int va), .val (.int vb), .val (.int vc), .val (.ref b142), .val (.long t3), .second, .val (.long qq), .second, .val (.int vb)]) rfl kt) ?_
          show own_R p.tables e below P (T149.setTop (mkF m 235 #[.val (.long p0), .second, .val (.long p1), .second, .val (.long p2), .second, .val (.int p3), .val (.int p4), .val (.int p5), .val (.int (3 : Int32)), .val (.long spn), .second, .val (.long t1), .second, .val (.long t2), .second, .val (.long t3), .second, .val (.int va), .val (.int vb), .val (.int vc), .val (.ref b142), .val (.long t3), .second, .val (.long qq), .second, .val (.int vb)] []))
          refine own_fwd (fun tt kt => XS.iload X149.here hx rfl (hb hby at_235) rfl kt) ?_
          show own_R p.tables e below P (T149.setTop (mkF m 237 #[.val (.long p0), .second, .val (.long p1), .second, .val (.long p2), .second, .val (.int p3), .val (.int p4), .val (.int p5), .val (.int (3 : Int32)), .val (.long spn), .second, .val (.long t1), .second, .val (.long t2), .second, .val (.long t3), .second, .val (.int va), .val (.int vb), .val (.int vc), .val (.ref b142), .val (.long t3), .second, .val (.long qq), .second, .val (.int vb)] [(.int (3 : Int32))]))
          refine own_fwd (fun tt kt => XS.iconst X149.here hx rfl (hb hby at_237) kt) ?_
          show own_R p.tables e below P (T149.setTop (mkF m 238 #[.val (.long p0), .second, .val (.long p1), .second, .val (.long p2), .second, .val (.int p3), .val (.int p4), .val (.int p5), .val (.int (3 : Int32)), .val (.long spn), .second, .val (.long t1), .second, .val (.long t2), .second, .val (.long t3), .second, .val (.int va), .val (.int vb), .val (.int vc), .val (.ref b142), .val (.long t3), .second, .val (.long qq), .second, .val (.int vb)] [(.int (3 : Int32)), (.int (3 : Int32))]))
          have hc163 : ¬ ((3 : Int32) < (3 : Int32)) := (by decide)
          refine own_fwd (fun tt kt => XS.icmpNo X149.here hx rfl (hb hby at_238) rfl (flt hc163).1 kt) ?_
          show own_R p.tables e below P (T149.setTop (mkF m 241 #[.val (.long p0), .second, .val (.long p1), .second, .val (.long p2), .second, .val (.int p3), .val (.int p4), .val (.int p5), .val (.int (3 : Int32)), .val (.long spn), .second, .val (.long t1), .second, .val (.long t2), .second, .val (.long t3), .second, .val (.int va), .val (.int vb), .val (.int vc), .val (.ref b142), .val (.long t3), .second, .val (.long qq), .second, .val (.int vb)] []))
          refine own_fwd (fun tt kt => XS.lload X149.here hx rfl (hb hby at_241) rfl kt) ?_
          show own_R p.tables e below P (T149.setTop (mkF m 243 #[.val (.long p0), .second, .val (.long p1), .second, .val (.long p2), .second, .val (.int p3), .val (.int p4), .val (.int p5), .val (.int (3 : Int32)), .val (.long spn), .second, .val (.long t1), .second, .val (.long t2), .second, .val (.long t3), .second, .val (.int va), .val (.int vb), .val (.int vc), .val (.ref b142), .val (.long t3), .second, .val (.long qq), .second, .val (.int vb)] [(.long qq)]))
          refine own_fwd (fun tt kt => XS.lload X149.here hx rfl (hb hby at_243) rfl kt) ?_
          show own_R p.tables e below P (T149.setTop (mkF m 245 #[.val (.long p0), .second, .val (.long p1), .second, .val (.long p2), .second, .val (.int p3), .val (.int p4), .val (.int p5), .val (.int (3 : Int32)), .val (.long spn), .second, .val (.long t1), .second, .val (.long t2), .second, .val (.long t3), .second, .val (.int va), .val (.int vb), .val (.int vc), .val (.ref b142), .val (.long t3), .second, .val (.long qq), .second, .val (.int vb)] [(.long t3), (.long qq)]))
          refine own_fwd (fun tt kt => XS.lcmp X149.here hx rfl (hb hby at_245) rfl kt) ?_
          show own_R p.tables e below P (T149.setTop (mkF m 246 #[.val (.long p0), .second, .val (.long p1), .second, .val (.long p2), .second, .val (.int p3), .val (.int p4), .val (.int p5), .val (.int (3 : Int32)), .val (.long spn), .second, .val (.long t1), .second, .val (.long t2), .second, .val (.long t3), .second, .val (.int va), .val (.int vb), .val (.int vc), .val (.ref b142), .val (.long t3), .second, .val (.long qq), .second, .val (.int vb)] [(.int (lcmpW qq t3))]))
          by_cases hc164 : (lcmpW qq t3) < (0 : Int32)
          · try simp only [if_pos hc164] at k
            refine own_fwd (fun tt kt => XS.ifYes X149.here hx rfl (pc0 := 246) (pc' := 253) rfl (hb hby at_246) rfl ((if0 _ _).trans (tlt hc164).1) (by decide) (by decide) kt) ?_
            show own_R p.tables e below P (T149.setTop (mkF m 253 #[.val (.long p0), .second, .val (.long p1), .second, .val (.long p2), .second, .val (.int p3), .val (.int p4), .val (.int p5), .val (.int (3 : Int32)), .val (.long spn), .second, .val (.long t1), .second, .val (.long t2), .second, .val (.long t3), .second, .val (.int va), .val (.int vb), .val (.int vc), .val (.ref b142), .val (.long t3), .second, .val (.long qq), .second, .val (.int vb)] []))
            exact k
          · try simp only [if_neg hc164] at k
            refine own_fwd (fun tt kt => XS.ifNo X149.here hx rfl (hb hby at_246) rfl ((if0 _ _).trans (flt hc164).1) kt) ?_
            show own_R p.tables e below P (T149.setTop (mkF m 249 #[.val (.long p0), .second, .val (.long p1), .second, .val (.long p2), .second, .val (.int p3), .val (.int p4), .val (.int p5), .val (.int (3 : Int32)), .val (.long spn), .second, .val (.long t1), .second, .val (.long t2), .second, .val (.long t3), .second, .val (.int va), .val (.int vb), .val (.int vc), .val (.ref b142), .val (.long t3), .second, .val (.long qq), .second, .val (.int vb)] []))
            refine own_fwd (fun tt kt => XS.iload X149.here hx rfl (hb hby at_249) rfl kt) ?_
            show own_R p.tables e below P (T149.setTop (mkF m 251 #[.val (.long p0), .second, .val (.long p1), .second, .val (.long p2), .second, .val (.int p3), .val (.int p4), .val (.int p5), .val (.int (3 : Int32)), .val (.long spn), .second, .val (.long t1), .second, .val (.long t2), .second, .val (.long t3), .second, .val (.int va), .val (.int vb), .val (.int vc), .val (.ref b142), .val (.long t3), .second, .val (.long qq), .second, .val (.int vb)] [(.int vc)]))
            refine own_fwd (fun tt kt => XS.istore X149.here hx rfl (hb hby at_251) rfl (l' := #[.val (.long p0), .second, .val (.long p1), .second, .val (.long p2), .second, .val (.int p3), .val (.int p4), .val (.int p5), .val (.int (3 : Int32)), .val (.long spn), .second, .val (.long t1), .second, .val (.long t2), .second, .val (.long t3), .second, .val (.int va), .val (.int vb), .val (.int vc), .val (.ref b142), .val (.long t3), .second, .val (.long qq), .second, .val (.int vc)]) rfl kt) ?_
            show own_R p.tables e below P (T149.setTop (mkF m 253 #[.val (.long p0), .second, .val (.long p1), .second, .val (.long p2), .second, .val (.int p3), .val (.int p4), .val (.int p5), .val (.int (3 : Int32)), .val (.long spn), .second, .val (.long t1), .second, .val (.long t2), .second, .val (.long t3), .second, .val (.int va), .val (.int vb), .val (.int vc), .val (.ref b142), .val (.long t3), .second, .val (.long qq), .second, .val (.int vc)] []))
            exact k
    refine j165 P ?_
    show own_R p.tables e below P (T149.setTop (mkF m 253 #[.val (.long p0), .second, .val (.long p1), .second, .val (.long p2), .second, .val (.int p3), .val (.int p4), .val (.int p5), .val (.int (3 : Int32)), .val (.long spn), .second, .val (.long t1), .second, .val (.long t2), .second, .val (.long t3), .second, .val (.int va), .val (.int vb), .val (.int vc), .val (.ref b142), .val (.long t3), .second, .val (.long qq), .second, .val (.int (if (lcmpW qq t1) < (0 : Int32) then (if (lcmpW qq t2) < (0 : Int32) then (if (lcmpW qq t3) < (0 : Int32) then p4 else vc) else (if (lcmpW qq t3) < (0 : Int32) then vb else vc)) else (if (lcmpW qq t2) < (0 : Int32) then (if (lcmpW qq t3) < (0 : Int32) then va else vc) else (if (lcmpW qq t3) < (0 : Int32) then vb else vc))))] []))
    refine own_fwd (fun tt kt => XS.aload X149.here hx rfl (hb hby at_253) rfl rfl kt) ?_
    show own_R p.tables e below P (T149.setTop (mkF m 255 #[.val (.long p0), .second, .val (.long p1), .second, .val (.long p2), .second, .val (.int p3), .val (.int p4), .val (.int p5), .val (.int (3 : Int32)), .val (.long spn), .second, .val (.long t1), .second, .val (.long t2), .second, .val (.long t3), .second, .val (.int va), .val (.int vb), .val (.int vc), .val (.ref b142), .val (.long t3), .second, .val (.long qq), .second, .val (.int (if (lcmpW qq t1) < (0 : Int32) then (if (lcmpW qq t2) < (0 : Int32) then (if (lcmpW qq t3) < (0 : Int32) then p4 else vc) else (if (lcmpW qq t3) < (0 : Int32) then vb else vc)) else (if (lcmpW qq t2) < (0 : Int32) then (if (lcmpW qq t3) < (0 : Int32) then va else vc) else (if (lcmpW qq t3) < (0 : Int32) then vb else vc))))] [(.ref b142)]))
    refine own_fwd (fun tt kt => XS.lload X149.here hx rfl (hb hby at_255) rfl kt) ?_
    show own_R p.tables e below P (T149.setTop (mkF m 257 #[.val (.long p0), .second, .val (.long p1), .second, .val (.long p2), .second, .val (.int p3), .val (.int p4), .val (.int p5), .val (.int (3 : Int32)), .val (.long spn), .second, .val (.long t1), .second, .val (.long t2), .second, .val (.long t3), .second, .val (.int va), .val (.int vb), .val (.int vc), .val (.ref b142), .val (.long t3), .second, .val (.long qq), .second, .val (.int (if (lcmpW qq t1) < (0 : Int32) then (if (lcmpW qq t2) < (0 : Int32) then (if (lcmpW qq t3) < (0 : Int32) then p4 else vc) else (if (lcmpW qq t3) < (0 : Int32) then vb else vc)) else (if (lcmpW qq t2) < (0 : Int32) then (if (lcmpW qq t3) < (0 : Int32) then va else vc) else (if (lcmpW qq t3) < (0 : Int32) then vb else vc))))] [(.long qq), (.ref b142)]))
    obtain ⟨cq166, kq166, q166a, q166b, q166c⟩ := isOf hZ e149 E149_
    obtain ⟨_, _, ⟨T166, L166, k166, n166⟩, -, X166, ⟨Lc166, hQ166, l166, y166, z166⟩, st166⟩ := X149.virtualBack hx (y := (⟨"com/example/ramp99/ramp99/service/policy/SizeHistory", "at", "(J)I"⟩ : MethodName)) (z := (⟨"com/example/ramp99/ramp99/service/policy/SizeHistory", "at", "(J)I"⟩ : MethodName)) hown (mvT hZ (hw _ (List.mem_of_getElem? (i := 29) rfl))) (mvT hZ (hw _ (List.mem_of_getElem? (i := 30) rfl))) (notFace_of_selects (args := #[]) (mvT hZ (hw _ (List.mem_of_getElem? (i := 32) rfl)))) (mvT hZ (hw _ (List.mem_of_getElem? (i := 32) rfl))) (mvT hZ (hw _ (List.mem_of_getElem? (i := 31) rfl))) (by decide) (backOf (W := 0) (own_rm4 l Z a0 hw [] b142 tA sA qq spn bf3 fi3 ct3 ft3 fs3 F3 K3_ h149 n0 Z149 E149_ F149a F149b F149c F149d F149e F149f A149_ B149_ ge_b142 get_ ges_ nt_b142 ns_b142 nts hF3 hK3 (by omega) asc3) hZ (hw _ (List.mem_of_getElem? (i := 33) rfl)) (hw _ (List.mem_of_getElem? (i := 3) rfl)) (by decide) (by decide)) q166a q166c (g := (mkF m 257 #[.val (.long p0), .second, .val (.long p1), .second, .val (.long p2), .second, .val (.int p3), .val (.int p4), .val (.int p5), .val (.int (3 : Int32)), .val (.long spn), .second, .val (.long t1), .second, .val (.long t2), .second, .val (.long t3), .second, .val (.int va), .val (.int vb), .val (.int vc), .val (.ref b142), .val (.long t3), .second, .val (.long qq), .second, .val (.int (if (lcmpW qq t1) < (0 : Int32) then (if (lcmpW qq t2) < (0 : Int32) then (if (lcmpW qq t3) < (0 : Int32) then p4 else vc) else (if (lcmpW qq t3) < (0 : Int32) then vb else vc)) else (if (lcmpW qq t2) < (0 : Int32) then (if (lcmpW qq t3) < (0 : Int32) then va else vc) else (if (lcmpW qq t3) < (0 : Int32) then vb else vc))))] [(.long qq), (.ref b142)])) rfl (by rw [hml]; rfl) (Steps.refl _) (argsL := [(.long qq)]) (rest := []) (lenOf own_pd1 rfl) rfl (by show 2 * 0 + _ ≤ _; exact Nat.le_of_eq rfl) (hb hby at_257) (fun _ _ => ⟨rfl, e149, (by decide : 3 + 0 ≤ _), (by decide : 38 + 0 ≤ _)⟩)
    dsimp only [Pt.U, Pt.locs, Pt.cells, Pt.slots] at X166 l166 y166 z166 st166 hQ166
    subst l166 y166 z166
    obtain ⟨h166, e166⟩ : ∃ z, T166.heap = z := ⟨_, rfl⟩
    rw [e166] at hQ166
    obtain ⟨rr, hq166, VV, N166q, q166⟩ := hQ166
    rw [q166] at e166
    subst hq166
    have N166 := Fr.app N149 N166q
    refine own_trn st166 ?_
    show own_R p.tables e below P (T166.setTop (mkF m 260 #[.val (.long p0), .second, .val (.long p1), .second, .val (.long p2), .second, .val (.int p3), .val (.int p4), .val (.int p5), .val (.int (3 : Int32)), .val (.long spn), .second, .val (.long t1), .second, .val (.long t2), .second, .val (.long t3), .second, .val (.int va), .val (.int vb), .val (.int vc), .val (.ref b142), .val (.long t3), .second, .val (.long qq), .second, .val (.int (if (lcmpW qq t1) < (0 : Int32) then (if (lcmpW qq t2) < (0 : Int32) then (if (lcmpW qq t3) < (0 : Int32) then p4 else vc) else (if (lcmpW qq t3) < (0 : Int32) then vb else vc)) else (if (lcmpW qq t2) < (0 : Int32) then (if (lcmpW qq t3) < (0 : Int32) then va else vc) else (if (lcmpW qq t3) < (0 : Int32) then vb else vc))))] [(.int rr)]))
    refine own_fwd (fun tt kt => XS.iload X166.here hx rfl (hb hby at_260) rfl kt) ?_
    show own_R p.tables e below P (T166.setTop (mkF m 262 #[.val (.long p0), .second, .val (.long p1), .second, .val (.long p2), .second, .val (.int p3), .val (.int p4), .val (.int p5), .val (.int (3 : Int32)), .val (.long spn), .second, .val (.long t1), .second, .val (.long t2), .second, .val (.long t3), .second, .val (.int va), .val (.int vb), .val (.int vc), .val (.ref b142), .val (.long t3), .second, .val (.long qq), .second, .val (.int (if (lcmpW qq t1) < (0 : Int32) then (if (lcmpW qq t2) < (0 : Int32) then (if (lcmpW qq t3) < (0 : Int32) then p4 else vc) else (if (lcmpW qq t3) < (0 : Int32) then vb else vc)) else (if (lcmpW qq t2) < (0 : Int32) then (if (lcmpW qq t3) < (0 : Int32) then va else vc) else (if (lcmpW qq t3) < (0 : Int32) then vb else vc))))] [(.int (if (lcmpW qq t1) < (0 : Int32) then (if (lcmpW qq t2) < (0 : Int32) then (if (lcmpW qq t3) < (0 : Int32) then p4 else vc) else (if (lcmpW qq t3) < (0 : Int32) then vb else vc)) else (if (lcmpW qq t2) < (0 : Int32) then (if (lcmpW qq t3) < (0 : Int32) then va else vc) else (if (lcmpW qq t3) < (0 : Int32) then vb else vc)))), (.int rr)]))
    have hc167 : rr = (if (lcmpW qq t1) < (0 : Int32) then (if (lcmpW qq t2) < (0 : Int32) then (if (lcmpW qq t3) < (0 : Int32) then p4 else vc) else (if (lcmpW qq t3) < (0 : Int32) then vb else vc)) else (if (lcmpW qq t2) < (0 : Int32) then (if (lcmpW qq t3) < (0 : Int32) then va else vc) else (if (lcmpW qq t3) < (0 : Int32) then vb else vc))) := by
      simp only [own_ltT]
      rcases val3 qq.toInt rr (by omega) VV with ⟨c3, e3⟩ | ⟨c3, V3⟩
      · rw [e3]; repeat' split
        all_goals first | rfl | (exfalso; omega)
      · skip
        rcases val2 qq.toInt rr (by omega) V3 with ⟨c2, e2⟩ | ⟨c2, V2⟩
        · rw [e2]; repeat' split
          all_goals first | rfl | (exfalso; omega)
        · skip
          rcases val1 qq.toInt rr (by omega) V2 with ⟨c1, e1⟩ | ⟨c1, V1⟩
          · rw [e1]; repeat' split
            all_goals first | rfl | (exfalso; omega)
          · skip
            obtain ⟨i, -, a2, -, -, e0⟩ := V1
            rw [e0, if_pos (by omega)]
            repeat' split
            all_goals first | rfl | (exfalso; omega)
    refine own_fwd (fun tt kt => XS.icmpNo X166.here hx rfl (hb hby at_262) rfl (teq hc167).2 kt) ?_
    show own_R p.tables e below P (T166.setTop (mkF m 265 #[.val (.long p0), .second, .val (.long p1), .second, .val (.long p2), .second, .val (.int p3), .val (.int p4), .val (.int p5), .val (.int (3 : Int32)), .val (.long spn), .second, .val (.long t1), .second, .val (.long t2), .second, .val (.long t3), .second, .val (.int va), .val (.int vb), .val (.int vc), .val (.ref b142), .val (.long t3), .second, .val (.long qq), .second, .val (.int (if (lcmpW qq t1) < (0 : Int32) then (if (lcmpW qq t2) < (0 : Int32) then (if (lcmpW qq t3) < (0 : Int32) then p4 else vc) else (if (lcmpW qq t3) < (0 : Int32) then vb else vc)) else (if (lcmpW qq t2) < (0 : Int32) then (if (lcmpW qq t3) < (0 : Int32) then va else vc) else (if (lcmpW qq t3) < (0 : Int32) then vb else vc))))] []))
    refine own_fwd (fun tt kt => XS.iconst X166.here hx rfl (hb hby at_265) kt) ?_
    show own_R p.tables e below P (T166.setTop (mkF m 266 #[.val (.long p0), .second, .val (.long p1), .second, .val (.long p2), .second, .val (.int p3), .val (.int p4), .val (.int p5), .val (.int (3 : Int32)), .val (.long spn), .second, .val (.long t1), .second, .val (.long t2), .second, .val (.long t3), .second, .val (.int va), .val (.int vb), .val (.int vc), .val (.ref b142), .val (.long t3), .second, .val (.long qq), .second, .val (.int (if (lcmpW qq t1) < (0 : Int32) then (if (lcmpW qq t2) < (0 : Int32) then (if (lcmpW qq t3) < (0 : Int32) then p4 else vc) else (if (lcmpW qq t3) < (0 : Int32) then vb else vc)) else (if (lcmpW qq t2) < (0 : Int32) then (if (lcmpW qq t3) < (0 : Int32) then va else vc) else (if (lcmpW qq t3) < (0 : Int32) then vb else vc))))] [(.int (1 : Int32))]))
    refine own_fwd (fun tt kt => XS.goto X166.here hx rfl (pc0 := 266) (pc' := 270) rfl (hb hby at_266) (by decide) (by decide) kt) ?_
    show own_R p.tables e below P (T166.setTop (mkF m 270 #[.val (.long p0), .second, .val (.long p1), .second, .val (.long p2), .second, .val (.int p3), .val (.int p4), .val (.int p5), .val (.int (3 : Int32)), .val (.long spn), .second, .val (.long t1), .second, .val (.long t2), .second, .val (.long t3), .second, .val (.int va), .val (.int vb), .val (.int vc), .val (.ref b142), .val (.long t3), .second, .val (.long qq), .second, .val (.int (if (lcmpW qq t1) < (0 : Int32) then (if (lcmpW qq t2) < (0 : Int32) then (if (lcmpW qq t3) < (0 : Int32) then p4 else vc) else (if (lcmpW qq t3) < (0 : Int32) then vb else vc)) else (if (lcmpW qq t2) < (0 : Int32) then (if (lcmpW qq t3) < (0 : Int32) then va else vc) else (if (lcmpW qq t3) < (0 : Int32) then vb else vc))))] [(.int (1 : Int32))]))
    obtain ⟨fs168, hr168, hrun168, hended168, hW168, hsame168⟩ := X166.leave (v := some (.int (1 : Int32))) (fun h => by rw [Bd.returns] at h; cases h)
    refine ⟨_, _, X166.ireturnOut hx (w := (1 : Int32)) Bd.returns rfl (by simp) (hb hby at_270) hr168, fin _ _ ⟨hrun168, hended168, _, _, rfl, ?_, ⟨_, rfl⟩, hW168, hsame168.mono (by decide) (by decide)⟩⟩
    show own_Qlaw Z p0 p1 p2 p3 p4 p5 h0 n0 _ T166.heap _
    rw [e166]
    exact ⟨rfl, N166⟩
set_option maxRecDepth 65536 in
set_option maxHeartbeats 40000000 in
theorem own_comes {Post : Tables → Env → Array Value → State → Outcome → State → Prop} (hpost : ∀ tb e args s v u, (limb_1_1.after args s (.returned v) u = true ∧ limb_1_2.after args s (.returned v) u = true ∧ True) → FrameEnd s (.returned v) u (Jvm.fieldLocs frame_1_writes args s ++ Jvm.arrayLocs frame_1_arrays args s ++ Jvm.staticLocs frame_1_statics s) 16 192 → Post tb e args s (.returned v) u) :
    ArmFor flags0 classFile x code maxLocals ret World_1 tables_1 room_1 Calls_1 rest_1 Pre_1 Post := by
  intro l hfl _ _ p e ha hc hk s m args below hf hA hF happ hP
  obtain ⟨hcalls, hrest, hpre⟩ := hP
  obtain ⟨-, -, -, hnamed, -, -, -, hat⟩ := (Spec.applies_iff hf).mp happ
  obtain ⟨hg, hn⟩ := and_e (Cond.before_iff.mp (show (Jvm.Cond.and given_1 narrow_1).before args s = true from hpre))
  obtain ⟨g1, g2⟩ := and_e hg
  obtain ⟨g3, g4⟩ := and_e g2
  obtain ⟨g5, g6⟩ := and_e g4
  obtain ⟨g7, g8⟩ := and_e g6
  obtain ⟨g9, g10⟩ := and_e g8
  obtain ⟨g11, g12⟩ := and_e g10
  obtain ⟨w0, w1, w2, w3, w4, w5, rfl⟩ : ∃ w0 w1 w2 w3 w4 w5 : Value, args = #[w0, w1, w2, w3, w4, w5] := by
    have hs : args.size = 6 := by simpa [Cond.value, given_1] using g1
    obtain ⟨L⟩ := args
    match L, hs with
    | [w0, w1, w2, w3, w4, w5], _ => exact ⟨w0, w1, w2, w3, w4, w5, rfl⟩
  have hw := fun d (hd : d ∈ tables_1) => atoms_spec (ws := Jvm.Cond.code x code maxLocals ret :: tables_1) hat d (List.mem_cons_of_mem _ hd)
  obtain ⟨i0, ei0⟩ := isL_v g3
  obtain rfl : w0 = (.long i0) := Option.some.inj ei0
  obtain ⟨i1, ei1⟩ := isL_v g5
  obtain rfl : w1 = (.long i1) := Option.some.inj ei1
  obtain ⟨i2, ei2⟩ := isL_v g7
  obtain rfl : w2 = (.long i2) := Option.some.inj ei2
  obtain ⟨i3, ei3⟩ := is_v g9
  obtain rfl : w3 = (.int i3) := Option.some.inj ei3
  obtain ⟨i4, ei4⟩ := is_v g11
  obtain rfl : w4 = (.int i4) := Option.some.inj ei4
  obtain ⟨i5, ei5⟩ := is_v g12
  obtain rfl : w5 = (.int i5) := Option.some.inj ei5
  obtain ⟨n, o, h1, h2, h3, _, L, rfl, ⟨rfl, N⟩, hq⟩ := own_rmlaw l s _ hw tables_1 i0 i1 i2 i3 i4 i5 s.heap s.heap.size (Nat.le_refl _) p e ha hc hk s m _ below hf ((Spec.applies_iff_loose hf).mp happ).1 ⟨rfl, State.Warmed39.refl s, rfl⟩ trivial
  refine ⟨n, _, h1, h2, h3, hpost _ _ _ _ _ _ ⟨Cond.after_iff.mpr rfl, Cond.after_iff.mpr (eq_i res_at (Term.int_eval (1)) rfl), trivial⟩ ⟨hq.1, hq.2.1, (hq.2.2.sift fun y hy => Or.inr (N y hy)).mono (by decide) (by decide)⟩⟩
theorem main_1_1 : Claimed_1_1 := own_comes fun _ _ _ _ _ _ h hF => ⟨h.1, hF⟩
theorem main_1_2 : Claimed_1_2 := own_comes fun _ _ _ _ _ _ h hF => ⟨h.2.1, hF⟩
end Jvm.Pilot.@@N@@
namespace Jvm.Pilot.@@N@@
open Jvm Jvm.ClassFile Sem Op Lib Jvm.Free Jvm.Stand Jvm.Pilot.@@N@@.Jvm.D
/-! MADE BY PROGRAM (witnessworld.py) out of the Statement's table words and the real class files: 11 classes; the members and pool entries that the words name. The judged class is class 1, her method 1. -/
namespace start1
open Jvm.ClassFile
def u (s : String) : CpInfo := .utf8 (stringToUtf16 s)
/-- a pool by its gaps: so many unusable entries, then the entry; so many at the end -/
def gap : Nat → List CpInfo → List CpInfo
  | 0, r => r
  | n + 1, r => .unusable :: gap n r
def poolList (es : List (Nat × CpInfo)) (last : Nat) : List CpInfo := es.foldr (fun e r => gap e.1 (e.2 :: r)) (gap last [])
def pool (es : List (Nat × CpInfo)) (last : Nat) : Array CpInfo := ⟨poolList es last⟩
def fileOf (pool : Array CpInfo) (this : Nat) (attrs : Array Attribute := #[]) (ms : Array MethodInfo := #[]) (fl : Nat := 33) (sup : Nat := 0) (ifs : Array Nat := #[]) (fds : Array FieldInfo := #[]) : ClassFile where
  minorVersion := 0
  majorVersion := 65
  constantPool := pool
  accessFlags := fl
  thisClass := this
  superClass := sup
  interfaces := ifs
  fields := fds
  methods := ms
  attributes := attrs
def plain (name : String) (sup : Option ClassId) : Class where
  name := name
  kind := .ordinary
  loader := none
  accessFlags := 33
  super := sup
  interfaces := #[]
  cf := none
  fields := #[]
  methods := #[]
  instanceTypes := #[]
  staticTypes := #[]
  resolved := #[]
  callSites := []
  init := .initialized
  statics := none
  mirror := none

def pool0 : Array CpInfo := pool [(5, u "<init>"), (0, u "()V"), (1, .class_ 10), (1, u "java/lang/Object")] 113

def k0c0 : Code := { maxStack := 0, maxLocals := 1, code := object_method_1_code, exceptionTable := #[], attributes := #[] }
def k0m0 : Method := { name := "<init>", desc := "()V", sig := { parameters := [], returnType := none }, accessFlags := 1, code := some k0c0 }
/-- java/lang/Object -/
def k0 : Class := { plain "java/lang/Object" none with
  accessFlags := 33
  interfaces := #[]
  cf := some (fileOf pool0 8 #[] #[{ accessFlags := 1, nameIndex := 5, descriptorIndex := 6, attributes := #[] }] 33 0 #[] #[])
  fields := #[]
  methods := #[k0m0]
  instanceTypes := #[]
  staticTypes := #[]
  resolved := Array.replicate 124 none
  statics := none }

def pool1 : Array CpInfo := pool [(2, .class_ 4), (1, u "java/lang/Object"), (0, u "<init>"), (0, u "()V"), (0, .long 32767), (1, .long 4611686018427387903), (1, .class_ 12), (0, u "com/example/ramp99/ramp99/service/policy/SizeHistory"), (0, .methodref 11 14), (0, .nameAndType 5 15), (0, u "(JI)V"), (0, .methodref 11 17), (0, .nameAndType 18 15), (0, u "add"), (0, .methodref 11 20), (0, .nameAndType 21 22), (0, u "at"), (0, u "(J)I"), (0, .class_ 24), (0, u "com/example/ramp99/ramp99/service/policy/SizeHistoryAtPinLaw"), (2, u "law"), (0, u "(JJJIII)Z")] 3

def k1m0 : Method := { name := "<init>", desc := "()V", sig := { parameters := [], returnType := none }, accessFlags := 1, code := none }
def k1c1 : Code := { maxStack := 6, maxLocals := 27, code := code, exceptionTable := #[], attributes := #[] }
def k1m1 : Method := { name := "law", desc := "(JJJIII)Z", sig := { parameters := [.long, .long, .long, .int, .int, .int], returnType := some .boolean }, accessFlags := 9, code := some k1c1 }
/-- com/example/ramp99/ramp99/service/policy/SizeHistoryAtPinLaw -/
def k1 : Class := { plain "com/example/ramp99/ramp99/service/policy/SizeHistoryAtPinLaw" (some 0) with
  accessFlags := 49
  interfaces := #[]
  cf := some (fileOf pool1 23 #[] #[{ accessFlags := 1, nameIndex := 5, descriptorIndex := 6, attributes := #[] }, { accessFlags := 9, nameIndex := 27, descriptorIndex := 28, attributes := #[] }] 49 2 #[] #[])
  fields := #[]
  methods := #[k1m0, k1m1]
  instanceTypes := #[]
  staticTypes := #[]
  resolved := Array.replicate 32 none
  statics := none }

def pool2 : Array CpInfo := pool [(1, .methodref 2 3), (0, .class_ 4), (0, .nameAndType 5 6), (0, u "java/lang/Object"), (0, u "<init>"), (0, u "()V"), (0, .class_ 8), (0, u "com/example/ramp99/ramp99/service/policy/SizeHistory"), (0, .fieldref 7 10), (0, .nameAndType 11 12), (0, u "times"), (0, u "[J"), (0, .fieldref 7 14), (0, .nameAndType 15 16), (0, u "sizes"), (0, u "[I"), (0, .fieldref 7 18), (0, .nameAndType 19 20), (0, u "spanNanos"), (0, u "J"), (0, .fieldref 7 22), (0, .nameAndType 23 24), (0, u "before"), (0, u "I"), (0, .fieldref 7 26), (0, .nameAndType 27 24), (0, u "first"), (0, .fieldref 7 29), (0, .nameAndType 30 24), (0, u "count"), (15, u "FIRST_CAPACITY"), (2, u "(JI)V"), (2, u "at"), (0, u "(J)I"), (1, u "add")] 2

def k2c0 : Code := { maxStack := 3, maxLocals := 4, code := prog_88_method_1_code, exceptionTable := #[], attributes := #[] }
def k2m0 : Method := { name := "<init>", desc := "(JI)V", sig := { parameters := [.long, .int], returnType := none }, accessFlags := 0, code := some k2c0 }
def k2c1 : Code := { maxStack := 4, maxLocals := 6, code := prog_88_method_2_code, exceptionTable := #[], attributes := #[] }
def k2m1 : Method := { name := "at", desc := "(J)I", sig := { parameters := [.long], returnType := some .int }, accessFlags := 0, code := some k2c1 }
def k2c2 : Code := { maxStack := 6, maxLocals := 4, code := prog_88_method_3_code, exceptionTable := #[], attributes := #[] }
def k2m2 : Method := { name := "add", desc := "(JI)V", sig := { parameters := [.long, .int], returnType := none }, accessFlags := 0, code := some k2c2 }
/-- com/example/ramp99/ramp99/service/policy/SizeHistory -/
def k2 : Class := { plain "com/example/ramp99/ramp99/service/policy/SizeHistory" (some 0) with
  accessFlags := 48
  interfaces := #[]
  cf := some (fileOf pool2 7 #[] #[{ accessFlags := 0, nameIndex := 5, descriptorIndex := 49, attributes := #[] }, { accessFlags := 0, nameIndex := 52, descriptorIndex := 53, attributes := #[] }, { accessFlags := 0, nameIndex := 55, descriptorIndex := 49, attributes := #[] }] 48 2 #[] #[{ accessFlags := 26, nameIndex := 46, descriptorIndex := 24, attributes := #[] }, { accessFlags := 18, nameIndex := 19, descriptorIndex := 20, attributes := #[] }, { accessFlags := 2, nameIndex := 11, descriptorIndex := 12, attributes := #[] }, { accessFlags := 2, nameIndex := 15, descriptorIndex := 16, attributes := #[] }, { accessFlags := 2, nameIndex := 27, descriptorIndex := 24, attributes := #[] }, { accessFlags := 2, nameIndex := 30, descriptorIndex := 24, attributes := #[] }, { accessFlags := 2, nameIndex := 23, descriptorIndex := 24, attributes := #[] }])
  fields := #[{ name := "FIRST_CAPACITY", type := .int, accessFlags := 26, slot := 0, constantValue := 0 }, { name := "spanNanos", type := .long, accessFlags := 18, slot := 0, constantValue := 0 }, { name := "times", type := (.array .long), accessFlags := 2, slot := 1, constantValue := 0 }, { name := "sizes", type := (.array .int), accessFlags := 2, slot := 2, constantValue := 0 }, { name := "first", type := .int, accessFlags := 2, slot := 3, constantValue := 0 }, { name := "count", type := .int, accessFlags := 2, slot := 4, constantValue := 0 }, { name := "before", type := .int, accessFlags := 2, slot := 5, constantValue := 0 }]
  methods := #[k2m0, k2m1, k2m2]
  instanceTypes := #[.long, (.array .long), (.array .int), .int, .int, .int]
  staticTypes := #[.int]
  resolved := Array.replicate 58 none
  statics := none }

def pool3 : Array CpInfo := pool [(1, u "java/lang/Cloneable"), (0, .class_ 1), (0, u "java/lang/Object"), (0, .class_ 3)] 3

/-- java/lang/Cloneable -/
def k3 : Class := { plain "java/lang/Cloneable" (some 0) with
  accessFlags := 1537
  interfaces := #[]
  cf := some (fileOf pool3 2 #[] #[] 1537 4 #[] #[])
  fields := #[]
  methods := #[]
  instanceTypes := #[]
  staticTypes := #[]
  resolved := Array.replicate 8 none
  statics := none }

def pool4 : Array CpInfo := pool [(1, u "java/io/Serializable"), (0, .class_ 1), (0, u "java/lang/Object"), (0, .class_ 3)] 3

/-- java/io/Serializable -/
def k4 : Class := { plain "java/io/Serializable" (some 0) with
  accessFlags := 1537
  interfaces := #[]
  cf := some (fileOf pool4 2 #[] #[] 1537 4 #[] #[])
  fields := #[]
  methods := #[]
  instanceTypes := #[]
  staticTypes := #[]
  resolved := Array.replicate 8 none
  statics := none }

/-- the primitive byte -/
def k5 : Class := { plain "byte" none with kind := .primitive 'B', accessFlags := 0x411 }
/-- [B -/
def k6 : Class := { plain "[B" (some 0) with kind := .array 5 .byte, interfaces := #[3, 4], accessFlags := 1041 }

/-- the primitive int -/
def k7 : Class := { plain "int" none with kind := .primitive 'I', accessFlags := 0x411 }
/-- [I -/
def k8 : Class := { plain "[I" (some 0) with kind := .array 7 .int, interfaces := #[3, 4], accessFlags := 1041 }

/-- the primitive long -/
def k9 : Class := { plain "long" none with kind := .primitive 'J', accessFlags := 0x411 }
/-- [J -/
def k10 : Class := { plain "[J" (some 0) with kind := .array 9 .long, interfaces := #[3, 4], accessFlags := 1041 }

def heap : Heap := #[]
def classes : Array Class := #[k0, k1, k2, k3, k4, k5, k6, k7, k8, k9, k10]
def interned : List (Array UInt16 × Addr) := []
def slotsUsed : Nat := 0
def theMethod : MethodId := ⟨1, 1⟩
def args0 : Array Value := #[.long 2, .long 5, .long 9, .int 3, .int 4, .int 11]
def aboutOver (below : List Frame) : State where
  vm := { classes := classes, interned := interned.toArray }
  heap := heap
  slotsUsed := slotsUsed
  threads := #[{ frames := .invoking theMethod args0 :: below }]
def below0 : List Frame := [.native { method := ⟨0, 0⟩, args := #[] }]
def about1 : State := aboutOver below0
def p0 : Program := .bare "" "" ""
def e0 : Env := launch0.env 0 0 0
theorem w_frames : about1.frames = Frame.invoking theMethod args0 :: below0 := rfl
set_option maxRecDepth 65536 in
theorem w_args : argsFit about1.vm theMethod args0 = true := by decide +kernel
set_option maxRecDepth 65536 in
theorem w_heap : heapFits about1 = true := by decide +kernel
set_option maxRecDepth 65536 in
theorem w_runnable : about1.curStatus? = some .runnable := by decide +kernel
set_option maxRecDepth 65536 in
theorem w_alone : about1.alone = true := by decide +kernel
set_option maxRecDepth 65536 in
theorem w_named : about1.methodNamed? x = some theMethod := by decide +kernel
set_option maxRecDepth 65536 in
theorem w_hears : about1.hears theMethod below0 = true := by decide +kernel
set_option maxRecDepth 65536 in
theorem w_ripe : about1.ripe theMethod args0 below0 = true := by decide +kernel
theorem w_running : about1.status = .running := rfl
set_option maxRecDepth 65536 in
theorem w_room : about1.hasRoom e0.platform room_1 = true :=
  launch0.hasRoom_least _ room_1 (by decide +kernel) (by decide +kernel) (by decide +kernel) (by decide +kernel) (by decide +kernel) (by decide +kernel)
theorem allAtoms_all (ts : List Jvm.Cond) (a : Array Jvm.Value) (st : Jvm.State) : (allAtoms ts).before a st = ts.all (fun c => c.before a st) := by
  induction ts with
  | nil => rfl
  | cons c t ih =>
    show (Jvm.Cond.and c (allAtoms t)).before a st = _
    rw [Jvm.Cond.before_and, ih, List.all_cons]
def words1 : List Jvm.Cond := Jvm.Cond.code x code maxLocals ret :: tables_1
/-- a 'code' word, met by the world's own term for the bytes: nothing is compared byte by byte -/
theorem code_word {y : MethodName} {bytes : ByteArray} {mx : Nat} {rt : Option FieldType} {a : Array Value} {s : State} {m : MethodId} {meth : Method} {c : Code} (h1 : s.methodNamed? y = some m) (h2 : s.vm.method? m = some meth) (h3 : meth.code = some c) (h4 : c.code = bytes)
    (h5 : (c.maxLocals == mx && c.exceptionTable.isEmpty && decide (c.maxStack ≤ mostOperands) && decide (meth.sig.returnType = rt) && !meth.locks && decide (parseMethodDescriptor y.desc = some meth.sig)) = true) : (Jvm.Cond.code y bytes mx rt).before a s = true := by
  simp only [Bool.and_eq_true, beq_iff_eq, Bool.not_eq_true', decide_eq_true_eq] at h5
  obtain ⟨⟨⟨⟨⟨g1, g2⟩, g3⟩, g4⟩, g5⟩, g6⟩ := h5
  simp [Cond.before, Cond.holds, Cond.value, h1, h2, h3, h4, g1, g2, g3, g4, g5, g6]
def isCode : Jvm.Cond → Bool
  | .code _ _ _ _ => true
  | _ => false
theorem all_split {L : List Jvm.Cond} {P : Jvm.Cond → Bool} (h1 : L.all (fun c => isCode c || P c) = true) (h2 : ∀ c ∈ L.filter isCode, P c = true) : L.all P = true := by
  refine List.all_eq_true.mpr fun c hc => ?_
  have h := List.all_eq_true.mp h1 c hc
  rcases Bool.eq_false_or_eq_true (isCode c) with hi | hi
  · exact h2 c (List.mem_filter.mpr ⟨hc, hi⟩)
  · simpa [hi] using h
set_option maxRecDepth 65536 in
theorem w_c0 : (Jvm.Cond.code x code maxLocals ret).before args0 about1 = true := code_word (m := ⟨1, 1⟩) (meth := k1m1) (c := k1c1) (by decide +kernel) rfl rfl rfl (by decide +kernel)
set_option maxRecDepth 65536 in
theorem w_c1 : (Jvm.Cond.code ({ cls := "com/example/ramp99/ramp99/service/policy/SizeHistory", name := "<init>", desc := "(JI)V" } : Jvm.MethodName) prog_88_method_1_code (4 : Nat) (Option.none : Option Jvm.ClassFile.FieldType)).before args0 about1 = true := code_word (m := ⟨2, 0⟩) (meth := k2m0) (c := k2c0) (by decide +kernel) rfl rfl rfl (by decide +kernel)
set_option maxRecDepth 65536 in
theorem w_c2 : (Jvm.Cond.code ({ cls := "java/lang/Object", name := "<init>", desc := "()V" } : Jvm.MethodName) object_method_1_code (1 : Nat) (Option.none : Option Jvm.ClassFile.FieldType)).before args0 about1 = true := code_word (m := ⟨0, 0⟩) (meth := k0m0) (c := k0c0) (by decide +kernel) rfl rfl rfl (by decide +kernel)
set_option maxRecDepth 65536 in
theorem w_c3 : (Jvm.Cond.code ({ cls := "com/example/ramp99/ramp99/service/policy/SizeHistory", name := "add", desc := "(JI)V" } : Jvm.MethodName) prog_88_method_3_code (4 : Nat) (Option.none : Option Jvm.ClassFile.FieldType)).before args0 about1 = true := code_word (m := ⟨2, 2⟩) (meth := k2m2) (c := k2c2) (by decide +kernel) rfl rfl rfl (by decide +kernel)
set_option maxRecDepth 65536 in
theorem w_c4 : (Jvm.Cond.code ({ cls := "com/example/ramp99/ramp99/service/policy/SizeHistory", name := "at", desc := "(J)I" } : Jvm.MethodName) prog_88_method_2_code (6 : Nat) (Option.some Jvm.ClassFile.FieldType.int)).before args0 about1 = true := code_word (m := ⟨2, 1⟩) (meth := k2m1) (c := k2c1) (by decide +kernel) rfl rfl rfl (by decide +kernel)
def codes1 : List Jvm.Cond := [Jvm.Cond.code x code maxLocals ret, Jvm.Cond.code ({ cls := "com/example/ramp99/ramp99/service/policy/SizeHistory", name := "<init>", desc := "(JI)V" } : Jvm.MethodName) prog_88_method_1_code (4 : Nat) (Option.none : Option Jvm.ClassFile.FieldType), Jvm.Cond.code ({ cls := "java/lang/Object", name := "<init>", desc := "()V" } : Jvm.MethodName) object_method_1_code (1 : Nat) (Option.none : Option Jvm.ClassFile.FieldType), Jvm.Cond.code ({ cls := "com/example/ramp99/ramp99/service/policy/SizeHistory", name := "add", desc := "(JI)V" } : Jvm.MethodName) prog_88_method_3_code (4 : Nat) (Option.none : Option Jvm.ClassFile.FieldType), Jvm.Cond.code ({ cls := "com/example/ramp99/ramp99/service/policy/SizeHistory", name := "at", desc := "(J)I" } : Jvm.MethodName) prog_88_method_2_code (6 : Nat) (Option.some Jvm.ClassFile.FieldType.int)]
set_option maxRecDepth 65536 in
theorem codes_eq : words1.filter isCode = codes1 := rfl
theorem w_codes : ∀ c ∈ words1.filter isCode, c.before args0 about1 = true := by
  rw [codes_eq]
  intro c hc
  simp only [codes1, List.mem_cons, List.not_mem_nil, or_false] at hc
  rcases hc with rfl | rfl | rfl | rfl | rfl
  · exact w_c0
  · exact w_c1
  · exact w_c2
  · exact w_c3
  · exact w_c4
set_option maxRecDepth 65536 in
theorem w_t1 : (words1.take 24).all (fun c => isCode c || c.before args0 about1) = true := by decide +kernel
set_option maxRecDepth 65536 in
theorem w_t2 : (words1.drop 24).all (fun c => isCode c || c.before args0 about1) = true := by decide +kernel
theorem w_tables : (allAtoms (Jvm.Cond.code x code maxLocals ret :: tables_1)).before args0 about1 = true := by
  rw [allAtoms_all]
  show words1.all (fun c => c.before args0 about1) = true
  refine all_split ?_ w_codes
  rw [← List.take_append_drop 24 words1, List.all_append, w_t1, w_t2]
  rfl
set_option maxRecDepth 65536 in
theorem w_case : (Jvm.Cond.and given_1 narrow_1).before args0 about1 = true := by decide +kernel
theorem w_applies : (headSpec (Jvm.Cond.code x code maxLocals ret :: tables_1) room_1).applies x e0.platform about1 = true :=
  (Spec.applies_iff w_frames).mpr ⟨w_running, w_runnable, w_alone, w_named, w_hears, w_ripe, w_room, w_tables⟩
theorem atStart : AtStart classFile x code maxLocals ret World_1 tables_1 room_1 Calls_1 rest_1 Pre_1 launch0 p0 e0 about1 theMethod args0 below0 :=
  ⟨lists_1, trivial, launch0.admits_env _ _ _, launch0.least_env, fairChoices_fair.cas, fairChoices_fair.clock, w_frames, w_args, w_heap, w_applies, trivial, trivial, w_case⟩
end start1
theorem witness_1 : WitnessClaimed_1 := ⟨start1.p0, start1.e0, start1.about1, start1.theMethod, start1.args0, start1.below0, start1.atStart⟩
end Jvm.Pilot.@@N@@

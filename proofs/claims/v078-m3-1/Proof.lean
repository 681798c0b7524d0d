import JvmDerived
import JvmDerived.Pilot.@@N@@Statement
import JvmDerived.Pilot.@@N@@Code
set_option linter.unusedVariables false
set_option linter.unusedSimpArgs false
namespace Jvm.Pilot.@@N@@
open Jvm Jvm.ClassFile Sem Op Lib Jvm.Free Jvm.Stand Jvm.LawKit Jvm.RoadKit Bundle Jvm.Pilot.@@N@@.Jvm.D
/-! own layer: forward walking in continuation style, arrays as functions -/
def own_R (tb : Tables) (e : Env) (below : List Frame) (P : State → Outcome → Prop) (st : State) : Prop := ∃ t o, Steps tb e below st t ∧ P t o
theorem own_fwd {tb : Tables} {e : Env} {below : List Frame} {P : State → Outcome → Prop} {st st' : State} (k : ∀ t, Steps tb e below st' t → Steps tb e below st t) (h : own_R tb e below P st') : own_R tb e below P st := by
  obtain ⟨t, o, h1, h2⟩ := h; exact ⟨t, o, k t h1, h2⟩
theorem own_trn {tb : Tables} {e : Env} {below : List Frame} {P : State → Outcome → Prop} {st st' : State} (k : Steps tb e below st st') (h : own_R tb e below P st') : own_R tb e below P st := own_fwd (fun _ q => k.trans q) h
theorem own_nm {tb : Tables} {e : Env} {below : List Frame} {P : State → Outcome → Prop} {st : State} (h : ∀ P' : State → Outcome → Prop, (∀ t o, P t o → P' t o) → own_R tb e below P' st) : own_R tb e below P st := h P fun _ _ q => q
/-- an array, n long, place i holds f i -/
def own_AV (Z : State) (h : Heap) (a : Addr) (ty : FieldType) (n : Nat) (f : Nat → Value) : Prop := ∃ c : Cell, Arr Z h a c ty ∧ c.slots.size = n ∧ n < 2 ^ 31 ∧ ∀ i, i < n → c.slots[i]? = some (f i)
abbrev own_AI (Z : State) (h : Heap) (a : Addr) (ty : FieldType) (n : Nat) (f : Nat → Int32) : Prop := own_AV Z h a ty n fun i => .int (f i)
abbrev own_AJ (Z : State) (h : Heap) (a : Addr) (n : Nat) (f : Nat → Int64) : Prop := own_AV Z h a .long n fun i => .long (f i)
def own_upd {α : Type} (f : Nat → α) (i : Nat) (x : α) : Nat → α := fun k => if k = i then x else f k
theorem own_upd_hit {α : Type} (f : Nat → α) (i : Nat) (x : α) : own_upd f i x i = x := if_pos rfl
theorem own_upd_miss {α : Type} (f : Nat → α) {i k : Nat} (x : α) (q : k ≠ i) : own_upd f i x k = f k := if_neg q
section Own
variable {p : Program} {l : Launch} {e : Env} {R : Room} {s : State} {m : MethodId} {args : Array Value} {below : List Frame} {meth : Method} {c : Code} {T : State} {locs : List Loc} {cells slots : Nat} {Z : State} {a0 : Array Value} {h h' : Heap} {a b : Addr} {ty : FieldType} {n : Nat} {f : Nat → Value} {v : Value} {sl : Nat}
theorem own_AV.lt (F : own_AV Z h a ty n f) : a < h.size := by obtain ⟨c, A, -⟩ := F; exact A.lt
theorem own_AV.bd (F : own_AV Z h a ty n f) : n < 2 ^ 31 := by obtain ⟨c, A, -, q, -⟩ := F; exact q
theorem own_AV.ext (F : own_AV Z h a ty n f) (E : Ext h h') : own_AV Z h' a ty n f := by obtain ⟨c, A, r⟩ := F; exact ⟨c, A.ext E, r⟩
theorem own_AV.other (F : own_AV Z h b ty n f) (W : Wr h h' a sl v) (q : b ≠ a) : own_AV Z h' b ty n f := by obtain ⟨c, A, r⟩ := F; exact ⟨c, A.other W q, r⟩
theorem own_AV.keep {ws : List Addr} (F : own_AV Z h a ty n f) (K : Keep h h' ws) (q : a ∉ ws) : own_AV Z h' a ty n f := by obtain ⟨c, A, r⟩ := F; exact ⟨c, ⟨K.2.1 a c A.1 q, A.2⟩, r⟩
theorem own_AV.cong {f' : Nat → Value} (F : own_AV Z h a ty n f) (q : ∀ i, i < n → f' i = f i) : own_AV Z h a ty n f' := by obtain ⟨c, A, r1, r2, r3⟩ := F; exact ⟨c, A, r1, r2, fun i hi => by rw [q i hi]; exact r3 i hi⟩
theorem own_clamp {j : Int32} {i : Nat} (hj : j.toInt = (i : Int)) : j.toNatClampNeg = i ∧ ¬ j < 0 := by
  have q0 : (0 : Int32).toInt = 0 := rfl
  exact ⟨by unfold Int32.toNatClampNeg; omega, by rw [Int32.lt_iff_toInt_lt]; omega⟩
theorem own_inb {cl : Cell} {j : Int32} {i : Nat} (hj : j.toInt = (i : Int)) (S : cl.slots.size = n) (hi : i < n) : ¬ (j < 0 ∨ cl.slots.size ≤ j.toNatClampNeg) := by
  obtain ⟨q1, q2⟩ := own_clamp hj
  rw [q1]; rintro (q | q)
  · exact q2 q
  · omega
theorem own_AV.new {k : ClassId} {z : Int32} (A : Arr Z h a (newA k ty z) ty) (hz : z.toInt = (n : Int)) : own_AV Z h a ty n (fun _ => defaultValue ty) := by
  obtain ⟨q1, q2⟩ := own_clamp hz
  have hb := z.toInt_lt
  refine ⟨_, A, by rw [sz_new]; exact q1, by omega, fun i hi => ?_⟩
  simp [newA, q1, hi]
theorem own_ldI (X : Stand p l e R s m args below meth c T locs cells slots) (hx : p.tables.exec = Jvm.exec) (hZ : Z.Warmed39 s.vm) (eT : T.heap = h) (F : own_AV Z h a .int n f) {j : Int32} (i : Nat) (hj : j.toInt = (i : Int)) (hi : i < n) {g : JFrame} (hg : g.method = m) {rest : List Value} (hs : g.stack = .int j :: .ref a :: rest) (hd : decode c.code g.pc = .ok (.iaload, 1)) :
    ∀ t, Steps p.tables e below (T.setTop { g with pc := g.pc + 1, stack := f i :: rest }) t → Steps p.tables e below (T.setTop g) t := fun t k => by
  obtain ⟨cl, A, S, -, H⟩ := F
  exact X.iaload hx (by rw [eT]; exact A.1) (State.isArrayOf_alike hZ.alike A.2.1) A.2.2 (own_inb hj S hi) (by rw [(own_clamp hj).1]; exact H i hi) hg hs hd t k
theorem own_ldS (X : Stand p l e R s m args below meth c T locs cells slots) (hx : p.tables.exec = Jvm.exec) (hZ : Z.Warmed39 s.vm) (eT : T.heap = h) (F : own_AV Z h a .short n f) {j : Int32} (i : Nat) (hj : j.toInt = (i : Int)) (hi : i < n) {g : JFrame} (hg : g.method = m) {rest : List Value} (hs : g.stack = .int j :: .ref a :: rest) (hd : decode c.code g.pc = .ok (.saload, 1)) :
    ∀ t, Steps p.tables e below (T.setTop { g with pc := g.pc + 1, stack := f i :: rest }) t → Steps p.tables e below (T.setTop g) t := fun t k => by
  obtain ⟨cl, A, S, -, H⟩ := F
  exact X.saload hx (by rw [eT]; exact A.1) (State.isArrayOf_alike hZ.alike A.2.1) A.2.2 (own_inb hj S hi) (by rw [(own_clamp hj).1]; exact H i hi) hg hs hd t k
theorem own_ldC (X : Stand p l e R s m args below meth c T locs cells slots) (hx : p.tables.exec = Jvm.exec) (hZ : Z.Warmed39 s.vm) (eT : T.heap = h) (F : own_AV Z h a .char n f) {j : Int32} (i : Nat) (hj : j.toInt = (i : Int)) (hi : i < n) {g : JFrame} (hg : g.method = m) {rest : List Value} (hs : g.stack = .int j :: .ref a :: rest) (hd : decode c.code g.pc = .ok (.caload, 1)) :
    ∀ t, Steps p.tables e below (T.setTop { g with pc := g.pc + 1, stack := f i :: rest }) t → Steps p.tables e below (T.setTop g) t := fun t k => by
  obtain ⟨cl, A, S, -, H⟩ := F
  exact X.caload hx (by rw [eT]; exact A.1) (State.isArrayOf_alike hZ.alike A.2.1) A.2.2 (own_inb hj S hi) (by rw [(own_clamp hj).1]; exact H i hi) hg hs hd t k
theorem own_ldJ (X : Stand p l e R s m args below meth c T locs cells slots) (hx : p.tables.exec = Jvm.exec) (hZ : Z.Warmed39 s.vm) (eT : T.heap = h) (F : own_AV Z h a .long n f) {j : Int32} (i : Nat) (hj : j.toInt = (i : Int)) (hi : i < n) {g : JFrame} (hg : g.method = m) {rest : List Value} (hs : g.stack = .int j :: .ref a :: rest) (hd : decode c.code g.pc = .ok (.laload, 1)) :
    ∀ t, Steps p.tables e below (T.setTop { g with pc := g.pc + 1, stack := f i :: rest }) t → Steps p.tables e below (T.setTop g) t := fun t k => by
  obtain ⟨cl, A, S, -, H⟩ := F
  exact X.laload hx (by rw [eT]; exact A.1) (State.isArrayOf_alike hZ.alike A.2.1) A.2.2 (own_inb hj S hi) (by rw [(own_clamp hj).1]; exact H i hi) hg hs hd t k
theorem own_len (X : Stand p l e R s m args below meth c T locs cells slots) (hx : p.tables.exec = Jvm.exec) (hZ : Z.Warmed39 s.vm) (eT : T.heap = h) (F : own_AV Z h a ty n f) (z : Int32) (hz : z.toInt = (n : Int)) {g : JFrame} (hg : g.method = m) {rest : List Value} (hs : g.stack = .ref a :: rest) (hd : decode c.code g.pc = .ok (.arraylength, 1)) :
    ∀ t, Steps p.tables e below (T.setTop { g with pc := g.pc + 1, stack := .int z :: rest }) t → Steps p.tables e below (T.setTop g) t := fun t k => by
  obtain ⟨cl, A, S, q, H⟩ := F
  have e1 : cl.slots.size.toInt32 = z := by
    rw [S]; apply Int32.toInt_inj.mp; rw [hz]; exact len_toInt q
  refine X.arraylength hx (by rw [eT]; exact A.1) (State.isArrayOf_alike hZ.alike A.2.1) hg hs hd t ?_
  rw [e1]; exact k
theorem own_AV.set {h' : Heap} {cl : Cell} {j : Int32} {i : Nat} {w : Value} (A : Arr Z h a cl ty) (S : cl.slots.size = n) (q : n < 2 ^ 31) (H : ∀ i, i < n → cl.slots[i]? = some (f i)) (hj : j.toInt = (i : Int)) (hi : i < n) (W : Wr h h' a j.toNatClampNeg w) : own_AV Z h' a ty n (own_upd f i w) := by
  rw [(own_clamp hj).1] at W
  refine ⟨_, A.same W, by rw [sz_set]; exact S, q, fun k hk => ?_⟩
  by_cases e : k = i
  · subst e; rw [own_upd_hit]; simp [Cell.setSlot, S, hi]
  · rw [own_upd_miss _ _ e]; simp only [Cell.setSlot]; rw [Array.getElem?_setIfInBounds_ne (Ne.symm e)]; exact H k hk
theorem own_stI {g0 : Nat → Int32} (X : Stand p l e R s m args below meth c T locs cells slots) (hx : p.tables.exec = Jvm.exec) (hZ : Z.Warmed39 s.vm) (eT : T.heap = h) (F : own_AI Z h a .int n g0) {j x : Int32} (i : Nat) (hj : j.toInt = (i : Int)) (hi : i < n) {g : JFrame} (hg : g.method = m) {rest : List Value} (hs : g.stack = .int x :: .int j :: .ref a :: rest) (hd : decode c.code g.pc = .ok (.iastore, 1)) :
    ∃ T' h', Stand p l e R s m args below meth c T' (locs ++ [⟨a, j.toNatClampNeg⟩]) cells slots ∧ T'.heap = h' ∧ Wr h h' a j.toNatClampNeg (.int x) ∧ own_AI Z h' a .int n (own_upd g0 i x) ∧ ∀ t, Steps p.tables e below (T'.setTop { g with pc := g.pc + 1, stack := rest }) t → Steps p.tables e below (T.setTop g) t := by
  obtain ⟨cl, A, S, q, H⟩ := F
  obtain ⟨T', h', X', e', W, st⟩ := stI X hx hZ eT A (own_inb hj S hi) hg hs hd
  exact ⟨T', h', X', e', W, (own_AV.set A S q H hj hi W).cong fun k _ => by simp only [own_upd]; split <;> rfl, st⟩
theorem own_stS {g0 : Nat → Int32} (X : Stand p l e R s m args below meth c T locs cells slots) (hx : p.tables.exec = Jvm.exec) (hZ : Z.Warmed39 s.vm) (eT : T.heap = h) (F : own_AI Z h a .short n g0) {j x : Int32} (i : Nat) (hj : j.toInt = (i : Int)) (hi : i < n) {g : JFrame} (hg : g.method = m) {rest : List Value} (hs : g.stack = .int x :: .int j :: .ref a :: rest) (hd : decode c.code g.pc = .ok (.sastore, 1)) :
    ∃ T' h', Stand p l e R s m args below meth c T' (locs ++ [⟨a, j.toNatClampNeg⟩]) cells slots ∧ T'.heap = h' ∧ Wr h h' a j.toNatClampNeg (.int (nar .short x)) ∧ own_AI Z h' a .short n (own_upd g0 i (nar .short x)) ∧ ∀ t, Steps p.tables e below (T'.setTop { g with pc := g.pc + 1, stack := rest }) t → Steps p.tables e below (T.setTop g) t := by
  obtain ⟨cl, A, S, q, H⟩ := F
  obtain ⟨T', h', X', e', W, st⟩ := stS X hx hZ eT A (own_inb hj S hi) hg hs hd
  exact ⟨T', h', X', e', W, (own_AV.set A S q H hj hi W).cong fun k _ => by simp only [own_upd]; split <;> rfl, st⟩
theorem own_stC {g0 : Nat → Int32} (X : Stand p l e R s m args below meth c T locs cells slots) (hx : p.tables.exec = Jvm.exec) (hZ : Z.Warmed39 s.vm) (eT : T.heap = h) (F : own_AI Z h a .char n g0) {j x : Int32} (i : Nat) (hj : j.toInt = (i : Int)) (hi : i < n) {g : JFrame} (hg : g.method = m) {rest : List Value} (hs : g.stack = .int x :: .int j :: .ref a :: rest) (hd : decode c.code g.pc = .ok (.castore, 1)) :
    ∃ T' h', Stand p l e R s m args below meth c T' (locs ++ [⟨a, j.toNatClampNeg⟩]) cells slots ∧ T'.heap = h' ∧ Wr h h' a j.toNatClampNeg (.int (nar .char x)) ∧ own_AI Z h' a .char n (own_upd g0 i (nar .char x)) ∧ ∀ t, Steps p.tables e below (T'.setTop { g with pc := g.pc + 1, stack := rest }) t → Steps p.tables e below (T.setTop g) t := by
  obtain ⟨cl, A, S, q, H⟩ := F
  obtain ⟨T', h', X', e', W, st⟩ := stC X hx hZ eT A (own_inb hj S hi) hg hs hd
  exact ⟨T', h', X', e', W, (own_AV.set A S q H hj hi W).cong fun k _ => by simp only [own_upd]; split <;> rfl, st⟩
theorem own_stJ {g0 : Nat → Int64} (X : Stand p l e R s m args below meth c T locs cells slots) (hx : p.tables.exec = Jvm.exec) (hZ : Z.Warmed39 s.vm) (eT : T.heap = h) (F : own_AJ Z h a n g0) {j : Int32} {x : Int64} (i : Nat) (hj : j.toInt = (i : Int)) (hi : i < n) {g : JFrame} (hg : g.method = m) {rest : List Value} (hs : g.stack = .long x :: .int j :: .ref a :: rest) (hd : decode c.code g.pc = .ok (.lastore, 1)) :
    ∃ T' h', Stand p l e R s m args below meth c T' (locs ++ [⟨a, j.toNatClampNeg⟩]) cells slots ∧ T'.heap = h' ∧ Wr h h' a j.toNatClampNeg (.long x) ∧ own_AJ Z h' a n (own_upd g0 i x) ∧ ∀ t, Steps p.tables e below (T'.setTop { g with pc := g.pc + 1, stack := rest }) t → Steps p.tables e below (T.setTop g) t := by
  obtain ⟨cl, A, S, q, H⟩ := F
  obtain ⟨T', h', X', e', W, st⟩ := stJ X hx hZ eT A (own_inb hj S hi) hg hs hd
  exact ⟨T', h', X', e', W, (own_AV.set A S q H hj hi W).cong fun k _ => by simp only [own_upd]; split <;> rfl, st⟩
theorem own_newA (X : Stand p l e R s m args below meth c T locs cells slots) (hx : p.tables.exec = Jvm.exec) (hZ : Z.Warmed39 s.vm) {aty : ArrayType} (w : (Cond.arrayClass (newarray.typeOf aty)).before a0 Z = true) (eT : T.heap = h) {z : Int32} (hz : z.toInt = (n : Int)) {cap : Nat} (hcap : n ≤ cap) {g : JFrame} (hg : g.method = m) (hd : decode c.code g.pc = .ok (.newarray aty, 2)) {rest : List Value} (hs : g.stack = .int z :: rest)
    (hb : cap * 8 ≤ 536870912) (hc : cells + 1 ≤ R.cells) (hl : slots + cap ≤ R.slots) {ad : String} (had : "[" ++ (newarray.typeOf aty).toString = ad) :
    ∃ T' h' b, b = h.size ∧ Stand p l e R s m args below meth c T' locs (cells + 1) (slots + cap) ∧ T'.heap = h' ∧ Ext h h' ∧ own_AV Z h' b (newarray.typeOf aty) n (fun _ => defaultValue (newarray.typeOf aty)) ∧ Exa Z h' b ad ∧
      ∀ t, Steps p.tables e below (T'.setTop { g with pc := g.pc + 2, stack := .ref b :: rest }) t → Steps p.tables e below (T.setTop g) t := by
  obtain ⟨q1, q2⟩ := own_clamp hz
  obtain ⟨T', h', k, X', e', E, A, Ea, st⟩ := newPE X hx hZ w eT hg hd hs q2 (by rw [q1]; exact hcap) hb hc hl had
  exact ⟨T', h', _, rfl, X', e', E, own_AV.new A hz, Ea, st⟩
end Own
def own_two {α : Type} (x y : α) : Nat → α
  | 0 => x
  | _ => y
theorem own_two_0 {α : Type} (x y : α) : own_two x y 0 = x := rfl
theorem own_two_1 {α : Type} (x y : α) : own_two x y 1 = y := rfl
theorem own_nlt {i n : Nat} (hi : i < n) (hn : n < 2 ^ 31) : i.toInt32 < n.toInt32 := by
  rw [Int32.lt_iff_toInt_lt, len_toInt hn, len_toInt (by omega)]; omega
theorem own_nge {i n : Nat} (hi : n ≤ i) (hn : i < 2 ^ 31) : ¬ i.toInt32 < n.toInt32 := by
  rw [Int32.lt_iff_toInt_lt, len_toInt hn, len_toInt (by omega)]; omega
theorem own_nsucc {i : Nat} (hn : i + 1 < 2 ^ 31) : i.toInt32 + (1 : Int32) = (i + 1).toInt32 := by
  have e1 : (1 : Int32).toInt = 1 := rfl
  have h1 := c_iadd i.toInt32 1
  have h2 := rng32 (i.toInt32 + 1)
  rw [← Int32.toInt_inj, len_toInt hn]
  rw [len_toInt (by omega), e1] at h1
  omega
theorem own_and3 (x : Int32) : (x &&& (3 : Int32)) = 0 ∨ (x &&& (3 : Int32)) = 1 ∨ (x &&& (3 : Int32)) = 2 ∨ (x &&& (3 : Int32)) = 3 := by
  have h := c_mask x 3 2 (by decide) (by decide)
  have e : ((2 ^ 2 : Nat) : Int) = 4 := by decide
  rw [e] at h
  have e0 : (0 : Int32).toInt = 0 := rfl
  have e1 : (1 : Int32).toInt = 1 := rfl
  have e2 : (2 : Int32).toInt = 2 := rfl
  have e3 : (3 : Int32).toInt = 3 := rfl
  simp only [← Int32.toInt_inj]
  omega
theorem own_getD {f : Nat → Value} {n k : Nat} {d : Value} (hk : k < n) : ((List.range n).map f).getD k d = f k := by
  simp [List.getD, hk]
theorem own_AV.arv {Z : State} {h : Heap} {a : Addr} {ty : FieldType} {n : Nat} {f : Nat → Value} (F : own_AV Z h a ty n f) (q : ∀ i, i < n → fits ty (f i) = true) : ∃ k, Arv Z h a k ty n.toInt32 ((List.range n).map f) (defaultValue ty) := by
  obtain ⟨c, A, S, b, H⟩ := F
  obtain ⟨e1, e2⟩ := own_clamp (len_toInt b)
  refine ⟨c.cls, c, A, rfl, by rw [S, e1], e2, fun k hk => ?_, fun k hk => ?_⟩
  · rw [S] at hk; rw [own_getD hk]; exact H k hk
  · rw [S] at hk; rw [own_getD hk]; exact q k hk
theorem own_cp {p : Program} {l : Launch} {e : Env} {R : Room} {s : State} {m : MethodId} {args : Array Value} {below : List Frame} {meth : Method} {c : Code} {T : State} {locs : List Loc} {cells slots : Nat} {Z : State} {a0 : Array Value} {h : Heap} {a b : Addr} {ty : FieldType} {n N : Nat} {f g : Nat → Value}
    (X : Stand p l e R s m args below meth c T locs cells slots) (hx : p.tables.exec = Jvm.exec) (hZ : Z.Warmed39 s.vm) {own : String} {index : Nat} (hown : s.vm.findClass own = some m.cls)
    (w1 : (Cond.methodLink own index Jvm.Stand.acN).before a0 Z = true) (w2 : (Cond.native Jvm.Stand.acN).before a0 Z = true) (w3 : (Cond.static Jvm.Stand.acN).before a0 Z = true) (w4 : (Cond.initialized "java/lang/System").before a0 Z = true) (eT : T.heap = h)
    (A : own_AV Z h a ty n f) (B : own_AV Z h b ty N g) (hp : refKind ty = false) (fa : ∀ i, i < n → fits ty (f i) = true) (fb : ∀ i, i < N → fits ty (g i) = true) {sp dp nn : Int32} (s0 d0 m0 : Nat) (es : sp.toInt = (s0 : Int)) (ed : dp.toInt = (d0 : Int)) (em : nn.toInt = (m0 : Int)) (h4 : s0 + m0 ≤ n) (h5 : d0 + m0 ≤ N)
    {n0 : Nat} (Nf : Fr n0 locs) (ge : n0 ≤ b) {fr : JFrame} (hg : fr.method = m) (hsize : fr.locals.size = c.maxLocals) {rest : List Value} (hs : fr.stack = .int nn :: .int dp :: .ref b :: .int sp :: .ref a :: rest) (hd : decode c.code fr.pc = .ok (.invokestatic index, 3))
    (hf : 1 ≤ R.frames) {W : Nat} (hW : 2 * fr.monitorRoom + (rest.map fun v => v.category).sum ≤ W) (hlo : W + (nativeFrameWords "java/lang/System" "arraycopy" 5 + 11) ≤ R.locals) :
    ∃ T' h' L, Stand p l e R s m args below meth c T' L cells slots ∧ T'.heap = h' ∧ Fr n0 L ∧ Keep h h' [b] ∧ own_AV Z h' b ty N (fun i => if d0 ≤ i ∧ i < d0 + m0 then f (s0 + (i - d0)) else g i) ∧
      ∀ t, Steps p.tables e below (T'.setTop { fr with pc := fr.pc + 3, stack := rest }) t → Steps p.tables e below (T.setTop fr) t := by
  have bA := A.bd
  have bB := B.bd
  obtain ⟨k, VA⟩ := A.arv fa
  obtain ⟨k', VB⟩ := B.arv fb
  obtain ⟨s1, s2⟩ := own_clamp es
  obtain ⟨d1, d2⟩ := own_clamp ed
  obtain ⟨m1, m2⟩ := own_clamp em
  obtain ⟨a1, a2⟩ := own_clamp (len_toInt bA)
  obtain ⟨b1, b2⟩ := own_clamp (len_toInt bB)
  obtain ⟨T', h', L, X', e', N', K, V, st⟩ := cpA X hx hZ hown w1 w2 w3 w4 eT VA VB (Or.inl ⟨rfl, hp⟩) s2 d2 m2 (by rw [s1, m1, a1]; exact h4) (by rw [d1, m1, b1]; exact h5) rfl (by rw [d1, m1]; simpa using h5) Nf ge hg hsize hs hd hf hW hlo
  refine ⟨T', h', L, X', e', N', K, ?_, st⟩
  obtain ⟨cl, Ar, -, S, -, H, -⟩ := V
  refine ⟨cl, Ar, by rw [S, b1], bB, fun i hi => ?_⟩
  rw [H i (by rw [S, b1]; exact hi)]
  congr 1
  rw [d1, m1, s1]
  simp only [List.getD, List.append_assoc]
  by_cases c1 : i < d0
  · rw [if_neg (by omega)]
    rw [List.getElem?_append_left (by simp; omega)]
    simp [List.getElem?_take, c1, hi]
  · rw [List.getElem?_append_right (by simp; omega)]
    simp only [List.length_take, List.length_map, List.length_range]
    rw [Nat.min_eq_left (by omega : d0 ≤ N)]
    by_cases c2 : i < d0 + m0
    · rw [if_pos ⟨by omega, c2⟩]
      rw [List.getElem?_append_left (by simp; omega)]
      have q : i - d0 < m0 := by omega
      have q' : s0 + (i - d0) < n := by omega
      simp [q, List.getD, q']
    · rw [if_neg (by omega)]
      rw [List.getElem?_append_right (by simp; omega)]
      simp only [List.length_map, List.length_range, List.getElem?_drop]
      rw [show d0 + m0 + (i - d0 - m0) = i by omega]
      simp [hi]
theorem own_selPriv {Z s : State} {args a0 : Array Value} {y : MethodName} {n : Nat} (hZ : Z.Warmed39 s.vm) (wi : (Cond.instantiable y.cls n).before a0 Z = true) (wp : (Cond.privateMethod y).before a0 Z = true) (wm : (Cond.instanceMethod y).before a0 Z = true) (hy : y.cls ≠ "java/lang/invoke/MethodHandle" ∧ y.cls ≠ "java/lang/invoke/VarHandle") : (Cond.selects y.cls y y).before args s = true := by
  obtain ⟨c, k, h1, h2, -, h4, -⟩ := Cond.instantiable_spec (mvT hZ wi (args := args))
  exact Jvm.Stand.selects_self_of_private h1 h2 (Bool.or_eq_false_iff.mp h4).1 (Cond.privateMethod_at (mvP hZ wp (args := args))) (mvT hZ wm) hy
theorem own_i0 : (0 : Int32).toInt = 0 := rfl
theorem own_i1 : (1 : Int32).toInt = 1 := rfl
theorem own_i1024 : (1024 : Int32).toInt = 1024 := rfl
theorem own_add {a b : Int32} {i j : Nat} (ha : a.toInt = (i : Int)) (hb : b.toInt = (j : Int)) (h : i + j < 2 ^ 31) : (a + b).toInt = ((i + j : Nat) : Int) := by
  have a1 := c_iadd a b
  have r := rng32 (a + b)
  omega
theorem own_pred {a : Int32} {i : Nat} (ha : a.toInt = (i : Int)) (h : i ≠ 0) : (a - (1 : Int32)).toInt = ((i - 1 : Nat) : Int) := by
  have a1 := c_isub a 1
  have r := rng32 (a - 1); have r' := rng32 a
  rw [own_i1] at a1
  omega
theorem own_sub0 {a : Int32} {i : Nat} (ha : a.toInt = (i : Int)) : (a - (0 : Int32)).toInt = (i : Int) := by
  have a1 := c_isub a 0
  have r := rng32 (a - 0); have r' := rng32 a
  rw [own_i0] at a1
  omega
def own_hash (g : Nat → Int32) (s : Nat) : Nat → Int32
  | 0 => 0
  | n + 1 => (31 : Int32) * own_hash g s n + g (s + n)
theorem own_hash_cong {g f : Nat → Int32} {s s' : Nat} : ∀ {n : Nat}, (∀ j, j < n → g (s + j) = f (s' + j)) → own_hash g s n = own_hash f s' n
  | 0, _ => rfl
  | n + 1, h => by rw [own_hash, own_hash, own_hash_cong (n := n) fun j hj => h j (by omega), h n (by omega)]
theorem own_h1 (f : Nat → Int32) : own_hash f 0 1 = f 0 := by simp [own_hash]
theorem own_h2 (f : Nat → Int32) : own_hash f 0 2 = (31 : Int32) * f 0 + f 1 := by simp [own_hash]
theorem own_h3 (f : Nat → Int32) : own_hash f 0 3 = ((961 : Int32) * f 0 + (31 : Int32) * f 1) + f 2 := by
  have e : (31 : Int32) * 31 = 961 := by decide
  simp [own_hash, Int32.mul_add, ← Int32.mul_assoc, e]
def own_put (f g : Nat → Int32) (s n : Nat) : Nat → Int32 := fun i => if s ≤ i ∧ i < s + n then f (0 + (i - s)) else g i
def own_Fc (f : Nat → Int32) : Prop := ∀ i, fits .char (.int (f i)) = true
theorem own_Fc.put {f g : Nat → Int32} {s n : Nat} (hf : own_Fc f) (hg : own_Fc g) : own_Fc (own_put f g s n) := fun i => by unfold own_put; split; exact hf _; exact hg _
theorem own_Fc.upd {g : Nat → Int32} {i : Nat} {x : Int32} (hg : own_Fc g) : own_Fc (own_upd g i (nar .char x)) := fun k => by unfold own_upd; split; exact fits_nar_char x; exact hg k
theorem own_Fc.zero : own_Fc (fun _ => (0 : Int32)) := fun _ => rfl
theorem own_d1_0 : decode prog_26_method_1_code 0 = .ok (.aload_n 0, 1) := by decide +kernel
theorem own_d1_1 : decode prog_26_method_1_code 1 = .ok (.invokespecial 1, 3) := by decide +kernel
theorem own_d1_4 : decode prog_26_method_1_code 4 = .ok (.aload_n 0, 1) := by decide +kernel
theorem own_d1_5 : decode prog_26_method_1_code 5 = .ok (.sipush 1024, 3) := by decide +kernel
theorem own_d1_8 : decode prog_26_method_1_code 8 = .ok (.newarray .char, 2) := by decide +kernel
theorem own_d1_10 : decode prog_26_method_1_code 10 = .ok (.putfield 7, 3) := by decide +kernel
theorem own_d1_13 : decode prog_26_method_1_code 13 = .ok (.aload_n 0, 1) := by decide +kernel
theorem own_d1_14 : decode prog_26_method_1_code 14 = .ok (.bipush 16, 2) := by decide +kernel
theorem own_d1_16 : decode prog_26_method_1_code 16 = .ok (.newarray .int, 2) := by decide +kernel
theorem own_d1_18 : decode prog_26_method_1_code 18 = .ok (.putfield 13, 3) := by decide +kernel
theorem own_d1_21 : decode prog_26_method_1_code 21 = .ok (.return_, 1) := by decide +kernel
theorem own_pn0 : plainName "com/example/rankbucket/rankbucket/IdList" = true := by first | (simp [plainName, overriddenIn]; done) | decide +kernel
theorem own_ef1 (m : MethodId) (a1 : Addr) : entryFrame m #[(.ref a1)] 1 = mkF m 0 #[.val (.ref a1)] [] := by first | (simp [entryFrame, mkF, argsToLocals, Value.category]; done) | rfl
def own_Q1 (Z : State) (a1 : Addr) (h0 : Heap) (n0 : Nat) (v : Option Value) (h : Heap) (L : List Loc) : Prop := v = none ∧ Fr n0 L ∧ Keep h0 h [a1] ∧ Exa Z h a1 "com/example/rankbucket/rankbucket/IdList" ∧ ∃ cA eA, Fld Z h a1 "com/example/rankbucket/rankbucket/IdList" "chars" "[C" (.ref cA) ∧ Fld Z h a1 "com/example/rankbucket/rankbucket/IdList" "ends" "[I" (.ref eA) ∧ Fld Z h a1 "com/example/rankbucket/rankbucket/IdList" "size" "I" (.int (0 : Int32)) ∧ own_AI Z h cA .char 1024 (fun _ => (0 : Int32)) ∧ own_AI Z h eA .int 16 (fun _ => (0 : Int32)) ∧ h0.size ≤ cA ∧ h0.size ≤ eA ∧ cA ≠ eA
set_option maxRecDepth 65536 in
set_option maxHeartbeats 40000000 in
theorem own_rm1 (l : Launch) (Z : State) (a0 : Array Value) (hw : ∀ d ∈ tables_1, d.before a0 Z = true) (ws : List Jvm.Cond) (a1 : Addr) (h0 : Heap) (n0 : Nat) (Z0 : n0 ≤ h0.size) (pE : Exa Z h0 a1 "com/example/rankbucket/rankbucket/IdList") (pF1 : Fld Z h0 a1 "com/example/rankbucket/rankbucket/IdList" "chars" "[C" .null) (pF2 : Fld Z h0 a1 "com/example/rankbucket/rankbucket/IdList" "ends" "[I" .null) (pF3 : Fld Z h0 a1 "com/example/rankbucket/rankbucket/IdList" "size" "I" (.int (0 : Int32))) (pg : n0 ≤ a1) :
    MetFree l (⟨"com/example/rankbucket/rankbucket/IdList", "<init>", "()V"⟩ : MethodName) (head1 (Jvm.Cond.code (⟨"com/example/rankbucket/rankbucket/IdList", "<init>", "()V"⟩ : MethodName) prog_26_method_1_code 1 none :: ws) ({ frames := 1, cells := 2, slots := 1040, locals := 12 } : Room)) (fun a U => a = #[(.ref a1)] ∧ Z.Warmed39 U.vm ∧ U.heap = h0) (fun _ _ _ _ _ => True) (fun _ U o U' => ∃ v L, o = .returned v ∧ own_Q1 Z a1 h0 n0 v U'.heap L ∧ FrameEnd U o U' L ({ frames := 1, cells := 2, slots := 1040, locals := 12 } : Room).cells ({ frames := 1, cells := 2, slots := 1040, locals := 12 } : Room).slots) := by
  refine MetFree.of_bodySF (plainFor_of_name own_pn0) hisR ?_
  intro p e s m args below meth c s₁ Bd hml0 hP hK
  obtain ⟨rfl, hZ, hh⟩ := hP
  have hx := Bd.exec
  have hby := Bd.bytes
  have hml : c.maxLocals = 1 := hml0
  have hown : s.vm.findClass "com/example/rankbucket/rankbucket/IdList" = some m.cls := findClass_of_methodNamed Bd.named
  have hnm := (name_of_methodNamed Bd.named Bd.method).1
  have X0 : Stand p l e ({ frames := 1, cells := 2, slots := 1040, locals := 12 } : Room) s m #[(.ref a1)] below meth c s₁ [] 0 0 := Stand.of_body Bd
  have e0 : s₁.heap = h0 := by rw [← hh, Bd.state]; rfl
  have N0 := Fr.nil n0
  refine own_nm (st := s₁.setTop (entryFrame m #[(.ref a1)] 1)) fun P fin => ?_
  refine own_fwd (fun tt kt => castTop (own_ef1 m a1) kt) ?_
  show own_R p.tables e below P (s₁.setTop (mkF m 0 #[.val (.ref a1)] []))
  have K0 := Keep.refl h0 [a1]
  refine own_fwd (fun tt kt => XS.aloadN X0.here hx rfl (hb hby own_d1_0) rfl rfl kt) ?_
  show own_R p.tables e below P (s₁.setTop (mkF m 1 #[.val (.ref a1)] [(.ref a1)]))
  obtain ⟨T1, X1, e1, st1⟩ := initO X0 hx hZ hown (hw _ (List.mem_of_getElem? (i := 7) rfl)) (hw _ (List.mem_of_getElem? (i := 8) rfl)) (hw _ (List.mem_of_getElem? (i := 9) rfl)) e0 (g := (mkF m 1 #[.val (.ref a1)] [(.ref a1)])) rfl (by rw [hml]; rfl) rfl (hb hby own_d1_1) (by decide) (W := 0) (by show 2 * 0 + _ ≤ _; exact Nat.le_of_eq rfl) (by decide)
  refine own_fwd st1 ?_
  show own_R p.tables e below P (T1.setTop (mkF m 4 #[.val (.ref a1)] []))
  refine own_fwd (fun tt kt => XS.aloadN X1.here hx rfl (hb hby own_d1_4) rfl rfl kt) ?_
  show own_R p.tables e below P (T1.setTop (mkF m 5 #[.val (.ref a1)] [(.ref a1)]))
  refine own_fwd (fun tt kt => XS.sipush X1.here hx rfl (hb hby own_d1_5) kt) ?_
  show own_R p.tables e below P (T1.setTop (mkF m 8 #[.val (.ref a1)] [(.int (1024 : Int32)), (.ref a1)]))
  obtain ⟨T2, h2, b2, g2, X2, e2, E2, A2, B2, st2⟩ := own_newA (n := 1024) X1 hx hZ (hw _ (List.mem_of_getElem? (i := 0) rfl)) e1 (z := (1024 : Int32)) (by decide) (cap := 1024) (by decide) (g := (mkF m 8 #[.val (.ref a1)] [(.int (1024 : Int32)), (.ref a1)])) rfl (hb hby own_d1_8) rfl (by decide) (by decide) (by decide) (ad := "[C") (by decide)
  have ne2_a1 : a1 ≠ b2 := Nat.ne_of_lt (by rw [g2]; exact pE.lt)
  have ge_b2 : n0 ≤ b2 := by rw [g2]; exact Z0
  have sz_b2 : h0.size ≤ b2 := by rw [g2]; exact (Nat.le_refl h0.size)
  have pE_x2 := pE.ext E2
  have pF1_x2 := pF1.ext E2
  have pF2_x2 := pF2.ext E2
  have pF3_x2 := pF3.ext E2
  have A2_ : own_AI Z h2 b2 .char 1024 (fun _ => (0 : Int32)) := A2
  have Z2 : n0 ≤ h2.size := Nat.le_trans Z0 E2.1
  have K2 := K0.ext E2
  have Y2 : h0.size ≤ h2.size := Nat.le_trans (Nat.le_refl h0.size) E2.1
  refine own_fwd st2 ?_
  show own_R p.tables e below P (T2.setTop (mkF m 10 #[.val (.ref a1)] [(.ref b2), (.ref a1)]))
  obtain ⟨T3, h3, X3, e3, W3, st3⟩ := putF X2 hx hZ hown (host := "") (Or.inl (hw _ (List.mem_of_getElem? (i := 10) rfl))) Via.refl e2 pF1_x2 pE_x2 (Or.inl (hw _ (List.mem_of_getElem? (i := 11) rfl))) (hw _ (List.mem_of_getElem? (i := 2) rfl)) (ty := (.array .char)) (by decide) rfl rfl (g := (mkF m 10 #[.val (.ref a1)] [(.ref b2), (.ref a1)])) rfl rfl (hb hby own_d1_10)
  have F3_ := pF1_x2.same W3
  have pE_x3 := pE_x2.wr W3
  have pF2_x3 := pF2_x2.other W3 (Or.inr (slot_ne (Or.inl (hw _ (List.mem_of_getElem? (i := 14) rfl))) (Or.inl (hw _ (List.mem_of_getElem? (i := 11) rfl))) (by decide) (t := (.array .int)) (t' := (.array .char)) (by decide) (by decide)))
  have pF3_x3 := pF3_x2.other W3 (Or.inr (slot_ne (Or.inl (hw _ (List.mem_of_getElem? (i := 30) rfl))) (Or.inl (hw _ (List.mem_of_getElem? (i := 11) rfl))) (by decide) (t := .int) (t' := (.array .char)) (by decide) (by decide)))
  have A2__x3 := A2_.other W3 (Ne.symm ne2_a1)
  have B2_x3 := B2.wr W3
  have N3 := Fr.snoc X3 N0 pg
  have Z3 : n0 ≤ h3.size := by rw [W3.size]; exact Z2
  have K3 := K2.wr W3 (Or.inl (List.mem_of_getElem? (i := 0) rfl))
  have Y3 : h0.size ≤ h3.size := by rw [W3.size]; exact Y2
  refine own_fwd st3 ?_
  show own_R p.tables e below P (T3.setTop (mkF m 13 #[.val (.ref a1)] []))
  refine own_fwd (fun tt kt => XS.aloadN X3.here hx rfl (hb hby own_d1_13) rfl rfl kt) ?_
  show own_R p.tables e below P (T3.setTop (mkF m 14 #[.val (.ref a1)] [(.ref a1)]))
  refine own_fwd (fun tt kt => XS.bipush X3.here hx rfl (hb hby own_d1_14) kt) ?_
  show own_R p.tables e below P (T3.setTop (mkF m 16 #[.val (.ref a1)] [(.int (16 : Int32)), (.ref a1)]))
  obtain ⟨T4, h4, b4, g4, X4, e4, E4, A4, B4, st4⟩ := own_newA (n := 16) X3 hx hZ (hw _ (List.mem_of_getElem? (i := 12) rfl)) e3 (z := (16 : Int32)) (by decide) (cap := 16) (by decide) (g := (mkF m 16 #[.val (.ref a1)] [(.int (16 : Int32)), (.ref a1)])) rfl (hb hby own_d1_16) rfl (by decide) (by decide) (by decide) (ad := "[I") (by decide)
  have ne4_a1 : a1 ≠ b4 := Nat.ne_of_lt (by rw [g4]; exact pE_x3.lt)
  have ne4_b2 : b2 ≠ b4 := Nat.ne_of_lt (by rw [g4]; exact A2__x3.lt)
  have ge_b4 : n0 ≤ b4 := by rw [g4]; exact Z3
  have sz_b4 : h0.size ≤ b4 := by rw [g4]; exact Y3
  have pE_x4 := pE_x3.ext E4
  have F3__x4 := F3_.ext E4
  have pF2_x4 := pF2_x3.ext E4
  have pF3_x4 := pF3_x3.ext E4
  have A2__x4 := A2__x3.ext E4
  have B2_x4 := B2_x3.ext E4
  have A4_ : own_AI Z h4 b4 .int 16 (fun _ => (0 : Int32)) := A4
  have Z4 : n0 ≤ h4.size := Nat.le_trans Z3 E4.1
  have K4 := K3.ext E4
  have Y4 : h0.size ≤ h4.size := Nat.le_trans Y3 E4.1
  refine own_fwd st4 ?_
  show own_R p.tables e below P (T4.setTop (mkF m 18 #[.val (.ref a1)] [(.ref b4), (.ref a1)]))
  obtain ⟨T5, h5, X5, e5, W5, st5⟩ := putF X4 hx hZ hown (host := "") (Or.inl (hw _ (List.mem_of_getElem? (i := 13) rfl))) Via.refl e4 pF2_x4 pE_x4 (Or.inl (hw _ (List.mem_of_getElem? (i := 14) rfl))) (hw _ (List.mem_of_getElem? (i := 2) rfl)) (ty := (.array .int)) (by decide) rfl rfl (g := (mkF m 18 #[.val (.ref a1)] [(.ref b4), (.ref a1)])) rfl rfl (hb hby own_d1_18)
  have F5_ := pF2_x4.same W5
  have pE_x5 := pE_x4.wr W5
  have F3__x5 := F3__x4.other W5 (Or.inr (slot_ne (Or.inl (hw _ (List.mem_of_getElem? (i := 11) rfl))) (Or.inl (hw _ (List.mem_of_getElem? (i := 14) rfl))) (by decide) (t := (.array .char)) (t' := (.array .int)) (by decide) (by decide)))
  have pF3_x5 := pF3_x4.other W5 (Or.inr (slot_ne (Or.inl (hw _ (List.mem_of_getElem? (i := 30) rfl))) (Or.inl (hw _ (List.mem_of_getElem? (i := 14) rfl))) (by decide) (t := .int) (t' := (.array .int)) (by decide) (by decide)))
  have A2__x5 := A2__x4.other W5 (Ne.symm ne2_a1)
  have B2_x5 := B2_x4.wr W5
  have A4__x5 := A4_.other W5 (Ne.symm ne4_a1)
  have B4_x5 := B4.wr W5
  have N5 := Fr.snoc X5 N3 pg
  have Z5 : n0 ≤ h5.size := by rw [W5.size]; exact Z4
  have K5 := K4.wr W5 (Or.inl (List.mem_of_getElem? (i := 0) rfl))
  have Y5 : h0.size ≤ h5.size := by rw [W5.size]; exact Y4
  refine own_fwd st5 ?_
  show own_R p.tables e below P (T5.setTop (mkF m 21 #[.val (.ref a1)] []))
  obtain ⟨fs6, hr6, hrun6, hended6, hW6, hsame6⟩ := X5.leave (v := none) (fun _ => rfl)
  refine ⟨_, _, X5.returnOut hx Bd.returns (hb hby own_d1_21) hr6, fin _ _ ⟨hrun6, hended6, _, _, rfl, ?_, ⟨_, rfl⟩, hW6, hsame6.mono (by decide) (by decide)⟩⟩
  show own_Q1 Z a1 h0 n0 _ T5.heap _
  rw [e5]
  exact ⟨rfl, N5, K5, pE_x5, b2, b4, F3__x5, F5_, pF3_x5, A2__x5, A4__x5, sz_b2, sz_b4, ne4_b2⟩
theorem own_d5_0 : decode prog_26_method_6_code 0 = .ok (.aload_n 0, 1) := by decide +kernel
theorem own_d5_1 : decode prog_26_method_6_code 1 = .ok (.getfield 17, 3) := by decide +kernel
theorem own_d5_4 : decode prog_26_method_6_code 4 = .ok (.ifCond .ne 7, 3) := by decide +kernel
theorem own_d5_7 : decode prog_26_method_6_code 7 = .ok (.iconst 0, 1) := by decide +kernel
theorem own_d5_8 : decode prog_26_method_6_code 8 = .ok (.goto 14, 3) := by decide +kernel
theorem own_d5_11 : decode prog_26_method_6_code 11 = .ok (.aload_n 0, 1) := by decide +kernel
theorem own_d5_12 : decode prog_26_method_6_code 12 = .ok (.getfield 13, 3) := by decide +kernel
theorem own_d5_15 : decode prog_26_method_6_code 15 = .ok (.aload_n 0, 1) := by decide +kernel
theorem own_d5_16 : decode prog_26_method_6_code 16 = .ok (.getfield 17, 3) := by decide +kernel
theorem own_d5_19 : decode prog_26_method_6_code 19 = .ok (.iconst 1, 1) := by decide +kernel
theorem own_d5_20 : decode prog_26_method_6_code 20 = .ok (.isub, 1) := by decide +kernel
theorem own_d5_21 : decode prog_26_method_6_code 21 = .ok (.iaload, 1) := by decide +kernel
theorem own_d5_22 : decode prog_26_method_6_code 22 = .ok (.istore_n 2, 1) := by decide +kernel
theorem own_d5_23 : decode prog_26_method_6_code 23 = .ok (.aload_n 0, 1) := by decide +kernel
theorem own_d5_24 : decode prog_26_method_6_code 24 = .ok (.getfield 7, 3) := by decide +kernel
theorem own_d5_27 : decode prog_26_method_6_code 27 = .ok (.arraylength, 1) := by decide +kernel
theorem own_d5_28 : decode prog_26_method_6_code 28 = .ok (.iload_n 2, 1) := by decide +kernel
theorem own_d5_29 : decode prog_26_method_6_code 29 = .ok (.isub, 1) := by decide +kernel
theorem own_d5_30 : decode prog_26_method_6_code 30 = .ok (.iload_n 1, 1) := by decide +kernel
theorem own_d5_31 : decode prog_26_method_6_code 31 = .ok (.if_icmp .lt 15, 3) := by decide +kernel
theorem own_d5_34 : decode prog_26_method_6_code 34 = .ok (.aload_n 0, 1) := by decide +kernel
theorem own_d5_35 : decode prog_26_method_6_code 35 = .ok (.getfield 17, 3) := by decide +kernel
theorem own_d5_38 : decode prog_26_method_6_code 38 = .ok (.aload_n 0, 1) := by decide +kernel
theorem own_d5_39 : decode prog_26_method_6_code 39 = .ok (.getfield 13, 3) := by decide +kernel
theorem own_d5_42 : decode prog_26_method_6_code 42 = .ok (.arraylength, 1) := by decide +kernel
theorem own_d5_43 : decode prog_26_method_6_code 43 = .ok (.if_icmp .ne 10, 3) := by decide +kernel
theorem own_d5_46 : decode prog_26_method_6_code 46 = .ok (.aload_n 0, 1) := by decide +kernel
theorem own_d5_47 : decode prog_26_method_6_code 47 = .ok (.iload_n 2, 1) := by decide +kernel
theorem own_d5_48 : decode prog_26_method_6_code 48 = .ok (.iload_n 1, 1) := by decide +kernel
theorem own_d5_49 : decode prog_26_method_6_code 49 = .ok (.iadd, 1) := by decide +kernel
theorem own_d5_50 : decode prog_26_method_6_code 50 = .ok (.invokevirtual 45, 3) := by decide +kernel
theorem own_d5_53 : decode prog_26_method_6_code 53 = .ok (.aload_n 0, 1) := by decide +kernel
theorem own_d5_54 : decode prog_26_method_6_code 54 = .ok (.getfield 13, 3) := by decide +kernel
theorem own_d5_57 : decode prog_26_method_6_code 57 = .ok (.aload_n 0, 1) := by decide +kernel
theorem own_d5_58 : decode prog_26_method_6_code 58 = .ok (.dup, 1) := by decide +kernel
theorem own_d5_59 : decode prog_26_method_6_code 59 = .ok (.getfield 17, 3) := by decide +kernel
theorem own_d5_62 : decode prog_26_method_6_code 62 = .ok (.dup_x1, 1) := by decide +kernel
theorem own_d5_63 : decode prog_26_method_6_code 63 = .ok (.iconst 1, 1) := by decide +kernel
theorem own_d5_64 : decode prog_26_method_6_code 64 = .ok (.iadd, 1) := by decide +kernel
theorem own_d5_65 : decode prog_26_method_6_code 65 = .ok (.putfield 17, 3) := by decide +kernel
theorem own_d5_68 : decode prog_26_method_6_code 68 = .ok (.iload_n 2, 1) := by decide +kernel
theorem own_d5_69 : decode prog_26_method_6_code 69 = .ok (.iload_n 1, 1) := by decide +kernel
theorem own_d5_70 : decode prog_26_method_6_code 70 = .ok (.iadd, 1) := by decide +kernel
theorem own_d5_71 : decode prog_26_method_6_code 71 = .ok (.iastore, 1) := by decide +kernel
theorem own_d5_72 : decode prog_26_method_6_code 72 = .ok (.iload_n 2, 1) := by decide +kernel
theorem own_d5_73 : decode prog_26_method_6_code 73 = .ok (.ireturn, 1) := by decide +kernel
theorem own_ef5 (m : MethodId) (a1 : Addr) (p1 : Int32) : entryFrame m #[(.ref a1), (.int p1)] 3 = mkF m 0 #[.val (.ref a1), .val (.int p1), .unset] [] := by first | (simp [entryFrame, mkF, argsToLocals, Value.category]; done) | rfl
def own_Q5 (Z : State) (a1 cA eA : Addr) (z p1 : Int32) (g fe : Nat → Int32) (k n s0 : Nat) (h0 : Heap) (n0 : Nat) (v : Option Value) (h : Heap) (L : List Loc) : Prop := ∃ st : Int32, v = some (.int st) ∧ st.toInt = (s0 : Int) ∧ Fr n0 L ∧ Keep h0 h [a1, eA] ∧ Exa Z h a1 "com/example/rankbucket/rankbucket/IdList" ∧ Fld Z h a1 "com/example/rankbucket/rankbucket/IdList" "chars" "[C" (.ref cA) ∧ Fld Z h a1 "com/example/rankbucket/rankbucket/IdList" "ends" "[I" (.ref eA) ∧ Fld Z h a1 "com/example/rankbucket/rankbucket/IdList" "size" "I" (.int (z + (1 : Int32))) ∧ own_AI Z h eA .int 16 (own_upd fe k (st + p1))
set_option maxRecDepth 65536 in
set_option maxHeartbeats 40000000 in
theorem own_rm5 (l : Launch) (Z : State) (a0 : Array Value) (hw : ∀ d ∈ tables_1, d.before a0 Z = true) (ws : List Jvm.Cond) (a1 cA eA : Addr) (z p1 : Int32) (g fe : Nat → Int32) (k n s0 : Nat) (h0 : Heap) (n0 : Nat) (Z0 : n0 ≤ h0.size) (pE : Exa Z h0 a1 "com/example/rankbucket/rankbucket/IdList") (pF1 : Fld Z h0 a1 "com/example/rankbucket/rankbucket/IdList" "chars" "[C" (.ref cA)) (pF2 : Fld Z h0 a1 "com/example/rankbucket/rankbucket/IdList" "ends" "[I" (.ref eA)) (pF3 : Fld Z h0 a1 "com/example/rankbucket/rankbucket/IdList" "size" "I" (.int z)) (pC : own_AI Z h0 cA .char 1024 g) (pN : own_AI Z h0 eA .int 16 fe) (pg : n0 ≤ a1) (pgc : n0 ≤ cA) (pge : n0 ≤ eA) (n1 : a1 ≠ cA) (n2 : a1 ≠ eA) (n3 : cA ≠ eA) (hz : z.toInt = (k : Int)) (bk : k < 15) (hp : p1.toInt = (n : Int)) (bn : n ≤ 3) (bs : s0 + n ≤ 1000) (st0 : k = 0 → s0 = 0) (st1 : k ≠ 0 → (fe (k - 1)).toInt = (s0 : Int)) :
    MetFree l (⟨"com/example/rankbucket/rankbucket/IdList", "room", "(I)I"⟩ : MethodName) (head1 (Jvm.Cond.code (⟨"com/example/rankbucket/rankbucket/IdList", "room", "(I)I"⟩ : MethodName) prog_26_method_6_code 3 (some .int) :: ws) ({ frames := 0, cells := 0, slots := 0, locals := 0 } : Room)) (fun a U => a = #[(.ref a1), (.int p1)] ∧ Z.Warmed39 U.vm ∧ U.heap = h0) (fun _ _ _ _ _ => True) (fun _ U o U' => ∃ v L, o = .returned v ∧ own_Q5 Z a1 cA eA z p1 g fe k n s0 h0 n0 v U'.heap L ∧ FrameEnd U o U' L ({ frames := 0, cells := 0, slots := 0, locals := 0 } : Room).cells ({ frames := 0, cells := 0, slots := 0, locals := 0 } : Room).slots) := by
  refine MetFree.of_bodySF (plainFor_of_name own_pn0) hisR ?_
  intro p e s m args below meth c s₁ Bd hml0 hP hK
  obtain ⟨rfl, hZ, hh⟩ := hP
  have hx := Bd.exec
  have hby := Bd.bytes
  have hml : c.maxLocals = 3 := hml0
  have hown : s.vm.findClass "com/example/rankbucket/rankbucket/IdList" = some m.cls := findClass_of_methodNamed Bd.named
  have hnm := (name_of_methodNamed Bd.named Bd.method).1
  have X0 : Stand p l e ({ frames := 0, cells := 0, slots := 0, locals := 0 } : Room) s m #[(.ref a1), (.int p1)] below meth c s₁ [] 0 0 := Stand.of_body Bd
  have e0 : s₁.heap = h0 := by rw [← hh, Bd.state]; rfl
  have N0 := Fr.nil n0
  refine own_nm (st := s₁.setTop (entryFrame m #[(.ref a1), (.int p1)] 3)) fun P fin => ?_
  refine own_fwd (fun tt kt => castTop (own_ef5 m a1 p1) kt) ?_
  show own_R p.tables e below P (s₁.setTop (mkF m 0 #[.val (.ref a1), .val (.int p1), .unset] []))
  have K0 := Keep.refl h0 [a1, eA]
  refine own_fwd (fun tt kt => XS.aloadN X0.here hx rfl (hb hby own_d5_0) rfl rfl kt) ?_
  show own_R p.tables e below P (s₁.setTop (mkF m 1 #[.val (.ref a1), .val (.int p1), .unset] [(.ref a1)]))
  obtain ⟨T7, X7, e7, st7⟩ := getF X0 hx hZ hown (host := "") (Or.inl (hw _ (List.mem_of_getElem? (i := 29) rfl))) Via.refl e0 pF3 (g := (mkF m 1 #[.val (.ref a1), .val (.int p1), .unset] [(.ref a1)])) rfl rfl (hb hby own_d5_1)
  refine own_fwd st7 ?_
  show own_R p.tables e below P (T7.setTop (mkF m 4 #[.val (.ref a1), .val (.int p1), .unset] [(.int z)]))
  by_cases hc8 : z = (0 : Int32)
  · refine own_fwd (fun tt kt => XS.ifNo X7.here hx rfl (hb hby own_d5_4) rfl ((if0 _ _).trans (teq hc8).2) kt) ?_
    show own_R p.tables e below P (T7.setTop (mkF m 7 #[.val (.ref a1), .val (.int p1), .unset] []))
    have kz : k = 0 := by have q := hc8; rw [q, own_i0] at hz; omega
    have hst : (0 : Int32).toInt = (s0 : Int) := by rw [st0 kz]; rfl
    refine own_fwd (fun tt kt => XS.iconst X7.here hx rfl (hb hby own_d5_7) kt) ?_
    show own_R p.tables e below P (T7.setTop (mkF m 8 #[.val (.ref a1), .val (.int p1), .unset] [(.int (0 : Int32))]))
    refine own_fwd (fun tt kt => XS.goto X7.here hx rfl (pc0 := 8) (pc' := 22) rfl (hb hby own_d5_8) (by decide) (by decide) kt) ?_
    show own_R p.tables e below P (T7.setTop (mkF m 22 #[.val (.ref a1), .val (.int p1), .unset] [(.int (0 : Int32))]))
    refine own_fwd (fun tt kt => XS.istoreN X7.here hx rfl (hb hby own_d5_22) rfl (l' := #[.val (.ref a1), .val (.int p1), .val (.int (0 : Int32))]) rfl kt) ?_
    show own_R p.tables e below P (T7.setTop (mkF m 23 #[.val (.ref a1), .val (.int p1), .val (.int (0 : Int32))] []))
    refine own_fwd (fun tt kt => XS.aloadN X7.here hx rfl (hb hby own_d5_23) rfl rfl kt) ?_
    show own_R p.tables e below P (T7.setTop (mkF m 24 #[.val (.ref a1), .val (.int p1), .val (.int (0 : Int32))] [(.ref a1)]))
    obtain ⟨T9, X9, e9, st9⟩ := getF X7 hx hZ hown (host := "") (Or.inl (hw _ (List.mem_of_getElem? (i := 10) rfl))) Via.refl e7 pF1 (g := (mkF m 24 #[.val (.ref a1), .val (.int p1), .val (.int (0 : Int32))] [(.ref a1)])) rfl rfl (hb hby own_d5_24)
    refine own_fwd st9 ?_
    show own_R p.tables e below P (T9.setTop (mkF m 27 #[.val (.ref a1), .val (.int p1), .val (.int (0 : Int32))] [(.ref cA)]))
    refine own_fwd (own_len X9 hx hZ e9 pC (1024 : Int32) (by decide) (g := (mkF m 27 #[.val (.ref a1), .val (.int p1), .val (.int (0 : Int32))] [(.ref cA)])) rfl rfl (hb hby own_d5_27)) ?_
    show own_R p.tables e below P (T9.setTop (mkF m 28 #[.val (.ref a1), .val (.int p1), .val (.int (0 : Int32))] [(.int (1024 : Int32))]))
    refine own_fwd (fun tt kt => XS.iloadN X9.here hx rfl (hb hby own_d5_28) rfl kt) ?_
    show own_R p.tables e below P (T9.setTop (mkF m 29 #[.val (.ref a1), .val (.int p1), .val (.int (0 : Int32))] [(.int (0 : Int32)), (.int (1024 : Int32))]))
    refine own_fwd (fun tt kt => XS.isub X9.here hx rfl (hb hby own_d5_29) rfl kt) ?_
    show own_R p.tables e below P (T9.setTop (mkF m 30 #[.val (.ref a1), .val (.int p1), .val (.int (0 : Int32))] [(.int ((1024 : Int32) - (0 : Int32)))]))
    have hv10 : ((1024 : Int32) - (0 : Int32)) = (1024 : Int32) := by decide
    rw [hv10]
    show own_R p.tables e below P (T9.setTop (mkF m 30 #[.val (.ref a1), .val (.int p1), .val (.int (0 : Int32))] [(.int (1024 : Int32))]))
    refine own_fwd (fun tt kt => XS.iloadN X9.here hx rfl (hb hby own_d5_30) rfl kt) ?_
    show own_R p.tables e below P (T9.setTop (mkF m 31 #[.val (.ref a1), .val (.int p1), .val (.int (0 : Int32))] [(.int p1), (.int (1024 : Int32))]))
    have hc11 : ¬ ((1024 : Int32) < p1) := by have q := c_isub 1024 (0 : Int32); have q' := rng32 ((1024 : Int32) - (0 : Int32)); have q1 := own_i1024; rw [Int32.lt_iff_toInt_lt]; omega
    refine own_fwd (fun tt kt => XS.icmpNo X9.here hx rfl (hb hby own_d5_31) rfl (flt hc11).1 kt) ?_
    show own_R p.tables e below P (T9.setTop (mkF m 34 #[.val (.ref a1), .val (.int p1), .val (.int (0 : Int32))] []))
    refine own_fwd (fun tt kt => XS.aloadN X9.here hx rfl (hb hby own_d5_34) rfl rfl kt) ?_
    show own_R p.tables e below P (T9.setTop (mkF m 35 #[.val (.ref a1), .val (.int p1), .val (.int (0 : Int32))] [(.ref a1)]))
    obtain ⟨T12, X12, e12, st12⟩ := getF X9 hx hZ hown (host := "") (Or.inl (hw _ (List.mem_of_getElem? (i := 29) rfl))) Via.refl e9 pF3 (g := (mkF m 35 #[.val (.ref a1), .val (.int p1), .val (.int (0 : Int32))] [(.ref a1)])) rfl rfl (hb hby own_d5_35)
    refine own_fwd st12 ?_
    show own_R p.tables e below P (T12.setTop (mkF m 38 #[.val (.ref a1), .val (.int p1), .val (.int (0 : Int32))] [(.int z)]))
    refine own_fwd (fun tt kt => XS.aloadN X12.here hx rfl (hb hby own_d5_38) rfl rfl kt) ?_
    show own_R p.tables e below P (T12.setTop (mkF m 39 #[.val (.ref a1), .val (.int p1), .val (.int (0 : Int32))] [(.ref a1), (.int z)]))
    obtain ⟨T13, X13, e13, st13⟩ := getF X12 hx hZ hown (host := "") (Or.inl (hw _ (List.mem_of_getElem? (i := 13) rfl))) Via.refl e12 pF2 (g := (mkF m 39 #[.val (.ref a1), .val (.int p1), .val (.int (0 : Int32))] [(.ref a1), (.int z)])) rfl rfl (hb hby own_d5_39)
    refine own_fwd st13 ?_
    show own_R p.tables e below P (T13.setTop (mkF m 42 #[.val (.ref a1), .val (.int p1), .val (.int (0 : Int32))] [(.ref eA), (.int z)]))
    refine own_fwd (own_len X13 hx hZ e13 pN (16 : Int32) (by decide) (g := (mkF m 42 #[.val (.ref a1), .val (.int p1), .val (.int (0 : Int32))] [(.ref eA), (.int z)])) rfl rfl (hb hby own_d5_42)) ?_
    show own_R p.tables e below P (T13.setTop (mkF m 43 #[.val (.ref a1), .val (.int p1), .val (.int (0 : Int32))] [(.int (16 : Int32)), (.int z)]))
    have hc14 : ¬ (z = (16 : Int32)) := fun q => by rw [q] at hz; have q' : (16 : Int32).toInt = 16 := rfl; omega
    refine own_fwd (fun tt kt => XS.icmpYes X13.here hx rfl (pc0 := 43) (pc' := 53) rfl (hb hby own_d5_43) rfl (feq hc14).2 (by decide) (by decide) kt) ?_
    show own_R p.tables e below P (T13.setTop (mkF m 53 #[.val (.ref a1), .val (.int p1), .val (.int (0 : Int32))] []))
    refine own_fwd (fun tt kt => XS.aloadN X13.here hx rfl (hb hby own_d5_53) rfl rfl kt) ?_
    show own_R p.tables e below P (T13.setTop (mkF m 54 #[.val (.ref a1), .val (.int p1), .val (.int (0 : Int32))] [(.ref a1)]))
    obtain ⟨T15, X15, e15, st15⟩ := getF X13 hx hZ hown (host := "") (Or.inl (hw _ (List.mem_of_getElem? (i := 13) rfl))) Via.refl e13 pF2 (g := (mkF m 54 #[.val (.ref a1), .val (.int p1), .val (.int (0 : Int32))] [(.ref a1)])) rfl rfl (hb hby own_d5_54)
    refine own_fwd st15 ?_
    show own_R p.tables e below P (T15.setTop (mkF m 57 #[.val (.ref a1), .val (.int p1), .val (.int (0 : Int32))] [(.ref eA)]))
    refine own_fwd (fun tt kt => XS.aloadN X15.here hx rfl (hb hby own_d5_57) rfl rfl kt) ?_
    show own_R p.tables e below P (T15.setTop (mkF m 58 #[.val (.ref a1), .val (.int p1), .val (.int (0 : Int32))] [(.ref a1), (.ref eA)]))
    refine own_fwd (fun tt kt => XS.dup X15.here hx rfl (hb hby own_d5_58) rfl rfl kt) ?_
    show own_R p.tables e below P (T15.setTop (mkF m 59 #[.val (.ref a1), .val (.int p1), .val (.int (0 : Int32))] [(.ref a1), (.ref a1), (.ref eA)]))
    obtain ⟨T16, X16, e16, st16⟩ := getF X15 hx hZ hown (host := "") (Or.inl (hw _ (List.mem_of_getElem? (i := 29) rfl))) Via.refl e15 pF3 (g := (mkF m 59 #[.val (.ref a1), .val (.int p1), .val (.int (0 : Int32))] [(.ref a1), (.ref a1), (.ref eA)])) rfl rfl (hb hby own_d5_59)
    refine own_fwd st16 ?_
    show own_R p.tables e below P (T16.setTop (mkF m 62 #[.val (.ref a1), .val (.int p1), .val (.int (0 : Int32))] [(.int z), (.ref a1), (.ref eA)]))
    refine own_fwd (fun tt kt => XS.dupX1 X16.here hx rfl (hb hby own_d5_62) rfl rfl rfl kt) ?_
    show own_R p.tables e below P (T16.setTop (mkF m 63 #[.val (.ref a1), .val (.int p1), .val (.int (0 : Int32))] [(.int z), (.ref a1), (.int z), (.ref eA)]))
    refine own_fwd (fun tt kt => XS.iconst X16.here hx rfl (hb hby own_d5_63) kt) ?_
    show own_R p.tables e below P (T16.setTop (mkF m 64 #[.val (.ref a1), .val (.int p1), .val (.int (0 : Int32))] [(.int (1 : Int32)), (.int z), (.ref a1), (.int z), (.ref eA)]))
    refine own_fwd (fun tt kt => XS.iadd X16.here hx rfl (hb hby own_d5_64) rfl kt) ?_
    show own_R p.tables e below P (T16.setTop (mkF m 65 #[.val (.ref a1), .val (.int p1), .val (.int (0 : Int32))] [(.int (z + (1 : Int32))), (.ref a1), (.int z), (.ref eA)]))
    obtain ⟨T17, h17, X17, e17, W17, st17⟩ := putF X16 hx hZ hown (host := "") (Or.inl (hw _ (List.mem_of_getElem? (i := 29) rfl))) Via.refl e16 pF3 pE (Or.inl (hw _ (List.mem_of_getElem? (i := 30) rfl))) (hw _ (List.mem_of_getElem? (i := 2) rfl)) (ty := .int) (by decide) rfl rfl (g := (mkF m 65 #[.val (.ref a1), .val (.int p1), .val (.int (0 : Int32))] [(.int (z + (1 : Int32))), (.ref a1), (.int z), (.ref eA)])) rfl rfl (hb hby own_d5_65)
    have F17_ := pF3.same W17
    have pE_x17 := pE.wr W17
    have pF1_x17 := pF1.other W17 (Or.inr (slot_ne (Or.inl (hw _ (List.mem_of_getElem? (i := 11) rfl))) (Or.inl (hw _ (List.mem_of_getElem? (i := 30) rfl))) (by decide) (t := (.array .char)) (t' := .int) (by decide) (by decide)))
    have pF2_x17 := pF2.other W17 (Or.inr (slot_ne (Or.inl (hw _ (List.mem_of_getElem? (i := 14) rfl))) (Or.inl (hw _ (List.mem_of_getElem? (i := 30) rfl))) (by decide) (t := (.array .int)) (t' := .int) (by decide) (by decide)))
    have pC_x17 := pC.other W17 (Ne.symm n1)
    have pN_x17 := pN.other W17 (Ne.symm n2)
    have N17 := Fr.snoc X17 N0 pg
    have Z17 : n0 ≤ h17.size := by rw [W17.size]; exact Z0
    have K17 := K0.wr W17 (Or.inl (List.mem_of_getElem? (i := 0) rfl))
    have Y17 : h0.size ≤ h17.size := by rw [W17.size]; exact (Nat.le_refl h0.size)
    refine own_fwd st17 ?_
    show own_R p.tables e below P (T17.setTop (mkF m 68 #[.val (.ref a1), .val (.int p1), .val (.int (0 : Int32))] [(.int z), (.ref eA)]))
    refine own_fwd (fun tt kt => XS.iloadN X17.here hx rfl (hb hby own_d5_68) rfl kt) ?_
    show own_R p.tables e below P (T17.setTop (mkF m 69 #[.val (.ref a1), .val (.int p1), .val (.int (0 : Int32))] [(.int (0 : Int32)), (.int z), (.ref eA)]))
    refine own_fwd (fun tt kt => XS.iloadN X17.here hx rfl (hb hby own_d5_69) rfl kt) ?_
    show own_R p.tables e below P (T17.setTop (mkF m 70 #[.val (.ref a1), .val (.int p1), .val (.int (0 : Int32))] [(.int p1), (.int (0 : Int32)), (.int z), (.ref eA)]))
    refine own_fwd (fun tt kt => XS.iadd X17.here hx rfl (hb hby own_d5_70) rfl kt) ?_
    show own_R p.tables e below P (T17.setTop (mkF m 71 #[.val (.ref a1), .val (.int p1), .val (.int (0 : Int32))] [(.int ((0 : Int32) + p1)), (.int z), (.ref eA)]))
    obtain ⟨T18, h18, X18, e18, W18, A18_, st18⟩ := own_stI X17 hx hZ e17 pN_x17 (j := z) k hz (by omega) (g := (mkF m 71 #[.val (.ref a1), .val (.int p1), .val (.int (0 : Int32))] [(.int ((0 : Int32) + p1)), (.int z), (.ref eA)])) rfl rfl (hb hby own_d5_71)
    have pE_x18 := pE_x17.wr W18
    have pF1_x18 := pF1_x17.other W18 (Or.inl n2)
    have pF2_x18 := pF2_x17.other W18 (Or.inl n2)
    have F17__x18 := F17_.other W18 (Or.inl n2)
    have pC_x18 := pC_x17.other W18 n3
    have N18 := Fr.snoc X18 N17 pge
    have Z18 : n0 ≤ h18.size := by rw [W18.size]; exact Z17
    have K18 := K17.wr W18 (Or.inl (List.mem_of_getElem? (i := 1) rfl))
    have Y18 : h0.size ≤ h18.size := by rw [W18.size]; exact Y17
    refine own_fwd st18 ?_
    show own_R p.tables e below P (T18.setTop (mkF m 72 #[.val (.ref a1), .val (.int p1), .val (.int (0 : Int32))] []))
    refine own_fwd (fun tt kt => XS.iloadN X18.here hx rfl (hb hby own_d5_72) rfl kt) ?_
    show own_R p.tables e below P (T18.setTop (mkF m 73 #[.val (.ref a1), .val (.int p1), .val (.int (0 : Int32))] [(.int (0 : Int32))]))
    obtain ⟨fs19, hr19, hrun19, hended19, hW19, hsame19⟩ := X18.leave (v := some (.int (0 : Int32))) (fun h => by rw [Bd.returns] at h; cases h)
    refine ⟨_, _, X18.ireturnOut hx (w := (0 : Int32)) Bd.returns rfl (by simp) (hb hby own_d5_73) hr19, fin _ _ ⟨hrun19, hended19, _, _, rfl, ?_, ⟨_, rfl⟩, hW19, hsame19.mono (by decide) (by decide)⟩⟩
    show own_Q5 Z a1 cA eA z p1 g fe k n s0 h0 n0 _ T18.heap _
    rw [e18]
    exact ⟨(0 : Int32), rfl, hst, N18, K18, pE_x18, pF1_x18, pF2_x18, F17__x18, A18_⟩
  · refine own_fwd (fun tt kt => XS.ifYes X7.here hx rfl (pc0 := 4) (pc' := 11) rfl (hb hby own_d5_4) rfl ((if0 _ _).trans (feq hc8).2) (by decide) (by decide) kt) ?_
    show own_R p.tables e below P (T7.setTop (mkF m 11 #[.val (.ref a1), .val (.int p1), .unset] []))
    have kz : k ≠ 0 := fun q => hc8 (by rw [← Int32.toInt_inj, hz, own_i0, q]; rfl)
    have hst : (fe (k - 1)).toInt = (s0 : Int) := st1 kz
    refine own_fwd (fun tt kt => XS.aloadN X7.here hx rfl (hb hby own_d5_11) rfl rfl kt) ?_
    show own_R p.tables e below P (T7.setTop (mkF m 12 #[.val (.ref a1), .val (.int p1), .unset] [(.ref a1)]))
    obtain ⟨T20, X20, e20, st20⟩ := getF X7 hx hZ hown (host := "") (Or.inl (hw _ (List.mem_of_getElem? (i := 13) rfl))) Via.refl e7 pF2 (g := (mkF m 12 #[.val (.ref a1), .val (.int p1), .unset] [(.ref a1)])) rfl rfl (hb hby own_d5_12)
    refine own_fwd st20 ?_
    show own_R p.tables e below P (T20.setTop (mkF m 15 #[.val (.ref a1), .val (.int p1), .unset] [(.ref eA)]))
    refine own_fwd (fun tt kt => XS.aloadN X20.here hx rfl (hb hby own_d5_15) rfl rfl kt) ?_
    show own_R p.tables e below P (T20.setTop (mkF m 16 #[.val (.ref a1), .val (.int p1), .unset] [(.ref a1), (.ref eA)]))
    obtain ⟨T21, X21, e21, st21⟩ := getF X20 hx hZ hown (host := "") (Or.inl (hw _ (List.mem_of_getElem? (i := 29) rfl))) Via.refl e20 pF3 (g := (mkF m 16 #[.val (.ref a1), .val (.int p1), .unset] [(.ref a1), (.ref eA)])) rfl rfl (hb hby own_d5_16)
    refine own_fwd st21 ?_
    show own_R p.tables e below P (T21.setTop (mkF m 19 #[.val (.ref a1), .val (.int p1), .unset] [(.int z), (.ref eA)]))
    refine own_fwd (fun tt kt => XS.iconst X21.here hx rfl (hb hby own_d5_19) kt) ?_
    show own_R p.tables e below P (T21.setTop (mkF m 20 #[.val (.ref a1), .val (.int p1), .unset] [(.int (1 : Int32)), (.int z), (.ref eA)]))
    refine own_fwd (fun tt kt => XS.isub X21.here hx rfl (hb hby own_d5_20) rfl kt) ?_
    show own_R p.tables e below P (T21.setTop (mkF m 21 #[.val (.ref a1), .val (.int p1), .unset] [(.int (z - (1 : Int32))), (.ref eA)]))
    refine own_fwd (own_ldI X21 hx hZ e21 pN (j := (z - (1 : Int32))) (k - 1) (own_pred hz kz) (by omega) (g := (mkF m 21 #[.val (.ref a1), .val (.int p1), .unset] [(.int (z - (1 : Int32))), (.ref eA)])) rfl rfl (hb hby own_d5_21)) ?_
    show own_R p.tables e below P (T21.setTop (mkF m 22 #[.val (.ref a1), .val (.int p1), .unset] [(.int (fe (k - 1)))]))
    refine own_fwd (fun tt kt => XS.istoreN X21.here hx rfl (hb hby own_d5_22) rfl (l' := #[.val (.ref a1), .val (.int p1), .val (.int (fe (k - 1)))]) rfl kt) ?_
    show own_R p.tables e below P (T21.setTop (mkF m 23 #[.val (.ref a1), .val (.int p1), .val (.int (fe (k - 1)))] []))
    refine own_fwd (fun tt kt => XS.aloadN X21.here hx rfl (hb hby own_d5_23) rfl rfl kt) ?_
    show own_R p.tables e below P (T21.setTop (mkF m 24 #[.val (.ref a1), .val (.int p1), .val (.int (fe (k - 1)))] [(.ref a1)]))
    obtain ⟨T22, X22, e22, st22⟩ := getF X21 hx hZ hown (host := "") (Or.inl (hw _ (List.mem_of_getElem? (i := 10) rfl))) Via.refl e21 pF1 (g := (mkF m 24 #[.val (.ref a1), .val (.int p1), .val (.int (fe (k - 1)))] [(.ref a1)])) rfl rfl (hb hby own_d5_24)
    refine own_fwd st22 ?_
    show own_R p.tables e below P (T22.setTop (mkF m 27 #[.val (.ref a1), .val (.int p1), .val (.int (fe (k - 1)))] [(.ref cA)]))
    refine own_fwd (own_len X22 hx hZ e22 pC (1024 : Int32) (by decide) (g := (mkF m 27 #[.val (.ref a1), .val (.int p1), .val (.int (fe (k - 1)))] [(.ref cA)])) rfl rfl (hb hby own_d5_27)) ?_
    show own_R p.tables e below P (T22.setTop (mkF m 28 #[.val (.ref a1), .val (.int p1), .val (.int (fe (k - 1)))] [(.int (1024 : Int32))]))
    refine own_fwd (fun tt kt => XS.iloadN X22.here hx rfl (hb hby own_d5_28) rfl kt) ?_
    show own_R p.tables e below P (T22.setTop (mkF m 29 #[.val (.ref a1), .val (.int p1), .val (.int (fe (k - 1)))] [(.int (fe (k - 1))), (.int (1024 : Int32))]))
    refine own_fwd (fun tt kt => XS.isub X22.here hx rfl (hb hby own_d5_29) rfl kt) ?_
    show own_R p.tables e below P (T22.setTop (mkF m 30 #[.val (.ref a1), .val (.int p1), .val (.int (fe (k - 1)))] [(.int ((1024 : Int32) - (fe (k - 1))))]))
    refine own_fwd (fun tt kt => XS.iloadN X22.here hx rfl (hb hby own_d5_30) rfl kt) ?_
    show own_R p.tables e below P (T22.setTop (mkF m 31 #[.val (.ref a1), .val (.int p1), .val (.int (fe (k - 1)))] [(.int p1), (.int ((1024 : Int32) - (fe (k - 1))))]))
    have hc23 : ¬ (((1024 : Int32) - (fe (k - 1))) < p1) := by have q := c_isub 1024 (fe (k - 1)); have q' := rng32 ((1024 : Int32) - (fe (k - 1))); have q1 := own_i1024; rw [Int32.lt_iff_toInt_lt]; omega
    refine own_fwd (fun tt kt => XS.icmpNo X22.here hx rfl (hb hby own_d5_31) rfl (flt hc23).1 kt) ?_
    show own_R p.tables e below P (T22.setTop (mkF m 34 #[.val (.ref a1), .val (.int p1), .val (.int (fe (k - 1)))] []))
    refine own_fwd (fun tt kt => XS.aloadN X22.here hx rfl (hb hby own_d5_34) rfl rfl kt) ?_
    show own_R p.tables e below P (T22.setTop (mkF m 35 #[.val (.ref a1), .val (.int p1), .val (.int (fe (k - 1)))] [(.ref a1)]))
    obtain ⟨T24, X24, e24, st24⟩ := getF X22 hx hZ hown (host := "") (Or.inl (hw _ (List.mem_of_getElem? (i := 29) rfl))) Via.refl e22 pF3 (g := (mkF m 35 #[.val (.ref a1), .val (.int p1), .val (.int (fe (k - 1)))] [(.ref a1)])) rfl rfl (hb hby own_d5_35)
    refine own_fwd st24 ?_
    show own_R p.tables e below P (T24.setTop (mkF m 38 #[.val (.ref a1), .val (.int p1), .val (.int (fe (k - 1)))] [(.int z)]))
    refine own_fwd (fun tt kt => XS.aloadN X24.here hx rfl (hb hby own_d5_38) rfl rfl kt) ?_
    show own_R p.tables e below P (T24.setTop (mkF m 39 #[.val (.ref a1), .val (.int p1), .val (.int (fe (k - 1)))] [(.ref a1), (.int z)]))
    obtain ⟨T25, X25, e25, st25⟩ := getF X24 hx hZ hown (host := "") (Or.inl (hw _ (List.mem_of_getElem? (i := 13) rfl))) Via.refl e24 pF2 (g := (mkF m 39 #[.val (.ref a1), .val (.int p1), .val (.int (fe (k - 1)))] [(.ref a1), (.int z)])) rfl rfl (hb hby own_d5_39)
    refine own_fwd st25 ?_
    show own_R p.tables e below P (T25.setTop (mkF m 42 #[.val (.ref a1), .val (.int p1), .val (.int (fe (k - 1)))] [(.ref eA), (.int z)]))
    refine own_fwd (own_len X25 hx hZ e25 pN (16 : Int32) (by decide) (g := (mkF m 42 #[.val (.ref a1), .val (.int p1), .val (.int (fe (k - 1)))] [(.ref eA), (.int z)])) rfl rfl (hb hby own_d5_42)) ?_
    show own_R p.tables e below P (T25.setTop (mkF m 43 #[.val (.ref a1), .val (.int p1), .val (.int (fe (k - 1)))] [(.int (16 : Int32)), (.int z)]))
    have hc26 : ¬ (z = (16 : Int32)) := fun q => by rw [q] at hz; have q' : (16 : Int32).toInt = 16 := rfl; omega
    refine own_fwd (fun tt kt => XS.icmpYes X25.here hx rfl (pc0 := 43) (pc' := 53) rfl (hb hby own_d5_43) rfl (feq hc26).2 (by decide) (by decide) kt) ?_
    show own_R p.tables e below P (T25.setTop (mkF m 53 #[.val (.ref a1), .val (.int p1), .val (.int (fe (k - 1)))] []))
    refine own_fwd (fun tt kt => XS.aloadN X25.here hx rfl (hb hby own_d5_53) rfl rfl kt) ?_
    show own_R p.tables e below P (T25.setTop (mkF m 54 #[.val (.ref a1), .val (.int p1), .val (.int (fe (k - 1)))] [(.ref a1)]))
    obtain ⟨T27, X27, e27, st27⟩ := getF X25 hx hZ hown (host := "") (Or.inl (hw _ (List.mem_of_getElem? (i := 13) rfl))) Via.refl e25 pF2 (g := (mkF m 54 #[.val (.ref a1), .val (.int p1), .val (.int (fe (k - 1)))] [(.ref a1)])) rfl rfl (hb hby own_d5_54)
    refine own_fwd st27 ?_
    show own_R p.tables e below P (T27.setTop (mkF m 57 #[.val (.ref a1), .val (.int p1), .val (.int (fe (k - 1)))] [(.ref eA)]))
    refine own_fwd (fun tt kt => XS.aloadN X27.here hx rfl (hb hby own_d5_57) rfl rfl kt) ?_
    show own_R p.tables e below P (T27.setTop (mkF m 58 #[.val (.ref a1), .val (.int p1), .val (.int (fe (k - 1)))] [(.ref a1), (.ref eA)]))
    refine own_fwd (fun tt kt => XS.dup X27.here hx rfl (hb hby own_d5_58) rfl rfl kt) ?_
    show own_R p.tables e below P (T27.setTop (mkF m 59 #[.val (.ref a1), .val (.int p1), .val (.int (fe (k - 1)))] [(.ref a1), (.ref a1), (.ref eA)]))
    obtain ⟨T28, X28, e28, st28⟩ := getF X27 hx hZ hown (host := "") (Or.inl (hw _ (List.mem_of_getElem? (i := 29) rfl))) Via.refl e27 pF3 (g := (mkF m 59 #[.val (.ref a1), .val (.int p1), .val (.int (fe (k - 1)))] [(.ref a1), (.ref a1), (.ref eA)])) rfl rfl (hb hby own_d5_59)
    refine own_fwd st28 ?_
    show own_R p.tables e below P (T28.setTop (mkF m 62 #[.val (.ref a1), .val (.int p1), .val (.int (fe (k - 1)))] [(.int z), (.ref a1), (.ref eA)]))
    refine own_fwd (fun tt kt => XS.dupX1 X28.here hx rfl (hb hby own_d5_62) rfl rfl rfl kt) ?_
    show own_R p.tables e below P (T28.setTop (mkF m 63 #[.val (.ref a1), .val (.int p1), .val (.int (fe (k - 1)))] [(.int z), (.ref a1), (.int z), (.ref eA)]))
    refine own_fwd (fun tt kt => XS.iconst X28.here hx rfl (hb hby own_d5_63) kt) ?_
    show own_R p.tables e below P (T28.setTop (mkF m 64 #[.val (.ref a1), .val (.int p1), .val (.int (fe (k - 1)))] [(.int (1 : Int32)), (.int z), (.ref a1), (.int z), (.ref eA)]))
    refine own_fwd (fun tt kt => XS.iadd X28.here hx rfl (hb hby own_d5_64) rfl kt) ?_
    show own_R p.tables e below P (T28.setTop (mkF m 65 #[.val (.ref a1), .val (.int p1), .val (.int (fe (k - 1)))] [(.int (z + (1 : Int32))), (.ref a1), (.int z), (.ref eA)]))
    obtain ⟨T29, h29, X29, e29, W29, st29⟩ := putF X28 hx hZ hown (host := "") (Or.inl (hw _ (List.mem_of_getElem? (i := 29) rfl))) Via.refl e28 pF3 pE (Or.inl (hw _ (List.mem_of_getElem? (i := 30) rfl))) (hw _ (List.mem_of_getElem? (i := 2) rfl)) (ty := .int) (by decide) rfl rfl (g := (mkF m 65 #[.val (.ref a1), .val (.int p1), .val (.int (fe (k - 1)))] [(.int (z + (1 : Int32))), (.ref a1), (.int z), (.ref eA)])) rfl rfl (hb hby own_d5_65)
    have F29_ := pF3.same W29
    have pE_x29 := pE.wr W29
    have pF1_x29 := pF1.other W29 (Or.inr (slot_ne (Or.inl (hw _ (List.mem_of_getElem? (i := 11) rfl))) (Or.inl (hw _ (List.mem_of_getElem? (i := 30) rfl))) (by decide) (t := (.array .char)) (t' := .int) (by decide) (by decide)))
    have pF2_x29 := pF2.other W29 (Or.inr (slot_ne (Or.inl (hw _ (List.mem_of_getElem? (i := 14) rfl))) (Or.inl (hw _ (List.mem_of_getElem? (i := 30) rfl))) (by decide) (t := (.array .int)) (t' := .int) (by decide) (by decide)))
    have pC_x29 := pC.other W29 (Ne.symm n1)
    have pN_x29 := pN.other W29 (Ne.symm n2)
    have N29 := Fr.snoc X29 N0 pg
    have Z29 : n0 ≤ h29.size := by rw [W29.size]; exact Z0
    have K29 := K0.wr W29 (Or.inl (List.mem_of_getElem? (i := 0) rfl))
    have Y29 : h0.size ≤ h29.size := by rw [W29.size]; exact (Nat.le_refl h0.size)
    refine own_fwd st29 ?_
    show own_R p.tables e below P (T29.setTop (mkF m 68 #[.val (.ref a1), .val (.int p1), .val (.int (fe (k - 1)))] [(.int z), (.ref eA)]))
    refine own_fwd (fun tt kt => XS.iloadN X29.here hx rfl (hb hby own_d5_68) rfl kt) ?_
    show own_R p.tables e below P (T29.setTop (mkF m 69 #[.val (.ref a1), .val (.int p1), .val (.int (fe (k - 1)))] [(.int (fe (k - 1))), (.int z), (.ref eA)]))
    refine own_fwd (fun tt kt => XS.iloadN X29.here hx rfl (hb hby own_d5_69) rfl kt) ?_
    show own_R p.tables e below P (T29.setTop (mkF m 70 #[.val (.ref a1), .val (.int p1), .val (.int (fe (k - 1)))] [(.int p1), (.int (fe (k - 1))), (.int z), (.ref eA)]))
    refine own_fwd (fun tt kt => XS.iadd X29.here hx rfl (hb hby own_d5_70) rfl kt) ?_
    show own_R p.tables e below P (T29.setTop (mkF m 71 #[.val (.ref a1), .val (.int p1), .val (.int (fe (k - 1)))] [(.int ((fe (k - 1)) + p1)), (.int z), (.ref eA)]))
    obtain ⟨T30, h30, X30, e30, W30, A30_, st30⟩ := own_stI X29 hx hZ e29 pN_x29 (j := z) k hz (by omega) (g := (mkF m 71 #[.val (.ref a1), .val (.int p1), .val (.int (fe (k - 1)))] [(.int ((fe (k - 1)) + p1)), (.int z), (.ref eA)])) rfl rfl (hb hby own_d5_71)
    have pE_x30 := pE_x29.wr W30
    have pF1_x30 := pF1_x29.other W30 (Or.inl n2)
    have pF2_x30 := pF2_x29.other W30 (Or.inl n2)
    have F29__x30 := F29_.other W30 (Or.inl n2)
    have pC_x30 := pC_x29.other W30 n3
    have N30 := Fr.snoc X30 N29 pge
    have Z30 : n0 ≤ h30.size := by rw [W30.size]; exact Z29
    have K30 := K29.wr W30 (Or.inl (List.mem_of_getElem? (i := 1) rfl))
    have Y30 : h0.size ≤ h30.size := by rw [W30.size]; exact Y29
    refine own_fwd st30 ?_
    show own_R p.tables e below P (T30.setTop (mkF m 72 #[.val (.ref a1), .val (.int p1), .val (.int (fe (k - 1)))] []))
    refine own_fwd (fun tt kt => XS.iloadN X30.here hx rfl (hb hby own_d5_72) rfl kt) ?_
    show own_R p.tables e below P (T30.setTop (mkF m 73 #[.val (.ref a1), .val (.int p1), .val (.int (fe (k - 1)))] [(.int (fe (k - 1)))]))
    obtain ⟨fs31, hr31, hrun31, hended31, hW31, hsame31⟩ := X30.leave (v := some (.int (fe (k - 1)))) (fun h => by rw [Bd.returns] at h; cases h)
    refine ⟨_, _, X30.ireturnOut hx (w := (fe (k - 1))) Bd.returns rfl (by simp) (hb hby own_d5_73) hr31, fin _ _ ⟨hrun31, hended31, _, _, rfl, ?_, ⟨_, rfl⟩, hW31, hsame31.mono (by decide) (by decide)⟩⟩
    show own_Q5 Z a1 cA eA z p1 g fe k n s0 h0 n0 _ T30.heap _
    rw [e30]
    exact ⟨(fe (k - 1)), rfl, hst, N30, K30, pE_x30, pF1_x30, pF2_x30, F29__x30, A30_⟩
theorem own_d4_0 : decode prog_26_method_4_code 0 = .ok (.aload_n 0, 1) := by decide +kernel
theorem own_d4_1 : decode prog_26_method_4_code 1 = .ok (.iload_n 3, 1) := by decide +kernel
theorem own_d4_2 : decode prog_26_method_4_code 2 = .ok (.iload_n 2, 1) := by decide +kernel
theorem own_d4_3 : decode prog_26_method_4_code 3 = .ok (.isub, 1) := by decide +kernel
theorem own_d4_4 : decode prog_26_method_4_code 4 = .ok (.invokevirtual 25, 3) := by decide +kernel
theorem own_d4_7 : decode prog_26_method_4_code 7 = .ok (.istore 4, 2) := by decide +kernel
theorem own_d4_9 : decode prog_26_method_4_code 9 = .ok (.aload_n 1, 1) := by decide +kernel
theorem own_d4_10 : decode prog_26_method_4_code 10 = .ok (.iload_n 2, 1) := by decide +kernel
theorem own_d4_11 : decode prog_26_method_4_code 11 = .ok (.aload_n 0, 1) := by decide +kernel
theorem own_d4_12 : decode prog_26_method_4_code 12 = .ok (.getfield 7, 3) := by decide +kernel
theorem own_d4_15 : decode prog_26_method_4_code 15 = .ok (.iload 4, 2) := by decide +kernel
theorem own_d4_17 : decode prog_26_method_4_code 17 = .ok (.iload_n 3, 1) := by decide +kernel
theorem own_d4_18 : decode prog_26_method_4_code 18 = .ok (.iload_n 2, 1) := by decide +kernel
theorem own_d4_19 : decode prog_26_method_4_code 19 = .ok (.isub, 1) := by decide +kernel
theorem own_d4_20 : decode prog_26_method_4_code 20 = .ok (.invokestatic 29, 3) := by decide +kernel
theorem own_d4_23 : decode prog_26_method_4_code 23 = .ok (.return_, 1) := by decide +kernel
theorem own_pd0 : parseMethodDescriptor "(I)I" = some ⟨[.int], some .int⟩ := by decide +kernel
theorem own_ef4 (m : MethodId) (a1 : Addr) (b : Addr) (p1 : Int32) : entryFrame m #[(.ref a1), (.ref b), (.int (0 : Int32)), (.int p1)] 5 = mkF m 0 #[.val (.ref a1), .val (.ref b), .val (.int (0 : Int32)), .val (.int p1), .unset] [] := by first | (simp [entryFrame, mkF, argsToLocals, Value.category]; done) | rfl
def own_Q4 (Z : State) (a1 b cA eA : Addr) (z p1 : Int32) (g fe f : Nat → Int32) (k n s0 : Nat) (h0 : Heap) (n0 : Nat) (v : Option Value) (h : Heap) (L : List Loc) : Prop := v = none ∧ Fr n0 L ∧ Keep h0 h [a1, eA, cA] ∧ Exa Z h a1 "com/example/rankbucket/rankbucket/IdList" ∧ Fld Z h a1 "com/example/rankbucket/rankbucket/IdList" "chars" "[C" (.ref cA) ∧ Fld Z h a1 "com/example/rankbucket/rankbucket/IdList" "ends" "[I" (.ref eA) ∧ Fld Z h a1 "com/example/rankbucket/rankbucket/IdList" "size" "I" (.int (z + (1 : Int32))) ∧ own_AI Z h cA .char 1024 (own_put f g s0 n) ∧ ∃ st : Int32, st.toInt = (s0 : Int) ∧ own_AI Z h eA .int 16 (own_upd fe k (st + p1))
set_option maxRecDepth 65536 in
set_option maxHeartbeats 40000000 in
theorem own_rm4 (l : Launch) (Z : State) (a0 : Array Value) (hw : ∀ d ∈ tables_1, d.before a0 Z = true) (ws : List Jvm.Cond) (a1 b cA eA : Addr) (z p1 : Int32) (g fe f : Nat → Int32) (k n s0 : Nat) (h0 : Heap) (n0 : Nat) (Z0 : n0 ≤ h0.size) (pE : Exa Z h0 a1 "com/example/rankbucket/rankbucket/IdList") (pF1 : Fld Z h0 a1 "com/example/rankbucket/rankbucket/IdList" "chars" "[C" (.ref cA)) (pF2 : Fld Z h0 a1 "com/example/rankbucket/rankbucket/IdList" "ends" "[I" (.ref eA)) (pF3 : Fld Z h0 a1 "com/example/rankbucket/rankbucket/IdList" "size" "I" (.int z)) (pC : own_AI Z h0 cA .char 1024 g) (pN : own_AI Z h0 eA .int 16 fe) (pg : n0 ≤ a1) (pgc : n0 ≤ cA) (pge : n0 ≤ eA) (n1 : a1 ≠ cA) (n2 : a1 ≠ eA) (n3 : cA ≠ eA) (hz : z.toInt = (k : Int)) (bk : k < 15) (hp : p1.toInt = (n : Int)) (bn : n ≤ 3) (bs : s0 + n ≤ 1000) (st0 : k = 0 → s0 = 0) (st1 : k ≠ 0 → (fe (k - 1)).toInt = (s0 : Int)) (pB : own_AI Z h0 b .char 3 f) (m1 : b ≠ a1) (m2 : b ≠ cA) (m3 : b ≠ eA) (ff : own_Fc f) (gf : own_Fc g) :
    MetFree l (⟨"com/example/rankbucket/rankbucket/IdList", "add", "([CII)V"⟩ : MethodName) (head1 (Jvm.Cond.code (⟨"com/example/rankbucket/rankbucket/IdList", "add", "([CII)V"⟩ : MethodName) prog_26_method_4_code 5 none :: ws) ({ frames := 1, cells := 0, slots := 0, locals := 40 } : Room)) (fun a U => a = #[(.ref a1), (.ref b), (.int (0 : Int32)), (.int p1)] ∧ Z.Warmed39 U.vm ∧ U.heap = h0) (fun _ _ _ _ _ => True) (fun _ U o U' => ∃ v L, o = .returned v ∧ own_Q4 Z a1 b cA eA z p1 g fe f k n s0 h0 n0 v U'.heap L ∧ FrameEnd U o U' L ({ frames := 1, cells := 0, slots := 0, locals := 40 } : Room).cells ({ frames := 1, cells := 0, slots := 0, locals := 40 } : Room).slots) := by
  refine MetFree.of_bodySF (plainFor_of_name own_pn0) hisR ?_
  intro p e s m args below meth c s₁ Bd hml0 hP hK
  obtain ⟨rfl, hZ, hh⟩ := hP
  have hx := Bd.exec
  have hby := Bd.bytes
  have hml : c.maxLocals = 5 := hml0
  have hown : s.vm.findClass "com/example/rankbucket/rankbucket/IdList" = some m.cls := findClass_of_methodNamed Bd.named
  have hnm := (name_of_methodNamed Bd.named Bd.method).1
  have X0 : Stand p l e ({ frames := 1, cells := 0, slots := 0, locals := 40 } : Room) s m #[(.ref a1), (.ref b), (.int (0 : Int32)), (.int p1)] below meth c s₁ [] 0 0 := Stand.of_body Bd
  have e0 : s₁.heap = h0 := by rw [← hh, Bd.state]; rfl
  have N0 := Fr.nil n0
  refine own_nm (st := s₁.setTop (entryFrame m #[(.ref a1), (.ref b), (.int (0 : Int32)), (.int p1)] 5)) fun P fin => ?_
  refine own_fwd (fun tt kt => castTop (own_ef4 m a1 b p1) kt) ?_
  show own_R p.tables e below P (s₁.setTop (mkF m 0 #[.val (.ref a1), .val (.ref b), .val (.int (0 : Int32)), .val (.int p1), .unset] []))
  have K0 := Keep.refl h0 [a1, eA, cA]
  have hp0 : p1 - (0 : Int32) = p1 := by rw [← Int32.toInt_inj, own_sub0 hp, hp]
  refine own_fwd (fun tt kt => XS.aloadN X0.here hx rfl (hb hby own_d4_0) rfl rfl kt) ?_
  show own_R p.tables e below P (s₁.setTop (mkF m 1 #[.val (.ref a1), .val (.ref b), .val (.int (0 : Int32)), .val (.int p1), .unset] [(.ref a1)]))
  refine own_fwd (fun tt kt => XS.iloadN X0.here hx rfl (hb hby own_d4_1) rfl kt) ?_
  show own_R p.tables e below P (s₁.setTop (mkF m 2 #[.val (.ref a1), .val (.ref b), .val (.int (0 : Int32)), .val (.int p1), .unset] [(.int p1), (.ref a1)]))
  refine own_fwd (fun tt kt => XS.iloadN X0.here hx rfl (hb hby own_d4_2) rfl kt) ?_
  show own_R p.tables e below P (s₁.setTop (mkF m 3 #[.val (.ref a1), .val (.ref b), .val (.int (0 : Int32)), .val (.int p1), .unset] [(.int (0 : Int32)), (.int p1), (.ref a1)]))
  refine own_fwd (fun tt kt => XS.isub X0.here hx rfl (hb hby own_d4_3) rfl kt) ?_
  show own_R p.tables e below P (s₁.setTop (mkF m 4 #[.val (.ref a1), .val (.ref b), .val (.int (0 : Int32)), .val (.int p1), .unset] [(.int (p1 - (0 : Int32))), (.ref a1)]))
  have hv32 : (p1 - (0 : Int32)) = p1 := hp0
  rw [hv32]
  show own_R p.tables e below P (s₁.setTop (mkF m 4 #[.val (.ref a1), .val (.ref b), .val (.int (0 : Int32)), .val (.int p1), .unset] [(.int p1), (.ref a1)]))
  obtain ⟨cq33, q33, q33'⟩ := pE.cell
  obtain ⟨_, _, ⟨T33, L33, k33, n33⟩, -, X33, ⟨Lc33, hQ33, l33, y33, z33⟩, st33⟩ := X0.privateBack hx (y := (⟨"com/example/rankbucket/rankbucket/IdList", "room", "(I)I"⟩ : MethodName)) hown (mvT hZ (hw _ (List.mem_of_getElem? (i := 25) rfl))) (mvT hZ (hw _ (List.mem_of_getElem? (i := 26) rfl))) (own_selPriv hZ (hw _ (List.mem_of_getElem? (i := 2) rfl)) (hw _ (List.mem_of_getElem? (i := 27) rfl)) (hw _ (List.mem_of_getElem? (i := 26) rfl)) (by decide)) (Cond.privateMethod_at (mvP hZ (hw _ (List.mem_of_getElem? (i := 27) rfl)) (args := #[]))) (mvT hZ (hw _ (List.mem_of_getElem? (i := 28) rfl))) (by decide) (backOf (W := 0) (own_rm5 l Z a0 hw [] a1 cA eA z p1 g fe k n s0 h0 n0 Z0 pE pF1 pF2 pF3 pC pN pg pgc pge n1 n2 n3 hz bk hp bn bs st0 st1) hZ (hw _ (List.mem_of_getElem? (i := 28) rfl)) (hw _ (List.mem_of_getElem? (i := 3) rfl)) (by decide) (by decide)) (g := (mkF m 4 #[.val (.ref a1), .val (.ref b), .val (.int (0 : Int32)), .val (.int p1), .unset] [(.int p1), (.ref a1)])) rfl (by rw [hml]; rfl) (Steps.refl _) (a := a1) (by rw [e0]; exact q33) q33' (argsL := [(.int p1)]) (rest := []) (lenOf own_pd0 rfl) rfl (by show 2 * 0 + _ ≤ _; exact Nat.le_of_eq rfl) (hb hby own_d4_4) (fun _ _ => ⟨rfl, e0, (by decide : 0 + 0 ≤ _), (by decide : 0 + 0 ≤ _)⟩)
  dsimp only [Pt.U, Pt.locs, Pt.cells, Pt.slots] at X33 l33 y33 z33 st33 hQ33
  subst l33 y33 z33
  obtain ⟨h33, e33⟩ : ∃ z, T33.heap = z := ⟨_, rfl⟩
  rw [e33] at hQ33
  obtain ⟨st, hq33, hst, N33q, K33, E33_, G33_, H33_, I33_, A33_⟩ := hQ33
  subst hq33
  have N33 := Fr.app N0 N33q
  have pE_x33 := pE.keep K33
  have pC_x33 := pC.keep K33 (ninS (Ne.symm n1) (ninS n3 nin0))
  have pB_x33 := pB.keep K33 (ninS m1 (ninS m3 nin0))
  have Z33 : n0 ≤ h33.size := Nat.le_trans Z0 K33.1
  have KK33 := K0.trans K33 (allS (Or.inl (List.mem_of_getElem? (i := 0) rfl)) (allS (Or.inl (List.mem_of_getElem? (i := 1) rfl)) all0))
  have Y33 : h0.size ≤ h33.size := Nat.le_trans (Nat.le_refl h0.size) K33.1
  refine own_trn st33 ?_
  show own_R p.tables e below P (T33.setTop (mkF m 7 #[.val (.ref a1), .val (.ref b), .val (.int (0 : Int32)), .val (.int p1), .unset] [(.int st)]))
  refine own_fwd (fun tt kt => XS.istore X33.here hx rfl (hb hby own_d4_7) rfl (l' := #[.val (.ref a1), .val (.ref b), .val (.int (0 : Int32)), .val (.int p1), .val (.int st)]) rfl kt) ?_
  show own_R p.tables e below P (T33.setTop (mkF m 9 #[.val (.ref a1), .val (.ref b), .val (.int (0 : Int32)), .val (.int p1), .val (.int st)] []))
  refine own_fwd (fun tt kt => XS.aloadN X33.here hx rfl (hb hby own_d4_9) rfl rfl kt) ?_
  show own_R p.tables e below P (T33.setTop (mkF m 10 #[.val (.ref a1), .val (.ref b), .val (.int (0 : Int32)), .val (.int p1), .val (.int st)] [(.ref b)]))
  refine own_fwd (fun tt kt => XS.iloadN X33.here hx rfl (hb hby own_d4_10) rfl kt) ?_
  show own_R p.tables e below P (T33.setTop (mkF m 11 #[.val (.ref a1), .val (.ref b), .val (.int (0 : Int32)), .val (.int p1), .val (.int st)] [(.int (0 : Int32)), (.ref b)]))
  refine own_fwd (fun tt kt => XS.aloadN X33.here hx rfl (hb hby own_d4_11) rfl rfl kt) ?_
  show own_R p.tables e below P (T33.setTop (mkF m 12 #[.val (.ref a1), .val (.ref b), .val (.int (0 : Int32)), .val (.int p1), .val (.int st)] [(.ref a1), (.int (0 : Int32)), (.ref b)]))
  obtain ⟨T34, X34, e34, st34⟩ := getF X33 hx hZ hown (host := "") (Or.inl (hw _ (List.mem_of_getElem? (i := 10) rfl))) Via.refl e33 G33_ (g := (mkF m 12 #[.val (.ref a1), .val (.ref b), .val (.int (0 : Int32)), .val (.int p1), .val (.int st)] [(.ref a1), (.int (0 : Int32)), (.ref b)])) rfl rfl (hb hby own_d4_12)
  refine own_fwd st34 ?_
  show own_R p.tables e below P (T34.setTop (mkF m 15 #[.val (.ref a1), .val (.ref b), .val (.int (0 : Int32)), .val (.int p1), .val (.int st)] [(.ref cA), (.int (0 : Int32)), (.ref b)]))
  refine own_fwd (fun tt kt => XS.iload X34.here hx rfl (hb hby own_d4_15) rfl kt) ?_
  show own_R p.tables e below P (T34.setTop (mkF m 17 #[.val (.ref a1), .val (.ref b), .val (.int (0 : Int32)), .val (.int p1), .val (.int st)] [(.int st), (.ref cA), (.int (0 : Int32)), (.ref b)]))
  refine own_fwd (fun tt kt => XS.iloadN X34.here hx rfl (hb hby own_d4_17) rfl kt) ?_
  show own_R p.tables e below P (T34.setTop (mkF m 18 #[.val (.ref a1), .val (.ref b), .val (.int (0 : Int32)), .val (.int p1), .val (.int st)] [(.int p1), (.int st), (.ref cA), (.int (0 : Int32)), (.ref b)]))
  refine own_fwd (fun tt kt => XS.iloadN X34.here hx rfl (hb hby own_d4_18) rfl kt) ?_
  show own_R p.tables e below P (T34.setTop (mkF m 19 #[.val (.ref a1), .val (.ref b), .val (.int (0 : Int32)), .val (.int p1), .val (.int st)] [(.int (0 : Int32)), (.int p1), (.int st), (.ref cA), (.int (0 : Int32)), (.ref b)]))
  refine own_fwd (fun tt kt => XS.isub X34.here hx rfl (hb hby own_d4_19) rfl kt) ?_
  show own_R p.tables e below P (T34.setTop (mkF m 20 #[.val (.ref a1), .val (.ref b), .val (.int (0 : Int32)), .val (.int p1), .val (.int st)] [(.int (p1 - (0 : Int32))), (.int st), (.ref cA), (.int (0 : Int32)), (.ref b)]))
  have hv35 : (p1 - (0 : Int32)) = p1 := hp0
  rw [hv35]
  show own_R p.tables e below P (T34.setTop (mkF m 20 #[.val (.ref a1), .val (.ref b), .val (.int (0 : Int32)), .val (.int p1), .val (.int st)] [(.int p1), (.int st), (.ref cA), (.int (0 : Int32)), (.ref b)]))
  obtain ⟨T36, h36, Lc36, X36, e36, N36, K36, A36_, st36⟩ := own_cp X34 hx hZ hown (hw _ (List.mem_of_getElem? (i := 31) rfl)) (hw _ (List.mem_of_getElem? (i := 34) rfl)) (hw _ (List.mem_of_getElem? (i := 32) rfl)) (hw _ (List.mem_of_getElem? (i := 33) rfl)) e34 pB_x33 pC_x33 rfl (fun i _ => ff i) (fun i _ => gf i) (sp := (0 : Int32)) (dp := st) (nn := p1) 0 s0 n own_i0 hst hp (by omega) (by omega) N33 pgc (fr := (mkF m 20 #[.val (.ref a1), .val (.ref b), .val (.int (0 : Int32)), .val (.int p1), .val (.int st)] [(.int p1), (.int st), (.ref cA), (.int (0 : Int32)), (.ref b)])) rfl (by rw [hml]; rfl) rfl (hb hby own_d4_20) (by decide) (W := 0) (by show 2 * 0 + _ ≤ _; exact Nat.le_of_eq rfl) (by decide)
  have B36_ : own_AI Z h36 cA .char 1024 (own_put f g s0 n) := A36_.cong fun i _ => by unfold own_put; split <;> rfl
  have E33__x36 := E33_.keep K36
  have pB_x36 := pB_x33.keep K36 (ninS m2 nin0)
  have G33__x36 := G33_.keep K36 (ninS n1 nin0)
  have H33__x36 := H33_.keep K36 (ninS n1 nin0)
  have I33__x36 := I33_.keep K36 (ninS n1 nin0)
  have A33__x36 := A33_.keep K36 (ninS (Ne.symm n3) nin0)
  have Z36 : n0 ≤ h36.size := Nat.le_trans Z33 K36.1
  have KK36 := KK33.trans K36 (allS (Or.inl (List.mem_of_getElem? (i := 2) rfl)) all0)
  have Y36 : h0.size ≤ h36.size := Nat.le_trans Y33 K36.1
  refine own_fwd st36 ?_
  show own_R p.tables e below P (T36.setTop (mkF m 23 #[.val (.ref a1), .val (.ref b), .val (.int (0 : Int32)), .val (.int p1), .val (.int st)] []))
  obtain ⟨fs37, hr37, hrun37, hended37, hW37, hsame37⟩ := X36.leave (v := none) (fun _ => rfl)
  refine ⟨_, _, X36.returnOut hx Bd.returns (hb hby own_d4_23) hr37, fin _ _ ⟨hrun37, hended37, _, _, rfl, ?_, ⟨_, rfl⟩, hW37, hsame37.mono (by decide) (by decide)⟩⟩
  show own_Q4 Z a1 b cA eA z p1 g fe f k n s0 h0 n0 _ T36.heap _
  rw [e36]
  exact ⟨rfl, N36, KK36, E33__x36, G33__x36, H33__x36, I33__x36, B36_, st, hst, A33__x36⟩
theorem own_d3_0 : decode prog_26_method_3_code 0 = .ok (.aload_n 0, 1) := by decide +kernel
theorem own_d3_1 : decode prog_26_method_3_code 1 = .ok (.aload_n 1, 1) := by decide +kernel
theorem own_d3_2 : decode prog_26_method_3_code 2 = .ok (.iconst 0, 1) := by decide +kernel
theorem own_d3_3 : decode prog_26_method_3_code 3 = .ok (.iload_n 2, 1) := by decide +kernel
theorem own_d3_4 : decode prog_26_method_3_code 4 = .ok (.invokevirtual 21, 3) := by decide +kernel
theorem own_d3_7 : decode prog_26_method_3_code 7 = .ok (.return_, 1) := by decide +kernel
theorem own_pd1 : parseMethodDescriptor "([CII)V" = some ⟨[(.array .char), .int, .int], none⟩ := by decide +kernel
theorem own_ef3 (m : MethodId) (a1 : Addr) (b : Addr) (p1 : Int32) : entryFrame m #[(.ref a1), (.ref b), (.int p1)] 3 = mkF m 0 #[.val (.ref a1), .val (.ref b), .val (.int p1)] [] := by first | (simp [entryFrame, mkF, argsToLocals, Value.category]; done) | rfl
def own_Q3 (Z : State) (a1 b cA eA : Addr) (z p1 : Int32) (g fe f : Nat → Int32) (k n s0 : Nat) (h0 : Heap) (n0 : Nat) (v : Option Value) (h : Heap) (L : List Loc) : Prop := v = none ∧ Fr n0 L ∧ Keep h0 h [a1, eA, cA] ∧ Exa Z h a1 "com/example/rankbucket/rankbucket/IdList" ∧ Fld Z h a1 "com/example/rankbucket/rankbucket/IdList" "chars" "[C" (.ref cA) ∧ Fld Z h a1 "com/example/rankbucket/rankbucket/IdList" "ends" "[I" (.ref eA) ∧ Fld Z h a1 "com/example/rankbucket/rankbucket/IdList" "size" "I" (.int (z + (1 : Int32))) ∧ own_AI Z h cA .char 1024 (own_put f g s0 n) ∧ ∃ st : Int32, st.toInt = (s0 : Int) ∧ own_AI Z h eA .int 16 (own_upd fe k (st + p1))
set_option maxRecDepth 65536 in
set_option maxHeartbeats 40000000 in
theorem own_rm3 (l : Launch) (Z : State) (a0 : Array Value) (hw : ∀ d ∈ tables_1, d.before a0 Z = true) (ws : List Jvm.Cond) (a1 b cA eA : Addr) (z p1 : Int32) (g fe f : Nat → Int32) (k n s0 : Nat) (h0 : Heap) (n0 : Nat) (Z0 : n0 ≤ h0.size) (pE : Exa Z h0 a1 "com/example/rankbucket/rankbucket/IdList") (pF1 : Fld Z h0 a1 "com/example/rankbucket/rankbucket/IdList" "chars" "[C" (.ref cA)) (pF2 : Fld Z h0 a1 "com/example/rankbucket/rankbucket/IdList" "ends" "[I" (.ref eA)) (pF3 : Fld Z h0 a1 "com/example/rankbucket/rankbucket/IdList" "size" "I" (.int z)) (pC : own_AI Z h0 cA .char 1024 g) (pN : own_AI Z h0 eA .int 16 fe) (pg : n0 ≤ a1) (pgc : n0 ≤ cA) (pge : n0 ≤ eA) (n1 : a1 ≠ cA) (n2 : a1 ≠ eA) (n3 : cA ≠ eA) (hz : z.toInt = (k : Int)) (bk : k < 15) (hp : p1.toInt = (n : Int)) (bn : n ≤ 3) (bs : s0 + n ≤ 1000) (st0 : k = 0 → s0 = 0) (st1 : k ≠ 0 → (fe (k - 1)).toInt = (s0 : Int)) (pB : own_AI Z h0 b .char 3 f) (m1 : b ≠ a1) (m2 : b ≠ cA) (m3 : b ≠ eA) (ff : own_Fc f) (gf : own_Fc g) :
    MetFree l (⟨"com/example/rankbucket/rankbucket/IdList", "add", "([CI)V"⟩ : MethodName) (head1 (Jvm.Cond.code (⟨"com/example/rankbucket/rankbucket/IdList", "add", "([CI)V"⟩ : MethodName) prog_26_method_3_code 3 none :: ws) ({ frames := 2, cells := 0, slots := 0, locals := 56 } : Room)) (fun a U => a = #[(.ref a1), (.ref b), (.int p1)] ∧ Z.Warmed39 U.vm ∧ U.heap = h0) (fun _ _ _ _ _ => True) (fun _ U o U' => ∃ v L, o = .returned v ∧ own_Q3 Z a1 b cA eA z p1 g fe f k n s0 h0 n0 v U'.heap L ∧ FrameEnd U o U' L ({ frames := 2, cells := 0, slots := 0, locals := 56 } : Room).cells ({ frames := 2, cells := 0, slots := 0, locals := 56 } : Room).slots) := by
  refine MetFree.of_bodySF (plainFor_of_name own_pn0) hisR ?_
  intro p e s m args below meth c s₁ Bd hml0 hP hK
  obtain ⟨rfl, hZ, hh⟩ := hP
  have hx := Bd.exec
  have hby := Bd.bytes
  have hml : c.maxLocals = 3 := hml0
  have hown : s.vm.findClass "com/example/rankbucket/rankbucket/IdList" = some m.cls := findClass_of_methodNamed Bd.named
  have hnm := (name_of_methodNamed Bd.named Bd.method).1
  have X0 : Stand p l e ({ frames := 2, cells := 0, slots := 0, locals := 56 } : Room) s m #[(.ref a1), (.ref b), (.int p1)] below meth c s₁ [] 0 0 := Stand.of_body Bd
  have e0 : s₁.heap = h0 := by rw [← hh, Bd.state]; rfl
  have N0 := Fr.nil n0
  refine own_nm (st := s₁.setTop (entryFrame m #[(.ref a1), (.ref b), (.int p1)] 3)) fun P fin => ?_
  refine own_fwd (fun tt kt => castTop (own_ef3 m a1 b p1) kt) ?_
  show own_R p.tables e below P (s₁.setTop (mkF m 0 #[.val (.ref a1), .val (.ref b), .val (.int p1)] []))
  have K0 := Keep.refl h0 [a1, eA, cA]
  refine own_fwd (fun tt kt => XS.aloadN X0.here hx rfl (hb hby own_d3_0) rfl rfl kt) ?_
  show own_R p.tables e below P (s₁.setTop (mkF m 1 #[.val (.ref a1), .val (.ref b), .val (.int p1)] [(.ref a1)]))
  refine own_fwd (fun tt kt => XS.aloadN X0.here hx rfl (hb hby own_d3_1) rfl rfl kt) ?_
  show own_R p.tables e below P (s₁.setTop (mkF m 2 #[.val (.ref a1), .val (.ref b), .val (.int p1)] [(.ref b), (.ref a1)]))
  refine own_fwd (fun tt kt => XS.iconst X0.here hx rfl (hb hby own_d3_2) kt) ?_
  show own_R p.tables e below P (s₁.setTop (mkF m 3 #[.val (.ref a1), .val (.ref b), .val (.int p1)] [(.int (0 : Int32)), (.ref b), (.ref a1)]))
  refine own_fwd (fun tt kt => XS.iloadN X0.here hx rfl (hb hby own_d3_3) rfl kt) ?_
  show own_R p.tables e below P (s₁.setTop (mkF m 4 #[.val (.ref a1), .val (.ref b), .val (.int p1)] [(.int p1), (.int (0 : Int32)), (.ref b), (.ref a1)]))
  obtain ⟨cq38, kq38, q38a, q38b, q38c⟩ := isOf hZ e0 pE
  obtain ⟨_, _, ⟨T38, L38, k38, n38⟩, -, X38, ⟨Lc38, hQ38, l38, y38, z38⟩, st38⟩ := X0.virtualBack hx (y := (⟨"com/example/rankbucket/rankbucket/IdList", "add", "([CII)V"⟩ : MethodName)) (z := (⟨"com/example/rankbucket/rankbucket/IdList", "add", "([CII)V"⟩ : MethodName)) hown (mvT hZ (hw _ (List.mem_of_getElem? (i := 20) rfl))) (mvT hZ (hw _ (List.mem_of_getElem? (i := 21) rfl))) (notFace_of_selects (args := #[]) (mvT hZ (hw _ (List.mem_of_getElem? (i := 23) rfl)))) (mvT hZ (hw _ (List.mem_of_getElem? (i := 23) rfl))) (mvT hZ (hw _ (List.mem_of_getElem? (i := 22) rfl))) (by decide) (backOf (W := 0) (own_rm4 l Z a0 hw [] a1 b cA eA z p1 g fe f k n s0 h0 n0 Z0 pE pF1 pF2 pF3 pC pN pg pgc pge n1 n2 n3 hz bk hp bn bs st0 st1 pB m1 m2 m3 ff gf) hZ (hw _ (List.mem_of_getElem? (i := 24) rfl)) (hw _ (List.mem_of_getElem? (i := 3) rfl)) (by decide) (by decide)) q38a q38c (g := (mkF m 4 #[.val (.ref a1), .val (.ref b), .val (.int p1)] [(.int p1), (.int (0 : Int32)), (.ref b), (.ref a1)])) rfl (by rw [hml]; rfl) (Steps.refl _) (argsL := [(.ref b), (.int (0 : Int32)), (.int p1)]) (rest := []) (lenOf own_pd1 rfl) rfl (by show 2 * 0 + _ ≤ _; exact Nat.le_of_eq rfl) (hb hby own_d3_4) (fun _ _ => ⟨rfl, e0, (by decide : 0 + 0 ≤ _), (by decide : 0 + 0 ≤ _)⟩)
  dsimp only [Pt.U, Pt.locs, Pt.cells, Pt.slots] at X38 l38 y38 z38 st38 hQ38
  subst l38 y38 z38
  obtain ⟨h38, e38⟩ : ∃ z, T38.heap = z := ⟨_, rfl⟩
  rw [e38] at hQ38
  obtain ⟨hq38, N38q, K38, E38_, G38_, H38_, I38_, B38_, st, hst, A38_⟩ := hQ38
  subst hq38
  have N38 := Fr.app N0 N38q
  have pE_x38 := pE.keep K38
  have pB_x38 := pB.keep K38 (ninS m1 (ninS m3 (ninS m2 nin0)))
  have Z38 : n0 ≤ h38.size := Nat.le_trans Z0 K38.1
  have KK38 := K0.trans K38 (allS (Or.inl (List.mem_of_getElem? (i := 0) rfl)) (allS (Or.inl (List.mem_of_getElem? (i := 1) rfl)) (allS (Or.inl (List.mem_of_getElem? (i := 2) rfl)) all0)))
  have Y38 : h0.size ≤ h38.size := Nat.le_trans (Nat.le_refl h0.size) K38.1
  refine own_trn st38 ?_
  show own_R p.tables e below P (T38.setTop (mkF m 7 #[.val (.ref a1), .val (.ref b), .val (.int p1)] []))
  obtain ⟨fs39, hr39, hrun39, hended39, hW39, hsame39⟩ := X38.leave (v := none) (fun _ => rfl)
  refine ⟨_, _, X38.returnOut hx Bd.returns (hb hby own_d3_7) hr39, fin _ _ ⟨hrun39, hended39, _, _, rfl, ?_, ⟨_, rfl⟩, hW39, hsame39.mono (by decide) (by decide)⟩⟩
  show own_Q3 Z a1 b cA eA z p1 g fe f k n s0 h0 n0 _ T38.heap _
  rw [e38]
  exact ⟨rfl, N38, KK38, E38_, G38_, H38_, I38_, B38_, st, hst, A38_⟩
theorem own_d6_0 : decode prog_26_method_8_code 0 = .ok (.iload_n 1, 1) := by decide +kernel
theorem own_d6_1 : decode prog_26_method_8_code 1 = .ok (.ifCond .ne 7, 3) := by decide +kernel
theorem own_d6_4 : decode prog_26_method_8_code 4 = .ok (.iconst 0, 1) := by decide +kernel
theorem own_d6_5 : decode prog_26_method_8_code 5 = .ok (.goto 11, 3) := by decide +kernel
theorem own_d6_8 : decode prog_26_method_8_code 8 = .ok (.aload_n 0, 1) := by decide +kernel
theorem own_d6_9 : decode prog_26_method_8_code 9 = .ok (.getfield 13, 3) := by decide +kernel
theorem own_d6_12 : decode prog_26_method_8_code 12 = .ok (.iload_n 1, 1) := by decide +kernel
theorem own_d6_13 : decode prog_26_method_8_code 13 = .ok (.iconst 1, 1) := by decide +kernel
theorem own_d6_14 : decode prog_26_method_8_code 14 = .ok (.isub, 1) := by decide +kernel
theorem own_d6_15 : decode prog_26_method_8_code 15 = .ok (.iaload, 1) := by decide +kernel
theorem own_d6_16 : decode prog_26_method_8_code 16 = .ok (.istore_n 2, 1) := by decide +kernel
theorem own_d6_17 : decode prog_26_method_8_code 17 = .ok (.iconst 0, 1) := by decide +kernel
theorem own_d6_18 : decode prog_26_method_8_code 18 = .ok (.istore_n 3, 1) := by decide +kernel
theorem own_d6_19 : decode prog_26_method_8_code 19 = .ok (.iload_n 2, 1) := by decide +kernel
theorem own_d6_20 : decode prog_26_method_8_code 20 = .ok (.istore 4, 2) := by decide +kernel
theorem own_d6_22 : decode prog_26_method_8_code 22 = .ok (.iload 4, 2) := by decide +kernel
theorem own_d6_24 : decode prog_26_method_8_code 24 = .ok (.aload_n 0, 1) := by decide +kernel
theorem own_d6_25 : decode prog_26_method_8_code 25 = .ok (.getfield 13, 3) := by decide +kernel
theorem own_d6_28 : decode prog_26_method_8_code 28 = .ok (.iload_n 1, 1) := by decide +kernel
theorem own_d6_29 : decode prog_26_method_8_code 29 = .ok (.iaload, 1) := by decide +kernel
theorem own_d6_30 : decode prog_26_method_8_code 30 = .ok (.if_icmp .ge 22, 3) := by decide +kernel
theorem own_d6_33 : decode prog_26_method_8_code 33 = .ok (.bipush 31, 2) := by decide +kernel
theorem own_d6_35 : decode prog_26_method_8_code 35 = .ok (.iload_n 3, 1) := by decide +kernel
theorem own_d6_36 : decode prog_26_method_8_code 36 = .ok (.imul, 1) := by decide +kernel
theorem own_d6_37 : decode prog_26_method_8_code 37 = .ok (.aload_n 0, 1) := by decide +kernel
theorem own_d6_38 : decode prog_26_method_8_code 38 = .ok (.getfield 7, 3) := by decide +kernel
theorem own_d6_41 : decode prog_26_method_8_code 41 = .ok (.iload 4, 2) := by decide +kernel
theorem own_d6_43 : decode prog_26_method_8_code 43 = .ok (.caload, 1) := by decide +kernel
theorem own_d6_44 : decode prog_26_method_8_code 44 = .ok (.iadd, 1) := by decide +kernel
theorem own_d6_45 : decode prog_26_method_8_code 45 = .ok (.istore_n 3, 1) := by decide +kernel
theorem own_d6_46 : decode prog_26_method_8_code 46 = .ok (.iinc 4 1, 3) := by decide +kernel
theorem own_d6_49 : decode prog_26_method_8_code 49 = .ok (.goto (-27), 3) := by decide +kernel
theorem own_d6_52 : decode prog_26_method_8_code 52 = .ok (.iload_n 3, 1) := by decide +kernel
theorem own_d6_53 : decode prog_26_method_8_code 53 = .ok (.ireturn, 1) := by decide +kernel
theorem own_ef6 (m : MethodId) (a1 : Addr) (p1 : Int32) : entryFrame m #[(.ref a1), (.int p1)] 5 = mkF m 0 #[.val (.ref a1), .val (.int p1), .unset, .unset, .unset] [] := by first | (simp [entryFrame, mkF, argsToLocals, Value.category]; done) | rfl
def own_Q6 (Z : State) (a1 cA eA : Addr) (p1 : Int32) (g fe : Nat → Int32) (i s0 m0 : Nat) (h0 : Heap) (n0 : Nat) (v : Option Value) (h : Heap) (L : List Loc) : Prop := v = some (.int (own_hash g s0 m0)) ∧ Fr n0 L ∧ h = h0
set_option maxRecDepth 65536 in
set_option maxHeartbeats 40000000 in
theorem own_rm6 (l : Launch) (Z : State) (a0 : Array Value) (hw : ∀ d ∈ tables_1, d.before a0 Z = true) (ws : List Jvm.Cond) (a1 cA eA : Addr) (p1 : Int32) (g fe : Nat → Int32) (i s0 m0 : Nat) (h0 : Heap) (n0 : Nat) (Z0 : n0 ≤ h0.size) (pF1 : Fld Z h0 a1 "com/example/rankbucket/rankbucket/IdList" "chars" "[C" (.ref cA)) (pF2 : Fld Z h0 a1 "com/example/rankbucket/rankbucket/IdList" "ends" "[I" (.ref eA)) (pC : own_AI Z h0 cA .char 1024 g) (pN : own_AI Z h0 eA .int 16 fe) (hp : p1.toInt = (i : Int)) (bi : i < 16) (st0 : i = 0 → s0 = 0) (st1 : i ≠ 0 → (fe (i - 1)).toInt = (s0 : Int)) (he : (fe i).toInt = ((s0 + m0 : Nat) : Int)) (bs : s0 + m0 ≤ 1000) :
    MetFree l (⟨"com/example/rankbucket/rankbucket/IdList", "hash", "(I)I"⟩ : MethodName) (head1 (Jvm.Cond.code (⟨"com/example/rankbucket/rankbucket/IdList", "hash", "(I)I"⟩ : MethodName) prog_26_method_8_code 5 (some .int) :: ws) ({ frames := 0, cells := 0, slots := 0, locals := 0 } : Room)) (fun a U => a = #[(.ref a1), (.int p1)] ∧ Z.Warmed39 U.vm ∧ U.heap = h0) (fun _ _ _ _ _ => True) (fun _ U o U' => ∃ v L, o = .returned v ∧ own_Q6 Z a1 cA eA p1 g fe i s0 m0 h0 n0 v U'.heap L ∧ FrameEnd U o U' L ({ frames := 0, cells := 0, slots := 0, locals := 0 } : Room).cells ({ frames := 0, cells := 0, slots := 0, locals := 0 } : Room).slots) := by
  refine MetFree.of_bodySF (plainFor_of_name own_pn0) hisR ?_
  intro p e s m args below meth c s₁ Bd hml0 hP hK
  obtain ⟨rfl, hZ, hh⟩ := hP
  have hx := Bd.exec
  have hby := Bd.bytes
  have hml : c.maxLocals = 5 := hml0
  have hown : s.vm.findClass "com/example/rankbucket/rankbucket/IdList" = some m.cls := findClass_of_methodNamed Bd.named
  have hnm := (name_of_methodNamed Bd.named Bd.method).1
  have X0 : Stand p l e ({ frames := 0, cells := 0, slots := 0, locals := 0 } : Room) s m #[(.ref a1), (.int p1)] below meth c s₁ [] 0 0 := Stand.of_body Bd
  have e0 : s₁.heap = h0 := by rw [← hh, Bd.state]; rfl
  have N0 := Fr.nil n0
  refine own_nm (st := s₁.setTop (entryFrame m #[(.ref a1), (.int p1)] 5)) fun P fin => ?_
  refine own_fwd (fun tt kt => castTop (own_ef6 m a1 p1) kt) ?_
  show own_R p.tables e below P (s₁.setTop (mkF m 0 #[.val (.ref a1), .val (.int p1), .unset, .unset, .unset] []))
  have loop : ∀ (k j : Nat) (st cc : Int32) (T : State) (X : Stand p l e ({ frames := 0, cells := 0, slots := 0, locals := 0 } : Room) s m #[(.ref a1), (.int p1)] below meth c T [] 0 0) (eT : T.heap = h0), j + k = m0 → cc.toInt = ((s0 + j : Nat) : Int) → own_R p.tables e below P (T.setTop (mkF m 22 #[.val (.ref a1), .val (.int p1), .val (.int st), .val (.int (own_hash g s0 j)), .val (.int cc)] [])) := by
    intro k
    induction k with
    | zero =>
      intro j st cc T X eT hj hcc
      refine own_fwd (fun tt kt => XS.iload X.here hx rfl (hb hby own_d6_22) rfl kt) ?_
      show own_R p.tables e below P (T.setTop (mkF m 24 #[.val (.ref a1), .val (.int p1), .val (.int st), .val (.int (own_hash g s0 j)), .val (.int cc)] [(.int cc)]))
      refine own_fwd (fun tt kt => XS.aloadN X.here hx rfl (hb hby own_d6_24) rfl rfl kt) ?_
      show own_R p.tables e below P (T.setTop (mkF m 25 #[.val (.ref a1), .val (.int p1), .val (.int st), .val (.int (own_hash g s0 j)), .val (.int cc)] [(.ref a1), (.int cc)]))
      obtain ⟨T40, X40, e40, st40⟩ := getF X hx hZ hown (host := "") (Or.inl (hw _ (List.mem_of_getElem? (i := 13) rfl))) Via.refl eT pF2 (g := (mkF m 25 #[.val (.ref a1), .val (.int p1), .val (.int st), .val (.int (own_hash g s0 j)), .val (.int cc)] [(.ref a1), (.int cc)])) rfl rfl (hb hby own_d6_25)
      refine own_fwd st40 ?_
      show own_R p.tables e below P (T40.setTop (mkF m 28 #[.val (.ref a1), .val (.int p1), .val (.int st), .val (.int (own_hash g s0 j)), .val (.int cc)] [(.ref eA), (.int cc)]))
      refine own_fwd (fun tt kt => XS.iloadN X40.here hx rfl (hb hby own_d6_28) rfl kt) ?_
      show own_R p.tables e below P (T40.setTop (mkF m 29 #[.val (.ref a1), .val (.int p1), .val (.int st), .val (.int (own_hash g s0 j)), .val (.int cc)] [(.int p1), (.ref eA), (.int cc)]))
      refine own_fwd (own_ldI X40 hx hZ e40 pN (j := p1) i hp bi (g := (mkF m 29 #[.val (.ref a1), .val (.int p1), .val (.int st), .val (.int (own_hash g s0 j)), .val (.int cc)] [(.int p1), (.ref eA), (.int cc)])) rfl rfl (hb hby own_d6_29)) ?_
      show own_R p.tables e below P (T40.setTop (mkF m 30 #[.val (.ref a1), .val (.int p1), .val (.int st), .val (.int (own_hash g s0 j)), .val (.int cc)] [(.int (fe i)), (.int cc)]))
      have hc41 : ¬ (cc < (fe i)) := by rw [Int32.lt_iff_toInt_lt]; omega
      refine own_fwd (fun tt kt => XS.icmpYes X40.here hx rfl (pc0 := 30) (pc' := 52) rfl (hb hby own_d6_30) rfl (flt hc41).2.1 (by decide) (by decide) kt) ?_
      show own_R p.tables e below P (T40.setTop (mkF m 52 #[.val (.ref a1), .val (.int p1), .val (.int st), .val (.int (own_hash g s0 j)), .val (.int cc)] []))
      refine own_fwd (fun tt kt => XS.iloadN X40.here hx rfl (hb hby own_d6_52) rfl kt) ?_
      show own_R p.tables e below P (T40.setTop (mkF m 53 #[.val (.ref a1), .val (.int p1), .val (.int st), .val (.int (own_hash g s0 j)), .val (.int cc)] [(.int (own_hash g s0 j))]))
      obtain ⟨fs42, hr42, hrun42, hended42, hW42, hsame42⟩ := X40.leave (v := some (.int (own_hash g s0 j))) (fun h => by rw [Bd.returns] at h; cases h)
      refine ⟨_, _, X40.ireturnOut hx (w := (own_hash g s0 j)) Bd.returns rfl (by simp) (hb hby own_d6_53) hr42, fin _ _ ⟨hrun42, hended42, _, _, rfl, ?_, ⟨_, rfl⟩, hW42, hsame42.mono (by decide) (by decide)⟩⟩
      show own_Q6 Z a1 cA eA p1 g fe i s0 m0 h0 n0 _ T40.heap _
      rw [e40]
      obtain rfl : j = m0 := by omega
      exact ⟨rfl, N0, rfl⟩
    | succ k ih =>
      intro j st cc T X eT hj hcc
      refine own_fwd (fun tt kt => XS.iload X.here hx rfl (hb hby own_d6_22) rfl kt) ?_
      show own_R p.tables e below P (T.setTop (mkF m 24 #[.val (.ref a1), .val (.int p1), .val (.int st), .val (.int (own_hash g s0 j)), .val (.int cc)] [(.int cc)]))
      refine own_fwd (fun tt kt => XS.aloadN X.here hx rfl (hb hby own_d6_24) rfl rfl kt) ?_
      show own_R p.tables e below P (T.setTop (mkF m 25 #[.val (.ref a1), .val (.int p1), .val (.int st), .val (.int (own_hash g s0 j)), .val (.int cc)] [(.ref a1), (.int cc)]))
      obtain ⟨T43, X43, e43, st43⟩ := getF X hx hZ hown (host := "") (Or.inl (hw _ (List.mem_of_getElem? (i := 13) rfl))) Via.refl eT pF2 (g := (mkF m 25 #[.val (.ref a1), .val (.int p1), .val (.int st), .val (.int (own_hash g s0 j)), .val (.int cc)] [(.ref a1), (.int cc)])) rfl rfl (hb hby own_d6_25)
      refine own_fwd st43 ?_
      show own_R p.tables e below P (T43.setTop (mkF m 28 #[.val (.ref a1), .val (.int p1), .val (.int st), .val (.int (own_hash g s0 j)), .val (.int cc)] [(.ref eA), (.int cc)]))
      refine own_fwd (fun tt kt => XS.iloadN X43.here hx rfl (hb hby own_d6_28) rfl kt) ?_
      show own_R p.tables e below P (T43.setTop (mkF m 29 #[.val (.ref a1), .val (.int p1), .val (.int st), .val (.int (own_hash g s0 j)), .val (.int cc)] [(.int p1), (.ref eA), (.int cc)]))
      refine own_fwd (own_ldI X43 hx hZ e43 pN (j := p1) i hp bi (g := (mkF m 29 #[.val (.ref a1), .val (.int p1), .val (.int st), .val (.int (own_hash g s0 j)), .val (.int cc)] [(.int p1), (.ref eA), (.int cc)])) rfl rfl (hb hby own_d6_29)) ?_
      show own_R p.tables e below P (T43.setTop (mkF m 30 #[.val (.ref a1), .val (.int p1), .val (.int st), .val (.int (own_hash g s0 j)), .val (.int cc)] [(.int (fe i)), (.int cc)]))
      have hc44 : cc < (fe i) := by rw [Int32.lt_iff_toInt_lt]; omega
      refine own_fwd (fun tt kt => XS.icmpNo X43.here hx rfl (hb hby own_d6_30) rfl (tlt hc44).2.1 kt) ?_
      show own_R p.tables e below P (T43.setTop (mkF m 33 #[.val (.ref a1), .val (.int p1), .val (.int st), .val (.int (own_hash g s0 j)), .val (.int cc)] []))
      refine own_fwd (fun tt kt => XS.bipush X43.here hx rfl (hb hby own_d6_33) kt) ?_
      show own_R p.tables e below P (T43.setTop (mkF m 35 #[.val (.ref a1), .val (.int p1), .val (.int st), .val (.int (own_hash g s0 j)), .val (.int cc)] [(.int (31 : Int32))]))
      refine own_fwd (fun tt kt => XS.iloadN X43.here hx rfl (hb hby own_d6_35) rfl kt) ?_
      show own_R p.tables e below P (T43.setTop (mkF m 36 #[.val (.ref a1), .val (.int p1), .val (.int st), .val (.int (own_hash g s0 j)), .val (.int cc)] [(.int (own_hash g s0 j)), (.int (31 : Int32))]))
      refine own_fwd (fun tt kt => XS.imul X43.here hx rfl (hb hby own_d6_36) rfl kt) ?_
      show own_R p.tables e below P (T43.setTop (mkF m 37 #[.val (.ref a1), .val (.int p1), .val (.int st), .val (.int (own_hash g s0 j)), .val (.int cc)] [(.int ((31 : Int32) * (own_hash g s0 j)))]))
      refine own_fwd (fun tt kt => XS.aloadN X43.here hx rfl (hb hby own_d6_37) rfl rfl kt) ?_
      show own_R p.tables e below P (T43.setTop (mkF m 38 #[.val (.ref a1), .val (.int p1), .val (.int st), .val (.int (own_hash g s0 j)), .val (.int cc)] [(.ref a1), (.int ((31 : Int32) * (own_hash g s0 j)))]))
      obtain ⟨T45, X45, e45, st45⟩ := getF X43 hx hZ hown (host := "") (Or.inl (hw _ (List.mem_of_getElem? (i := 10) rfl))) Via.refl e43 pF1 (g := (mkF m 38 #[.val (.ref a1), .val (.int p1), .val (.int st), .val (.int (own_hash g s0 j)), .val (.int cc)] [(.ref a1), (.int ((31 : Int32) * (own_hash g s0 j)))])) rfl rfl (hb hby own_d6_38)
      refine own_fwd st45 ?_
      show own_R p.tables e below P (T45.setTop (mkF m 41 #[.val (.ref a1), .val (.int p1), .val (.int st), .val (.int (own_hash g s0 j)), .val (.int cc)] [(.ref cA), (.int ((31 : Int32) * (own_hash g s0 j)))]))
      refine own_fwd (fun tt kt => XS.iload X45.here hx rfl (hb hby own_d6_41) rfl kt) ?_
      show own_R p.tables e below P (T45.setTop (mkF m 43 #[.val (.ref a1), .val (.int p1), .val (.int st), .val (.int (own_hash g s0 j)), .val (.int cc)] [(.int cc), (.ref cA), (.int ((31 : Int32) * (own_hash g s0 j)))]))
      refine own_fwd (own_ldC X45 hx hZ e45 pC (j := cc) (s0 + j) hcc (by omega) (g := (mkF m 43 #[.val (.ref a1), .val (.int p1), .val (.int st), .val (.int (own_hash g s0 j)), .val (.int cc)] [(.int cc), (.ref cA), (.int ((31 : Int32) * (own_hash g s0 j)))])) rfl rfl (hb hby own_d6_43)) ?_
      show own_R p.tables e below P (T45.setTop (mkF m 44 #[.val (.ref a1), .val (.int p1), .val (.int st), .val (.int (own_hash g s0 j)), .val (.int cc)] [(.int (g (s0 + j))), (.int ((31 : Int32) * (own_hash g s0 j)))]))
      refine own_fwd (fun tt kt => XS.iadd X45.here hx rfl (hb hby own_d6_44) rfl kt) ?_
      show own_R p.tables e below P (T45.setTop (mkF m 45 #[.val (.ref a1), .val (.int p1), .val (.int st), .val (.int (own_hash g s0 j)), .val (.int cc)] [(.int (((31 : Int32) * (own_hash g s0 j)) + (g (s0 + j))))]))
      refine own_fwd (fun tt kt => XS.istoreN X45.here hx rfl (hb hby own_d6_45) rfl (l' := #[.val (.ref a1), .val (.int p1), .val (.int st), .val (.int (((31 : Int32) * (own_hash g s0 j)) + (g (s0 + j)))), .val (.int cc)]) rfl kt) ?_
      show own_R p.tables e below P (T45.setTop (mkF m 46 #[.val (.ref a1), .val (.int p1), .val (.int st), .val (.int (((31 : Int32) * (own_hash g s0 j)) + (g (s0 + j)))), .val (.int cc)] []))
      refine own_fwd (fun tt kt => XS.iinc X45.here hx rfl (hb hby own_d6_46) rfl (l' := #[.val (.ref a1), .val (.int p1), .val (.int st), .val (.int (((31 : Int32) * (own_hash g s0 j)) + (g (s0 + j)))), .val (.int (cc + (1 : Int32)))]) rfl kt) ?_
      show own_R p.tables e below P (T45.setTop (mkF m 49 #[.val (.ref a1), .val (.int p1), .val (.int st), .val (.int (((31 : Int32) * (own_hash g s0 j)) + (g (s0 + j)))), .val (.int (cc + (1 : Int32)))] []))
      refine own_fwd (fun tt kt => XS.goto X45.here hx rfl (pc0 := 49) (pc' := 22) rfl (hb hby own_d6_49) (by decide) (by decide) kt) ?_
      show own_R p.tables e below P (T45.setTop (mkF m 22 #[.val (.ref a1), .val (.int p1), .val (.int st), .val (.int (((31 : Int32) * (own_hash g s0 j)) + (g (s0 + j)))), .val (.int (cc + (1 : Int32)))] []))
      exact ih (j + 1) st _ _ X45 e45 (by omega) (by have q := own_add (j := 1) hcc own_i1 (by omega); rw [Nat.add_assoc] at q; exact q)
  refine own_fwd (fun tt kt => XS.iloadN X0.here hx rfl (hb hby own_d6_0) rfl kt) ?_
  show own_R p.tables e below P (s₁.setTop (mkF m 1 #[.val (.ref a1), .val (.int p1), .unset, .unset, .unset] [(.int p1)]))
  by_cases hc46 : p1 = (0 : Int32)
  · refine own_fwd (fun tt kt => XS.ifNo X0.here hx rfl (hb hby own_d6_1) rfl ((if0 _ _).trans (teq hc46).2) kt) ?_
    show own_R p.tables e below P (s₁.setTop (mkF m 4 #[.val (.ref a1), .val (.int p1), .unset, .unset, .unset] []))
    have kz : i = 0 := by have q := hc46; rw [q, own_i0] at hp; omega
    refine own_fwd (fun tt kt => XS.iconst X0.here hx rfl (hb hby own_d6_4) kt) ?_
    show own_R p.tables e below P (s₁.setTop (mkF m 5 #[.val (.ref a1), .val (.int p1), .unset, .unset, .unset] [(.int (0 : Int32))]))
    refine own_fwd (fun tt kt => XS.goto X0.here hx rfl (pc0 := 5) (pc' := 16) rfl (hb hby own_d6_5) (by decide) (by decide) kt) ?_
    show own_R p.tables e below P (s₁.setTop (mkF m 16 #[.val (.ref a1), .val (.int p1), .unset, .unset, .unset] [(.int (0 : Int32))]))
    refine own_fwd (fun tt kt => XS.istoreN X0.here hx rfl (hb hby own_d6_16) rfl (l' := #[.val (.ref a1), .val (.int p1), .val (.int (0 : Int32)), .unset, .unset]) rfl kt) ?_
    show own_R p.tables e below P (s₁.setTop (mkF m 17 #[.val (.ref a1), .val (.int p1), .val (.int (0 : Int32)), .unset, .unset] []))
    refine own_fwd (fun tt kt => XS.iconst X0.here hx rfl (hb hby own_d6_17) kt) ?_
    show own_R p.tables e below P (s₁.setTop (mkF m 18 #[.val (.ref a1), .val (.int p1), .val (.int (0 : Int32)), .unset, .unset] [(.int (0 : Int32))]))
    refine own_fwd (fun tt kt => XS.istoreN X0.here hx rfl (hb hby own_d6_18) rfl (l' := #[.val (.ref a1), .val (.int p1), .val (.int (0 : Int32)), .val (.int (0 : Int32)), .unset]) rfl kt) ?_
    show own_R p.tables e below P (s₁.setTop (mkF m 19 #[.val (.ref a1), .val (.int p1), .val (.int (0 : Int32)), .val (.int (0 : Int32)), .unset] []))
    refine own_fwd (fun tt kt => XS.iloadN X0.here hx rfl (hb hby own_d6_19) rfl kt) ?_
    show own_R p.tables e below P (s₁.setTop (mkF m 20 #[.val (.ref a1), .val (.int p1), .val (.int (0 : Int32)), .val (.int (0 : Int32)), .unset] [(.int (0 : Int32))]))
    refine own_fwd (fun tt kt => XS.istore X0.here hx rfl (hb hby own_d6_20) rfl (l' := #[.val (.ref a1), .val (.int p1), .val (.int (0 : Int32)), .val (.int (0 : Int32)), .val (.int (0 : Int32))]) rfl kt) ?_
    show own_R p.tables e below P (s₁.setTop (mkF m 22 #[.val (.ref a1), .val (.int p1), .val (.int (0 : Int32)), .val (.int (0 : Int32)), .val (.int (0 : Int32))] []))
    exact loop m0 0 (0 : Int32) (0 : Int32) _ X0 e0 (by omega) (by rw [st0 kz]; rfl)
  · refine own_fwd (fun tt kt => XS.ifYes X0.here hx rfl (pc0 := 1) (pc' := 8) rfl (hb hby own_d6_1) rfl ((if0 _ _).trans (feq hc46).2) (by decide) (by decide) kt) ?_
    show own_R p.tables e below P (s₁.setTop (mkF m 8 #[.val (.ref a1), .val (.int p1), .unset, .unset, .unset] []))
    have kz : i ≠ 0 := fun q => hc46 (by rw [← Int32.toInt_inj, hp, own_i0, q]; rfl)
    refine own_fwd (fun tt kt => XS.aloadN X0.here hx rfl (hb hby own_d6_8) rfl rfl kt) ?_
    show own_R p.tables e below P (s₁.setTop (mkF m 9 #[.val (.ref a1), .val (.int p1), .unset, .unset, .unset] [(.ref a1)]))
    obtain ⟨T47, X47, e47, st47⟩ := getF X0 hx hZ hown (host := "") (Or.inl (hw _ (List.mem_of_getElem? (i := 13) rfl))) Via.refl e0 pF2 (g := (mkF m 9 #[.val (.ref a1), .val (.int p1), .unset, .unset, .unset] [(.ref a1)])) rfl rfl (hb hby own_d6_9)
    refine own_fwd st47 ?_
    show own_R p.tables e below P (T47.setTop (mkF m 12 #[.val (.ref a1), .val (.int p1), .unset, .unset, .unset] [(.ref eA)]))
    refine own_fwd (fun tt kt => XS.iloadN X47.here hx rfl (hb hby own_d6_12) rfl kt) ?_
    show own_R p.tables e below P (T47.setTop (mkF m 13 #[.val (.ref a1), .val (.int p1), .unset, .unset, .unset] [(.int p1), (.ref eA)]))
    refine own_fwd (fun tt kt => XS.iconst X47.here hx rfl (hb hby own_d6_13) kt) ?_
    show own_R p.tables e below P (T47.setTop (mkF m 14 #[.val (.ref a1), .val (.int p1), .unset, .unset, .unset] [(.int (1 : Int32)), (.int p1), (.ref eA)]))
    refine own_fwd (fun tt kt => XS.isub X47.here hx rfl (hb hby own_d6_14) rfl kt) ?_
    show own_R p.tables e below P (T47.setTop (mkF m 15 #[.val (.ref a1), .val (.int p1), .unset, .unset, .unset] [(.int (p1 - (1 : Int32))), (.ref eA)]))
    refine own_fwd (own_ldI X47 hx hZ e47 pN (j := (p1 - (1 : Int32))) (i - 1) (own_pred hp kz) (by omega) (g := (mkF m 15 #[.val (.ref a1), .val (.int p1), .unset, .unset, .unset] [(.int (p1 - (1 : Int32))), (.ref eA)])) rfl rfl (hb hby own_d6_15)) ?_
    show own_R p.tables e below P (T47.setTop (mkF m 16 #[.val (.ref a1), .val (.int p1), .unset, .unset, .unset] [(.int (fe (i - 1)))]))
    refine own_fwd (fun tt kt => XS.istoreN X47.here hx rfl (hb hby own_d6_16) rfl (l' := #[.val (.ref a1), .val (.int p1), .val (.int (fe (i - 1))), .unset, .unset]) rfl kt) ?_
    show own_R p.tables e below P (T47.setTop (mkF m 17 #[.val (.ref a1), .val (.int p1), .val (.int (fe (i - 1))), .unset, .unset] []))
    refine own_fwd (fun tt kt => XS.iconst X47.here hx rfl (hb hby own_d6_17) kt) ?_
    show own_R p.tables e below P (T47.setTop (mkF m 18 #[.val (.ref a1), .val (.int p1), .val (.int (fe (i - 1))), .unset, .unset] [(.int (0 : Int32))]))
    refine own_fwd (fun tt kt => XS.istoreN X47.here hx rfl (hb hby own_d6_18) rfl (l' := #[.val (.ref a1), .val (.int p1), .val (.int (fe (i - 1))), .val (.int (0 : Int32)), .unset]) rfl kt) ?_
    show own_R p.tables e below P (T47.setTop (mkF m 19 #[.val (.ref a1), .val (.int p1), .val (.int (fe (i - 1))), .val (.int (0 : Int32)), .unset] []))
    refine own_fwd (fun tt kt => XS.iloadN X47.here hx rfl (hb hby own_d6_19) rfl kt) ?_
    show own_R p.tables e below P (T47.setTop (mkF m 20 #[.val (.ref a1), .val (.int p1), .val (.int (fe (i - 1))), .val (.int (0 : Int32)), .unset] [(.int (fe (i - 1)))]))
    refine own_fwd (fun tt kt => XS.istore X47.here hx rfl (hb hby own_d6_20) rfl (l' := #[.val (.ref a1), .val (.int p1), .val (.int (fe (i - 1))), .val (.int (0 : Int32)), .val (.int (fe (i - 1)))]) rfl kt) ?_
    show own_R p.tables e below P (T47.setTop (mkF m 22 #[.val (.ref a1), .val (.int p1), .val (.int (fe (i - 1))), .val (.int (0 : Int32)), .val (.int (fe (i - 1)))] []))
    exact loop m0 0 (fe (i - 1)) (fe (i - 1)) _ X47 e47 (by omega) (by rw [st1 kz]; rfl)
theorem own_d7_0 : decode method_3_code 0 = .ok (.iload_n 1, 1) := by decide +kernel
theorem own_d7_1 : decode method_3_code 1 = .ok (.ifCond .ne 5, 3) := by decide +kernel
theorem own_d7_4 : decode method_3_code 4 = .ok (.iconst 0, 1) := by decide +kernel
theorem own_d7_5 : decode method_3_code 5 = .ok (.ireturn, 1) := by decide +kernel
theorem own_d7_6 : decode method_3_code 6 = .ok (.aload_n 0, 1) := by decide +kernel
theorem own_d7_7 : decode method_3_code 7 = .ok (.iconst 0, 1) := by decide +kernel
theorem own_d7_8 : decode method_3_code 8 = .ok (.caload, 1) := by decide +kernel
theorem own_d7_9 : decode method_3_code 9 = .ok (.istore_n 2, 1) := by decide +kernel
theorem own_d7_10 : decode method_3_code 10 = .ok (.iload_n 1, 1) := by decide +kernel
theorem own_d7_11 : decode method_3_code 11 = .ok (.iconst 1, 1) := by decide +kernel
theorem own_d7_12 : decode method_3_code 12 = .ok (.if_icmp .ne 5, 3) := by decide +kernel
theorem own_d7_15 : decode method_3_code 15 = .ok (.iload_n 2, 1) := by decide +kernel
theorem own_d7_16 : decode method_3_code 16 = .ok (.ireturn, 1) := by decide +kernel
theorem own_d7_17 : decode method_3_code 17 = .ok (.aload_n 0, 1) := by decide +kernel
theorem own_d7_18 : decode method_3_code 18 = .ok (.iconst 1, 1) := by decide +kernel
theorem own_d7_19 : decode method_3_code 19 = .ok (.caload, 1) := by decide +kernel
theorem own_d7_20 : decode method_3_code 20 = .ok (.istore_n 3, 1) := by decide +kernel
theorem own_d7_21 : decode method_3_code 21 = .ok (.iload_n 1, 1) := by decide +kernel
theorem own_d7_22 : decode method_3_code 22 = .ok (.iconst 2, 1) := by decide +kernel
theorem own_d7_23 : decode method_3_code 23 = .ok (.if_icmp .ne 10, 3) := by decide +kernel
theorem own_d7_26 : decode method_3_code 26 = .ok (.bipush 31, 2) := by decide +kernel
theorem own_d7_28 : decode method_3_code 28 = .ok (.iload_n 2, 1) := by decide +kernel
theorem own_d7_29 : decode method_3_code 29 = .ok (.imul, 1) := by decide +kernel
theorem own_d7_30 : decode method_3_code 30 = .ok (.iload_n 3, 1) := by decide +kernel
theorem own_d7_31 : decode method_3_code 31 = .ok (.iadd, 1) := by decide +kernel
theorem own_d7_32 : decode method_3_code 32 = .ok (.ireturn, 1) := by decide +kernel
theorem own_d7_33 : decode method_3_code 33 = .ok (.aload_n 0, 1) := by decide +kernel
theorem own_d7_34 : decode method_3_code 34 = .ok (.iconst 2, 1) := by decide +kernel
theorem own_d7_35 : decode method_3_code 35 = .ok (.caload, 1) := by decide +kernel
theorem own_d7_36 : decode method_3_code 36 = .ok (.istore 4, 2) := by decide +kernel
theorem own_d7_38 : decode method_3_code 38 = .ok (.sipush 961, 3) := by decide +kernel
theorem own_d7_41 : decode method_3_code 41 = .ok (.iload_n 2, 1) := by decide +kernel
theorem own_d7_42 : decode method_3_code 42 = .ok (.imul, 1) := by decide +kernel
theorem own_d7_43 : decode method_3_code 43 = .ok (.bipush 31, 2) := by decide +kernel
theorem own_d7_45 : decode method_3_code 45 = .ok (.iload_n 3, 1) := by decide +kernel
theorem own_d7_46 : decode method_3_code 46 = .ok (.imul, 1) := by decide +kernel
theorem own_d7_47 : decode method_3_code 47 = .ok (.iadd, 1) := by decide +kernel
theorem own_d7_48 : decode method_3_code 48 = .ok (.iload 4, 2) := by decide +kernel
theorem own_d7_50 : decode method_3_code 50 = .ok (.iadd, 1) := by decide +kernel
theorem own_d7_51 : decode method_3_code 51 = .ok (.ireturn, 1) := by decide +kernel
theorem own_pn1 : plainName "com/example/rankbucket/rankbucket/IdListHashPinLaw" = true := by first | (simp [plainName, overriddenIn]; done) | decide +kernel
theorem own_ef7 (m : MethodId) (a1 : Addr) (p1 : Int32) : entryFrame m #[(.ref a1), (.int p1)] 5 = mkF m 0 #[.val (.ref a1), .val (.int p1), .unset, .unset, .unset] [] := by first | (simp [entryFrame, mkF, argsToLocals, Value.category]; done) | rfl
def own_Q7 (Z : State) (a1 : Addr) (p1 : Int32) (f : Nat → Int32) (n : Nat) (h0 : Heap) (n0 : Nat) (v : Option Value) (h : Heap) (L : List Loc) : Prop := v = some (.int (own_hash f 0 n)) ∧ Fr n0 L ∧ h = h0
set_option maxRecDepth 65536 in
set_option maxHeartbeats 40000000 in
theorem own_rm7 (l : Launch) (Z : State) (a0 : Array Value) (hw : ∀ d ∈ tables_1, d.before a0 Z = true) (ws : List Jvm.Cond) (a1 : Addr) (p1 : Int32) (f : Nat → Int32) (n : Nat) (h0 : Heap) (n0 : Nat) (Z0 : n0 ≤ h0.size) (pA : own_AI Z h0 a1 .char 3 f) (hp : p1.toInt = (n : Int)) (bn : n ≤ 3) :
    MetFree l (⟨"com/example/rankbucket/rankbucket/IdListHashPinLaw", "ref", "([CI)I"⟩ : MethodName) (head1 (Jvm.Cond.code (⟨"com/example/rankbucket/rankbucket/IdListHashPinLaw", "ref", "([CI)I"⟩ : MethodName) method_3_code 5 (some .int) :: ws) ({ frames := 0, cells := 0, slots := 0, locals := 0 } : Room)) (fun a U => a = #[(.ref a1), (.int p1)] ∧ Z.Warmed39 U.vm ∧ U.heap = h0) (fun _ _ _ _ _ => True) (fun _ U o U' => ∃ v L, o = .returned v ∧ own_Q7 Z a1 p1 f n h0 n0 v U'.heap L ∧ FrameEnd U o U' L ({ frames := 0, cells := 0, slots := 0, locals := 0 } : Room).cells ({ frames := 0, cells := 0, slots := 0, locals := 0 } : Room).slots) := by
  refine MetFree.of_bodySF (plainFor_of_name own_pn1) hisR ?_
  intro p e s m args below meth c s₁ Bd hml0 hP hK
  obtain ⟨rfl, hZ, hh⟩ := hP
  have hx := Bd.exec
  have hby := Bd.bytes
  have hml : c.maxLocals = 5 := hml0
  have hown : s.vm.findClass "com/example/rankbucket/rankbucket/IdListHashPinLaw" = some m.cls := findClass_of_methodNamed Bd.named
  have hnm := (name_of_methodNamed Bd.named Bd.method).1
  have X0 : Stand p l e ({ frames := 0, cells := 0, slots := 0, locals := 0 } : Room) s m #[(.ref a1), (.int p1)] below meth c s₁ [] 0 0 := Stand.of_body Bd
  have e0 : s₁.heap = h0 := by rw [← hh, Bd.state]; rfl
  have N0 := Fr.nil n0
  refine own_nm (st := s₁.setTop (entryFrame m #[(.ref a1), (.int p1)] 5)) fun P fin => ?_
  refine own_fwd (fun tt kt => castTop (own_ef7 m a1 p1) kt) ?_
  show own_R p.tables e below P (s₁.setTop (mkF m 0 #[.val (.ref a1), .val (.int p1), .unset, .unset, .unset] []))
  refine own_fwd (fun tt kt => XS.iloadN X0.here hx rfl (hb hby own_d7_0) rfl kt) ?_
  show own_R p.tables e below P (s₁.setTop (mkF m 1 #[.val (.ref a1), .val (.int p1), .unset, .unset, .unset] [(.int p1)]))
  by_cases hc48 : p1 = (0 : Int32)
  · refine own_fwd (fun tt kt => XS.ifNo X0.here hx rfl (hb hby own_d7_1) rfl ((if0 _ _).trans (teq hc48).2) kt) ?_
    show own_R p.tables e below P (s₁.setTop (mkF m 4 #[.val (.ref a1), .val (.int p1), .unset, .unset, .unset] []))
    refine own_fwd (fun tt kt => XS.iconst X0.here hx rfl (hb hby own_d7_4) kt) ?_
    show own_R p.tables e below P (s₁.setTop (mkF m 5 #[.val (.ref a1), .val (.int p1), .unset, .unset, .unset] [(.int (0 : Int32))]))
    obtain ⟨fs49, hr49, hrun49, hended49, hW49, hsame49⟩ := X0.leave (v := some (.int (0 : Int32))) (fun h => by rw [Bd.returns] at h; cases h)
    refine ⟨_, _, X0.ireturnOut hx (w := (0 : Int32)) Bd.returns rfl (by simp) (hb hby own_d7_5) hr49, fin _ _ ⟨hrun49, hended49, _, _, rfl, ?_, ⟨_, rfl⟩, hW49, hsame49.mono (by decide) (by decide)⟩⟩
    show own_Q7 Z a1 p1 f n h0 n0 _ s₁.heap _
    rw [e0]
    obtain rfl : n = 0 := by rw [hc48] at hp; rw [own_i0] at hp; omega
    exact ⟨rfl, N0, rfl⟩
  · refine own_fwd (fun tt kt => XS.ifYes X0.here hx rfl (pc0 := 1) (pc' := 6) rfl (hb hby own_d7_1) rfl ((if0 _ _).trans (feq hc48).2) (by decide) (by decide) kt) ?_
    show own_R p.tables e below P (s₁.setTop (mkF m 6 #[.val (.ref a1), .val (.int p1), .unset, .unset, .unset] []))
    refine own_fwd (fun tt kt => XS.aloadN X0.here hx rfl (hb hby own_d7_6) rfl rfl kt) ?_
    show own_R p.tables e below P (s₁.setTop (mkF m 7 #[.val (.ref a1), .val (.int p1), .unset, .unset, .unset] [(.ref a1)]))
    refine own_fwd (fun tt kt => XS.iconst X0.here hx rfl (hb hby own_d7_7) kt) ?_
    show own_R p.tables e below P (s₁.setTop (mkF m 8 #[.val (.ref a1), .val (.int p1), .unset, .unset, .unset] [(.int (0 : Int32)), (.ref a1)]))
    refine own_fwd (own_ldC X0 hx hZ e0 pA (j := (0 : Int32)) 0 (by decide) (by decide) (g := (mkF m 8 #[.val (.ref a1), .val (.int p1), .unset, .unset, .unset] [(.int (0 : Int32)), (.ref a1)])) rfl rfl (hb hby own_d7_8)) ?_
    show own_R p.tables e below P (s₁.setTop (mkF m 9 #[.val (.ref a1), .val (.int p1), .unset, .unset, .unset] [(.int (f 0))]))
    refine own_fwd (fun tt kt => XS.istoreN X0.here hx rfl (hb hby own_d7_9) rfl (l' := #[.val (.ref a1), .val (.int p1), .val (.int (f 0)), .unset, .unset]) rfl kt) ?_
    show own_R p.tables e below P (s₁.setTop (mkF m 10 #[.val (.ref a1), .val (.int p1), .val (.int (f 0)), .unset, .unset] []))
    refine own_fwd (fun tt kt => XS.iloadN X0.here hx rfl (hb hby own_d7_10) rfl kt) ?_
    show own_R p.tables e below P (s₁.setTop (mkF m 11 #[.val (.ref a1), .val (.int p1), .val (.int (f 0)), .unset, .unset] [(.int p1)]))
    refine own_fwd (fun tt kt => XS.iconst X0.here hx rfl (hb hby own_d7_11) kt) ?_
    show own_R p.tables e below P (s₁.setTop (mkF m 12 #[.val (.ref a1), .val (.int p1), .val (.int (f 0)), .unset, .unset] [(.int (1 : Int32)), (.int p1)]))
    by_cases hc50 : p1 = (1 : Int32)
    · refine own_fwd (fun tt kt => XS.icmpNo X0.here hx rfl (hb hby own_d7_12) rfl (teq hc50).2 kt) ?_
      show own_R p.tables e below P (s₁.setTop (mkF m 15 #[.val (.ref a1), .val (.int p1), .val (.int (f 0)), .unset, .unset] []))
      refine own_fwd (fun tt kt => XS.iloadN X0.here hx rfl (hb hby own_d7_15) rfl kt) ?_
      show own_R p.tables e below P (s₁.setTop (mkF m 16 #[.val (.ref a1), .val (.int p1), .val (.int (f 0)), .unset, .unset] [(.int (f 0))]))
      obtain ⟨fs51, hr51, hrun51, hended51, hW51, hsame51⟩ := X0.leave (v := some (.int (f 0))) (fun h => by rw [Bd.returns] at h; cases h)
      refine ⟨_, _, X0.ireturnOut hx (w := (f 0)) Bd.returns rfl (by simp) (hb hby own_d7_16) hr51, fin _ _ ⟨hrun51, hended51, _, _, rfl, ?_, ⟨_, rfl⟩, hW51, hsame51.mono (by decide) (by decide)⟩⟩
      show own_Q7 Z a1 p1 f n h0 n0 _ s₁.heap _
      rw [e0]
      obtain rfl : n = 1 := by rw [hc50, own_i1] at hp; omega
      exact ⟨by rw [own_h1], N0, rfl⟩
    · refine own_fwd (fun tt kt => XS.icmpYes X0.here hx rfl (pc0 := 12) (pc' := 17) rfl (hb hby own_d7_12) rfl (feq hc50).2 (by decide) (by decide) kt) ?_
      show own_R p.tables e below P (s₁.setTop (mkF m 17 #[.val (.ref a1), .val (.int p1), .val (.int (f 0)), .unset, .unset] []))
      refine own_fwd (fun tt kt => XS.aloadN X0.here hx rfl (hb hby own_d7_17) rfl rfl kt) ?_
      show own_R p.tables e below P (s₁.setTop (mkF m 18 #[.val (.ref a1), .val (.int p1), .val (.int (f 0)), .unset, .unset] [(.ref a1)]))
      refine own_fwd (fun tt kt => XS.iconst X0.here hx rfl (hb hby own_d7_18) kt) ?_
      show own_R p.tables e below P (s₁.setTop (mkF m 19 #[.val (.ref a1), .val (.int p1), .val (.int (f 0)), .unset, .unset] [(.int (1 : Int32)), (.ref a1)]))
      refine own_fwd (own_ldC X0 hx hZ e0 pA (j := (1 : Int32)) 1 (by decide) (by decide) (g := (mkF m 19 #[.val (.ref a1), .val (.int p1), .val (.int (f 0)), .unset, .unset] [(.int (1 : Int32)), (.ref a1)])) rfl rfl (hb hby own_d7_19)) ?_
      show own_R p.tables e below P (s₁.setTop (mkF m 20 #[.val (.ref a1), .val (.int p1), .val (.int (f 0)), .unset, .unset] [(.int (f 1))]))
      refine own_fwd (fun tt kt => XS.istoreN X0.here hx rfl (hb hby own_d7_20) rfl (l' := #[.val (.ref a1), .val (.int p1), .val (.int (f 0)), .val (.int (f 1)), .unset]) rfl kt) ?_
      show own_R p.tables e below P (s₁.setTop (mkF m 21 #[.val (.ref a1), .val (.int p1), .val (.int (f 0)), .val (.int (f 1)), .unset] []))
      refine own_fwd (fun tt kt => XS.iloadN X0.here hx rfl (hb hby own_d7_21) rfl kt) ?_
      show own_R p.tables e below P (s₁.setTop (mkF m 22 #[.val (.ref a1), .val (.int p1), .val (.int (f 0)), .val (.int (f 1)), .unset] [(.int p1)]))
      refine own_fwd (fun tt kt => XS.iconst X0.here hx rfl (hb hby own_d7_22) kt) ?_
      show own_R p.tables e below P (s₁.setTop (mkF m 23 #[.val (.ref a1), .val (.int p1), .val (.int (f 0)), .val (.int (f 1)), .unset] [(.int (2 : Int32)), (.int p1)]))
      by_cases hc52 : p1 = (2 : Int32)
      · refine own_fwd (fun tt kt => XS.icmpNo X0.here hx rfl (hb hby own_d7_23) rfl (teq hc52).2 kt) ?_
        show own_R p.tables e below P (s₁.setTop (mkF m 26 #[.val (.ref a1), .val (.int p1), .val (.int (f 0)), .val (.int (f 1)), .unset] []))
        refine own_fwd (fun tt kt => XS.bipush X0.here hx rfl (hb hby own_d7_26) kt) ?_
        show own_R p.tables e below P (s₁.setTop (mkF m 28 #[.val (.ref a1), .val (.int p1), .val (.int (f 0)), .val (.int (f 1)), .unset] [(.int (31 : Int32))]))
        refine own_fwd (fun tt kt => XS.iloadN X0.here hx rfl (hb hby own_d7_28) rfl kt) ?_
        show own_R p.tables e below P (s₁.setTop (mkF m 29 #[.val (.ref a1), .val (.int p1), .val (.int (f 0)), .val (.int (f 1)), .unset] [(.int (f 0)), (.int (31 : Int32))]))
        refine own_fwd (fun tt kt => XS.imul X0.here hx rfl (hb hby own_d7_29) rfl kt) ?_
        show own_R p.tables e below P (s₁.setTop (mkF m 30 #[.val (.ref a1), .val (.int p1), .val (.int (f 0)), .val (.int (f 1)), .unset] [(.int ((31 : Int32) * (f 0)))]))
        refine own_fwd (fun tt kt => XS.iloadN X0.here hx rfl (hb hby own_d7_30) rfl kt) ?_
        show own_R p.tables e below P (s₁.setTop (mkF m 31 #[.val (.ref a1), .val (.int p1), .val (.int (f 0)), .val (.int (f 1)), .unset] [(.int (f 1)), (.int ((31 : Int32) * (f 0)))]))
        refine own_fwd (fun tt kt => XS.iadd X0.here hx rfl (hb hby own_d7_31) rfl kt) ?_
        show own_R p.tables e below P (s₁.setTop (mkF m 32 #[.val (.ref a1), .val (.int p1), .val (.int (f 0)), .val (.int (f 1)), .unset] [(.int (((31 : Int32) * (f 0)) + (f 1)))]))
        obtain ⟨fs53, hr53, hrun53, hended53, hW53, hsame53⟩ := X0.leave (v := some (.int (((31 : Int32) * (f 0)) + (f 1)))) (fun h => by rw [Bd.returns] at h; cases h)
        refine ⟨_, _, X0.ireturnOut hx (w := (((31 : Int32) * (f 0)) + (f 1))) Bd.returns rfl (by simp) (hb hby own_d7_32) hr53, fin _ _ ⟨hrun53, hended53, _, _, rfl, ?_, ⟨_, rfl⟩, hW53, hsame53.mono (by decide) (by decide)⟩⟩
        show own_Q7 Z a1 p1 f n h0 n0 _ s₁.heap _
        rw [e0]
        obtain rfl : n = 2 := by rw [hc52] at hp; have q : (2 : Int32).toInt = 2 := rfl; omega
        exact ⟨by rw [own_h2], N0, rfl⟩
      · refine own_fwd (fun tt kt => XS.icmpYes X0.here hx rfl (pc0 := 23) (pc' := 33) rfl (hb hby own_d7_23) rfl (feq hc52).2 (by decide) (by decide) kt) ?_
        show own_R p.tables e below P (s₁.setTop (mkF m 33 #[.val (.ref a1), .val (.int p1), .val (.int (f 0)), .val (.int (f 1)), .unset] []))
        refine own_fwd (fun tt kt => XS.aloadN X0.here hx rfl (hb hby own_d7_33) rfl rfl kt) ?_
        show own_R p.tables e below P (s₁.setTop (mkF m 34 #[.val (.ref a1), .val (.int p1), .val (.int (f 0)), .val (.int (f 1)), .unset] [(.ref a1)]))
        refine own_fwd (fun tt kt => XS.iconst X0.here hx rfl (hb hby own_d7_34) kt) ?_
        show own_R p.tables e below P (s₁.setTop (mkF m 35 #[.val (.ref a1), .val (.int p1), .val (.int (f 0)), .val (.int (f 1)), .unset] [(.int (2 : Int32)), (.ref a1)]))
        refine own_fwd (own_ldC X0 hx hZ e0 pA (j := (2 : Int32)) 2 (by decide) (by decide) (g := (mkF m 35 #[.val (.ref a1), .val (.int p1), .val (.int (f 0)), .val (.int (f 1)), .unset] [(.int (2 : Int32)), (.ref a1)])) rfl rfl (hb hby own_d7_35)) ?_
        show own_R p.tables e below P (s₁.setTop (mkF m 36 #[.val (.ref a1), .val (.int p1), .val (.int (f 0)), .val (.int (f 1)), .unset] [(.int (f 2))]))
        refine own_fwd (fun tt kt => XS.istore X0.here hx rfl (hb hby own_d7_36) rfl (l' := #[.val (.ref a1), .val (.int p1), .val (.int (f 0)), .val (.int (f 1)), .val (.int (f 2))]) rfl kt) ?_
        show own_R p.tables e below P (s₁.setTop (mkF m 38 #[.val (.ref a1), .val (.int p1), .val (.int (f 0)), .val (.int (f 1)), .val (.int (f 2))] []))
        refine own_fwd (fun tt kt => XS.sipush X0.here hx rfl (hb hby own_d7_38) kt) ?_
        show own_R p.tables e below P (s₁.setTop (mkF m 41 #[.val (.ref a1), .val (.int p1), .val (.int (f 0)), .val (.int (f 1)), .val (.int (f 2))] [(.int (961 : Int32))]))
        refine own_fwd (fun tt kt => XS.iloadN X0.here hx rfl (hb hby own_d7_41) rfl kt) ?_
        show own_R p.tables e below P (s₁.setTop (mkF m 42 #[.val (.ref a1), .val (.int p1), .val (.int (f 0)), .val (.int (f 1)), .val (.int (f 2))] [(.int (f 0)), (.int (961 : Int32))]))
        refine own_fwd (fun tt kt => XS.imul X0.here hx rfl (hb hby own_d7_42) rfl kt) ?_
        show own_R p.tables e below P (s₁.setTop (mkF m 43 #[.val (.ref a1), .val (.int p1), .val (.int (f 0)), .val (.int (f 1)), .val (.int (f 2))] [(.int ((961 : Int32) * (f 0)))]))
        refine own_fwd (fun tt kt => XS.bipush X0.here hx rfl (hb hby own_d7_43) kt) ?_
        show own_R p.tables e below P (s₁.setTop (mkF m 45 #[.val (.ref a1), .val (.int p1), .val (.int (f 0)), .val (.int (f 1)), .val (.int (f 2))] [(.int (31 : Int32)), (.int ((961 : Int32) * (f 0)))]))
        refine own_fwd (fun tt kt => XS.iloadN X0.here hx rfl (hb hby own_d7_45) rfl kt) ?_
        show own_R p.tables e below P (s₁.setTop (mkF m 46 #[.val (.ref a1), .val (.int p1), .val (.int (f 0)), .val (.int (f 1)), .val (.int (f 2))] [(.int (f 1)), (.int (31 : Int32)), (.int ((961 : Int32) * (f 0)))]))
        refine own_fwd (fun tt kt => XS.imul X0.here hx rfl (hb hby own_d7_46) rfl kt) ?_
        show own_R p.tables e below P (s₁.setTop (mkF m 47 #[.val (.ref a1), .val (.int p1), .val (.int (f 0)), .val (.int (f 1)), .val (.int (f 2))] [(.int ((31 : Int32) * (f 1))), (.int ((961 : Int32) * (f 0)))]))
        refine own_fwd (fun tt kt => XS.iadd X0.here hx rfl (hb hby own_d7_47) rfl kt) ?_
        show own_R p.tables e below P (s₁.setTop (mkF m 48 #[.val (.ref a1), .val (.int p1), .val (.int (f 0)), .val (.int (f 1)), .val (.int (f 2))] [(.int (((961 : Int32) * (f 0)) + ((31 : Int32) * (f 1))))]))
        refine own_fwd (fun tt kt => XS.iload X0.here hx rfl (hb hby own_d7_48) rfl kt) ?_
        show own_R p.tables e below P (s₁.setTop (mkF m 50 #[.val (.ref a1), .val (.int p1), .val (.int (f 0)), .val (.int (f 1)), .val (.int (f 2))] [(.int (f 2)), (.int (((961 : Int32) * (f 0)) + ((31 : Int32) * (f 1))))]))
        refine own_fwd (fun tt kt => XS.iadd X0.here hx rfl (hb hby own_d7_50) rfl kt) ?_
        show own_R p.tables e below P (s₁.setTop (mkF m 51 #[.val (.ref a1), .val (.int p1), .val (.int (f 0)), .val (.int (f 1)), .val (.int (f 2))] [(.int ((((961 : Int32) * (f 0)) + ((31 : Int32) * (f 1))) + (f 2)))]))
        obtain ⟨fs54, hr54, hrun54, hended54, hW54, hsame54⟩ := X0.leave (v := some (.int ((((961 : Int32) * (f 0)) + ((31 : Int32) * (f 1))) + (f 2)))) (fun h => by rw [Bd.returns] at h; cases h)
        refine ⟨_, _, X0.ireturnOut hx (w := ((((961 : Int32) * (f 0)) + ((31 : Int32) * (f 1))) + (f 2))) Bd.returns rfl (by simp) (hb hby own_d7_51) hr54, fin _ _ ⟨hrun54, hended54, _, _, rfl, ?_, ⟨_, rfl⟩, hW54, hsame54.mono (by decide) (by decide)⟩⟩
        show own_Q7 Z a1 p1 f n h0 n0 _ s₁.heap _
        rw [e0]
        obtain rfl : n = 3 := by have q0 : n ≠ 0 := fun q => hc48 (by rw [← Int32.toInt_inj, hp, q]; rfl); have q1 : n ≠ 1 := fun q => hc50 (by rw [← Int32.toInt_inj, hp, q]; rfl); have q2 : n ≠ 2 := fun q => hc52 (by rw [← Int32.toInt_inj, hp, q]; rfl); omega
        exact ⟨by rw [own_h3], N0, rfl⟩
theorem own_n3 (x : Int32) : ∃ n : Nat, (x &&& (3 : Int32)).toInt = (n : Int) ∧ n ≤ 3 := by
  have h := c_mask x 3 2 (by decide) (by decide)
  have e : ((2 ^ 2 : Nat) : Int) = 4 := by decide
  rw [e] at h
  exact ⟨(x &&& (3 : Int32)).toInt.toNat, by omega, by omega⟩
theorem own_pd2 : parseMethodDescriptor "()V" = some ⟨[], none⟩ := by decide +kernel
theorem own_pd3 : parseMethodDescriptor "([CI)V" = some ⟨[(.array .char), .int], none⟩ := by decide +kernel
theorem own_pd4 : parseMethodDescriptor "([CI)I" = some ⟨[(.array .char), .int], some .int⟩ := by decide +kernel
theorem own_eflaw (m : MethodId) (p0 : Int32) (p1 : Int32) (p2 : Int32) (p3 : Int32) (p4 : Int32) (p5 : Int32) : entryFrame m #[(.int p0), (.int p1), (.int p2), (.int p3), (.int p4), (.int p5)] maxLocals = mkF m 0 #[.val (.int p0), .val (.int p1), .val (.int p2), .val (.int p3), .val (.int p4), .val (.int p5), .unset, .unset, .unset, .unset, .unset, .unset, .unset] [] := by first | (simp [entryFrame, mkF, argsToLocals, Value.category, maxLocals]; done) | rfl
def own_Qlaw (Z : State) (p0 p1 p2 p3 p4 p5 : Int32) (h0 : Heap) (n0 : Nat) (v : Option Value) (h : Heap) (L : List Loc) : Prop := v = some (.int 1) ∧ Fr n0 L
set_option maxRecDepth 65536 in
set_option maxHeartbeats 40000000 in
theorem own_rmlaw (l : Launch) (Z : State) (a0 : Array Value) (hw : ∀ d ∈ tables_1, d.before a0 Z = true) (ws : List Jvm.Cond) (p0 p1 p2 p3 p4 p5 : Int32) (h0 : Heap) (n0 : Nat) (Z0 : n0 ≤ h0.size) :
    MetFree l x (head1 (Jvm.Cond.code x code maxLocals ret :: ws) room_1) (fun a U => a = #[(.int p0), (.int p1), (.int p2), (.int p3), (.int p4), (.int p5)] ∧ Z.Warmed39 U.vm ∧ U.heap = h0) (fun _ _ _ _ _ => True) (fun _ U o U' => ∃ v L, o = .returned v ∧ own_Qlaw Z p0 p1 p2 p3 p4 p5 h0 n0 v U'.heap L ∧ FrameEnd U o U' L 24 2176) := by
  refine MetFree.of_bodySF (plainFor_of_name own_pn1) hisR ?_
  intro p e s m args below meth c s₁ Bd hml0 hP hK
  obtain ⟨rfl, hZ, hh⟩ := hP
  have hx := Bd.exec
  have hby := Bd.bytes
  have hml : c.maxLocals = 13 := hml0
  have hown : s.vm.findClass "com/example/rankbucket/rankbucket/IdListHashPinLaw" = some m.cls := findClass_of_methodNamed Bd.named
  have hnm := (name_of_methodNamed Bd.named Bd.method).1
  have X0 : Stand p l e room_1 s m #[(.int p0), (.int p1), (.int p2), (.int p3), (.int p4), (.int p5)] below meth c s₁ [] 0 0 := Stand.of_body Bd
  have e0 : s₁.heap = h0 := by rw [← hh, Bd.state]; rfl
  have N0 := Fr.nil n0
  refine own_nm (st := s₁.setTop (entryFrame m #[(.int p0), (.int p1), (.int p2), (.int p3), (.int p4), (.int p5)] maxLocals)) fun P fin => ?_
  refine own_fwd (fun tt kt => castTop (own_eflaw m p0 p1 p2 p3 p4 p5) kt) ?_
  show own_R p.tables e below P (s₁.setTop (mkF m 0 #[.val (.int p0), .val (.int p1), .val (.int p2), .val (.int p3), .val (.int p4), .val (.int p5), .unset, .unset, .unset, .unset, .unset, .unset, .unset] []))
  refine own_fwd (fun tt kt => XS.iload X0.here hx rfl (hb hby at_0) rfl kt) ?_
  show own_R p.tables e below P (s₁.setTop (mkF m 2 #[.val (.int p0), .val (.int p1), .val (.int p2), .val (.int p3), .val (.int p4), .val (.int p5), .unset, .unset, .unset, .unset, .unset, .unset, .unset] [(.int p5)]))
  refine own_fwd (fun tt kt => XS.iconst X0.here hx rfl (hb hby at_2) kt) ?_
  show own_R p.tables e below P (s₁.setTop (mkF m 3 #[.val (.int p0), .val (.int p1), .val (.int p2), .val (.int p3), .val (.int p4), .val (.int p5), .unset, .unset, .unset, .unset, .unset, .unset, .unset] [(.int (3 : Int32)), (.int p5)]))
  refine own_fwd (fun tt kt => XS.iand X0.here hx rfl (hb hby at_3) rfl kt) ?_
  show own_R p.tables e below P (s₁.setTop (mkF m 4 #[.val (.int p0), .val (.int p1), .val (.int p2), .val (.int p3), .val (.int p4), .val (.int p5), .unset, .unset, .unset, .unset, .unset, .unset, .unset] [(.int (p5 &&& (3 : Int32)))]))
  obtain ⟨n0_, hn0, bn0⟩ := own_n3 p5
  obtain ⟨c0_, hc0_⟩ : ∃ z, (p5 &&& (3 : Int32)) = z := ⟨_, rfl⟩
  rw [hc0_] at hn0 ⊢
  show own_R p.tables e below P (s₁.setTop (mkF m 4 #[.val (.int p0), .val (.int p1), .val (.int p2), .val (.int p3), .val (.int p4), .val (.int p5), .unset, .unset, .unset, .unset, .unset, .unset, .unset] [(.int c0_)]))
  refine own_fwd (fun tt kt => XS.istore X0.here hx rfl (hb hby at_4) rfl (l' := #[.val (.int p0), .val (.int p1), .val (.int p2), .val (.int p3), .val (.int p4), .val (.int p5), .val (.int c0_), .unset, .unset, .unset, .unset, .unset, .unset]) rfl kt) ?_
  show own_R p.tables e below P (s₁.setTop (mkF m 6 #[.val (.int p0), .val (.int p1), .val (.int p2), .val (.int p3), .val (.int p4), .val (.int p5), .val (.int c0_), .unset, .unset, .unset, .unset, .unset, .unset] []))
  refine own_fwd (fun tt kt => XS.iload X0.here hx rfl (hb hby at_6) rfl kt) ?_
  show own_R p.tables e below P (s₁.setTop (mkF m 8 #[.val (.int p0), .val (.int p1), .val (.int p2), .val (.int p3), .val (.int p4), .val (.int p5), .val (.int c0_), .unset, .unset, .unset, .unset, .unset, .unset] [(.int p5)]))
  refine own_fwd (fun tt kt => XS.iconst X0.here hx rfl (hb hby at_8) kt) ?_
  show own_R p.tables e below P (s₁.setTop (mkF m 9 #[.val (.int p0), .val (.int p1), .val (.int p2), .val (.int p3), .val (.int p4), .val (.int p5), .val (.int c0_), .unset, .unset, .unset, .unset, .unset, .unset] [(.int (2 : Int32)), (.int p5)]))
  refine own_fwd (fun tt kt => XS.iushr X0.here hx rfl (hb hby at_9) rfl kt) ?_
  show own_R p.tables e below P (s₁.setTop (mkF m 10 #[.val (.int p0), .val (.int p1), .val (.int p2), .val (.int p3), .val (.int p4), .val (.int p5), .val (.int c0_), .unset, .unset, .unset, .unset, .unset, .unset] [(.int ((p5.toUInt32 >>> ((2 : Int32) &&& 31).toUInt32).toInt32))]))
  refine own_fwd (fun tt kt => XS.iconst X0.here hx rfl (hb hby at_10) kt) ?_
  show own_R p.tables e below P (s₁.setTop (mkF m 11 #[.val (.int p0), .val (.int p1), .val (.int p2), .val (.int p3), .val (.int p4), .val (.int p5), .val (.int c0_), .unset, .unset, .unset, .unset, .unset, .unset] [(.int (3 : Int32)), (.int ((p5.toUInt32 >>> ((2 : Int32) &&& 31).toUInt32).toInt32))]))
  refine own_fwd (fun tt kt => XS.iand X0.here hx rfl (hb hby at_11) rfl kt) ?_
  show own_R p.tables e below P (s₁.setTop (mkF m 12 #[.val (.int p0), .val (.int p1), .val (.int p2), .val (.int p3), .val (.int p4), .val (.int p5), .val (.int c0_), .unset, .unset, .unset, .unset, .unset, .unset] [(.int (((p5.toUInt32 >>> ((2 : Int32) &&& 31).toUInt32).toInt32) &&& (3 : Int32)))]))
  obtain ⟨n1_, hn1, bn1⟩ := own_n3 ((p5.toUInt32 >>> ((2 : Int32) &&& 31).toUInt32).toInt32)
  obtain ⟨c1_, hc1_⟩ : ∃ z, (((p5.toUInt32 >>> ((2 : Int32) &&& 31).toUInt32).toInt32) &&& (3 : Int32)) = z := ⟨_, rfl⟩
  rw [hc1_] at hn1 ⊢
  show own_R p.tables e below P (s₁.setTop (mkF m 12 #[.val (.int p0), .val (.int p1), .val (.int p2), .val (.int p3), .val (.int p4), .val (.int p5), .val (.int c0_), .unset, .unset, .unset, .unset, .unset, .unset] [(.int c1_)]))
  refine own_fwd (fun tt kt => XS.istore X0.here hx rfl (hb hby at_12) rfl (l' := #[.val (.int p0), .val (.int p1), .val (.int p2), .val (.int p3), .val (.int p4), .val (.int p5), .val (.int c0_), .val (.int c1_), .unset, .unset, .unset, .unset, .unset]) rfl kt) ?_
  show own_R p.tables e below P (s₁.setTop (mkF m 14 #[.val (.int p0), .val (.int p1), .val (.int p2), .val (.int p3), .val (.int p4), .val (.int p5), .val (.int c0_), .val (.int c1_), .unset, .unset, .unset, .unset, .unset] []))
  refine own_fwd (fun tt kt => XS.iload X0.here hx rfl (hb hby at_14) rfl kt) ?_
  show own_R p.tables e below P (s₁.setTop (mkF m 16 #[.val (.int p0), .val (.int p1), .val (.int p2), .val (.int p3), .val (.int p4), .val (.int p5), .val (.int c0_), .val (.int c1_), .unset, .unset, .unset, .unset, .unset] [(.int p5)]))
  refine own_fwd (fun tt kt => XS.iconst X0.here hx rfl (hb hby at_16) kt) ?_
  show own_R p.tables e below P (s₁.setTop (mkF m 17 #[.val (.int p0), .val (.int p1), .val (.int p2), .val (.int p3), .val (.int p4), .val (.int p5), .val (.int c0_), .val (.int c1_), .unset, .unset, .unset, .unset, .unset] [(.int (4 : Int32)), (.int p5)]))
  refine own_fwd (fun tt kt => XS.iushr X0.here hx rfl (hb hby at_17) rfl kt) ?_
  show own_R p.tables e below P (s₁.setTop (mkF m 18 #[.val (.int p0), .val (.int p1), .val (.int p2), .val (.int p3), .val (.int p4), .val (.int p5), .val (.int c0_), .val (.int c1_), .unset, .unset, .unset, .unset, .unset] [(.int ((p5.toUInt32 >>> ((4 : Int32) &&& 31).toUInt32).toInt32))]))
  refine own_fwd (fun tt kt => XS.iconst X0.here hx rfl (hb hby at_18) kt) ?_
  show own_R p.tables e below P (s₁.setTop (mkF m 19 #[.val (.int p0), .val (.int p1), .val (.int p2), .val (.int p3), .val (.int p4), .val (.int p5), .val (.int c0_), .val (.int c1_), .unset, .unset, .unset, .unset, .unset] [(.int (3 : Int32)), (.int ((p5.toUInt32 >>> ((4 : Int32) &&& 31).toUInt32).toInt32))]))
  refine own_fwd (fun tt kt => XS.iand X0.here hx rfl (hb hby at_19) rfl kt) ?_
  show own_R p.tables e below P (s₁.setTop (mkF m 20 #[.val (.int p0), .val (.int p1), .val (.int p2), .val (.int p3), .val (.int p4), .val (.int p5), .val (.int c0_), .val (.int c1_), .unset, .unset, .unset, .unset, .unset] [(.int (((p5.toUInt32 >>> ((4 : Int32) &&& 31).toUInt32).toInt32) &&& (3 : Int32)))]))
  obtain ⟨n2_, hn2, bn2⟩ := own_n3 ((p5.toUInt32 >>> ((4 : Int32) &&& 31).toUInt32).toInt32)
  obtain ⟨c2_, hc2_⟩ : ∃ z, (((p5.toUInt32 >>> ((4 : Int32) &&& 31).toUInt32).toInt32) &&& (3 : Int32)) = z := ⟨_, rfl⟩
  rw [hc2_] at hn2 ⊢
  show own_R p.tables e below P (s₁.setTop (mkF m 20 #[.val (.int p0), .val (.int p1), .val (.int p2), .val (.int p3), .val (.int p4), .val (.int p5), .val (.int c0_), .val (.int c1_), .unset, .unset, .unset, .unset, .unset] [(.int c2_)]))
  refine own_fwd (fun tt kt => XS.istore X0.here hx rfl (hb hby at_20) rfl (l' := #[.val (.int p0), .val (.int p1), .val (.int p2), .val (.int p3), .val (.int p4), .val (.int p5), .val (.int c0_), .val (.int c1_), .val (.int c2_), .unset, .unset, .unset, .unset]) rfl kt) ?_
  show own_R p.tables e below P (s₁.setTop (mkF m 22 #[.val (.int p0), .val (.int p1), .val (.int p2), .val (.int p3), .val (.int p4), .val (.int p5), .val (.int c0_), .val (.int c1_), .val (.int c2_), .unset, .unset, .unset, .unset] []))
  refine own_fwd (fun tt kt => XS.iconst X0.here hx rfl (hb hby at_22) kt) ?_
  show own_R p.tables e below P (s₁.setTop (mkF m 23 #[.val (.int p0), .val (.int p1), .val (.int p2), .val (.int p3), .val (.int p4), .val (.int p5), .val (.int c0_), .val (.int c1_), .val (.int c2_), .unset, .unset, .unset, .unset] [(.int (3 : Int32))]))
  obtain ⟨T55, h55, b55, g55, X55, e55, E55, A55, B55, st55⟩ := own_newA (n := 3) X0 hx hZ (hw _ (List.mem_of_getElem? (i := 0) rfl)) e0 (z := (3 : Int32)) (by decide) (cap := 3) (by decide) (g := (mkF m 23 #[.val (.int p0), .val (.int p1), .val (.int p2), .val (.int p3), .val (.int p4), .val (.int p5), .val (.int c0_), .val (.int c1_), .val (.int c2_), .unset, .unset, .unset, .unset] [(.int (3 : Int32))])) rfl (hb hby at_23) rfl (by decide) (by decide) (by decide) (ad := "[C") (by decide)
  have ge_b55 : n0 ≤ b55 := by rw [g55]; exact Z0
  have sz_b55 : h0.size ≤ b55 := by rw [g55]; exact (Nat.le_refl h0.size)
  have A55_ : own_AI Z h55 b55 .char 3 (fun _ => (0 : Int32)) := A55
  have Z55 : n0 ≤ h55.size := Nat.le_trans Z0 E55.1
  have Y55 : h0.size ≤ h55.size := Nat.le_trans (Nat.le_refl h0.size) E55.1
  refine own_fwd st55 ?_
  show own_R p.tables e below P (T55.setTop (mkF m 25 #[.val (.int p0), .val (.int p1), .val (.int p2), .val (.int p3), .val (.int p4), .val (.int p5), .val (.int c0_), .val (.int c1_), .val (.int c2_), .unset, .unset, .unset, .unset] [(.ref b55)]))
  refine own_fwd (fun tt kt => XS.dup X55.here hx rfl (hb hby at_25) rfl rfl kt) ?_
  show own_R p.tables e below P (T55.setTop (mkF m 26 #[.val (.int p0), .val (.int p1), .val (.int p2), .val (.int p3), .val (.int p4), .val (.int p5), .val (.int c0_), .val (.int c1_), .val (.int c2_), .unset, .unset, .unset, .unset] [(.ref b55), (.ref b55)]))
  refine own_fwd (fun tt kt => XS.iconst X55.here hx rfl (hb hby at_26) kt) ?_
  show own_R p.tables e below P (T55.setTop (mkF m 27 #[.val (.int p0), .val (.int p1), .val (.int p2), .val (.int p3), .val (.int p4), .val (.int p5), .val (.int c0_), .val (.int c1_), .val (.int c2_), .unset, .unset, .unset, .unset] [(.int (0 : Int32)), (.ref b55), (.ref b55)]))
  refine own_fwd (fun tt kt => XS.iloadN X55.here hx rfl (hb hby at_27) rfl kt) ?_
  show own_R p.tables e below P (T55.setTop (mkF m 28 #[.val (.int p0), .val (.int p1), .val (.int p2), .val (.int p3), .val (.int p4), .val (.int p5), .val (.int c0_), .val (.int c1_), .val (.int c2_), .unset, .unset, .unset, .unset] [(.int p0), (.int (0 : Int32)), (.ref b55), (.ref b55)]))
  refine own_fwd (fun tt kt => XS.i2c X55.here hx rfl (hb hby at_28) rfl kt) ?_
  show own_R p.tables e below P (T55.setTop (mkF m 29 #[.val (.int p0), .val (.int p1), .val (.int p2), .val (.int p3), .val (.int p4), .val (.int p5), .val (.int c0_), .val (.int c1_), .val (.int c2_), .unset, .unset, .unset, .unset] [(.int (p0.toUInt32.toUInt16.toUInt32.toInt32)), (.int (0 : Int32)), (.ref b55), (.ref b55)]))
  obtain ⟨T56, h56, X56, e56, W56, A56_, st56⟩ := own_stC X55 hx hZ e55 A55_ (j := (0 : Int32)) 0 (by decide) (by decide) (g := (mkF m 29 #[.val (.int p0), .val (.int p1), .val (.int p2), .val (.int p3), .val (.int p4), .val (.int p5), .val (.int c0_), .val (.int c1_), .val (.int c2_), .unset, .unset, .unset, .unset] [(.int (p0.toUInt32.toUInt16.toUInt32.toInt32)), (.int (0 : Int32)), (.ref b55), (.ref b55)])) rfl rfl (hb hby at_29)
  have B55_x56 := B55.wr W56
  have N56 := Fr.snoc X56 N0 ge_b55
  have Z56 : n0 ≤ h56.size := by rw [W56.size]; exact Z55
  have Y56 : h0.size ≤ h56.size := by rw [W56.size]; exact Y55
  refine own_fwd st56 ?_
  show own_R p.tables e below P (T56.setTop (mkF m 30 #[.val (.int p0), .val (.int p1), .val (.int p2), .val (.int p3), .val (.int p4), .val (.int p5), .val (.int c0_), .val (.int c1_), .val (.int c2_), .unset, .unset, .unset, .unset] [(.ref b55)]))
  refine own_fwd (fun tt kt => XS.dup X56.here hx rfl (hb hby at_30) rfl rfl kt) ?_
  show own_R p.tables e below P (T56.setTop (mkF m 31 #[.val (.int p0), .val (.int p1), .val (.int p2), .val (.int p3), .val (.int p4), .val (.int p5), .val (.int c0_), .val (.int c1_), .val (.int c2_), .unset, .unset, .unset, .unset] [(.ref b55), (.ref b55)]))
  refine own_fwd (fun tt kt => XS.iconst X56.here hx rfl (hb hby at_31) kt) ?_
  show own_R p.tables e below P (T56.setTop (mkF m 32 #[.val (.int p0), .val (.int p1), .val (.int p2), .val (.int p3), .val (.int p4), .val (.int p5), .val (.int c0_), .val (.int c1_), .val (.int c2_), .unset, .unset, .unset, .unset] [(.int (1 : Int32)), (.ref b55), (.ref b55)]))
  refine own_fwd (fun tt kt => XS.iloadN X56.here hx rfl (hb hby at_32) rfl kt) ?_
  show own_R p.tables e below P (T56.setTop (mkF m 33 #[.val (.int p0), .val (.int p1), .val (.int p2), .val (.int p3), .val (.int p4), .val (.int p5), .val (.int c0_), .val (.int c1_), .val (.int c2_), .unset, .unset, .unset, .unset] [(.int p0), (.int (1 : Int32)), (.ref b55), (.ref b55)]))
  refine own_fwd (fun tt kt => XS.bipush X56.here hx rfl (hb hby at_33) kt) ?_
  show own_R p.tables e below P (T56.setTop (mkF m 35 #[.val (.int p0), .val (.int p1), .val (.int p2), .val (.int p3), .val (.int p4), .val (.int p5), .val (.int c0_), .val (.int c1_), .val (.int c2_), .unset, .unset, .unset, .unset] [(.int (16 : Int32)), (.int p0), (.int (1 : Int32)), (.ref b55), (.ref b55)]))
  refine own_fwd (fun tt kt => XS.iushr X56.here hx rfl (hb hby at_35) rfl kt) ?_
  show own_R p.tables e below P (T56.setTop (mkF m 36 #[.val (.int p0), .val (.int p1), .val (.int p2), .val (.int p3), .val (.int p4), .val (.int p5), .val (.int c0_), .val (.int c1_), .val (.int c2_), .unset, .unset, .unset, .unset] [(.int ((p0.toUInt32 >>> ((16 : Int32) &&& 31).toUInt32).toInt32)), (.int (1 : Int32)), (.ref b55), (.ref b55)]))
  refine own_fwd (fun tt kt => XS.i2c X56.here hx rfl (hb hby at_36) rfl kt) ?_
  show own_R p.tables e below P (T56.setTop (mkF m 37 #[.val (.int p0), .val (.int p1), .val (.int p2), .val (.int p3), .val (.int p4), .val (.int p5), .val (.int c0_), .val (.int c1_), .val (.int c2_), .unset, .unset, .unset, .unset] [(.int (((p0.toUInt32 >>> ((16 : Int32) &&& 31).toUInt32).toInt32).toUInt32.toUInt16.toUInt32.toInt32)), (.int (1 : Int32)), (.ref b55), (.ref b55)]))
  obtain ⟨T57, h57, X57, e57, W57, A57_, st57⟩ := own_stC X56 hx hZ e56 A56_ (j := (1 : Int32)) 1 (by decide) (by decide) (g := (mkF m 37 #[.val (.int p0), .val (.int p1), .val (.int p2), .val (.int p3), .val (.int p4), .val (.int p5), .val (.int c0_), .val (.int c1_), .val (.int c2_), .unset, .unset, .unset, .unset] [(.int (((p0.toUInt32 >>> ((16 : Int32) &&& 31).toUInt32).toInt32).toUInt32.toUInt16.toUInt32.toInt32)), (.int (1 : Int32)), (.ref b55), (.ref b55)])) rfl rfl (hb hby at_37)
  have B55_x57 := B55_x56.wr W57
  have N57 := Fr.snoc X57 N56 ge_b55
  have Z57 : n0 ≤ h57.size := by rw [W57.size]; exact Z56
  have Y57 : h0.size ≤ h57.size := by rw [W57.size]; exact Y56
  refine own_fwd st57 ?_
  show own_R p.tables e below P (T57.setTop (mkF m 38 #[.val (.int p0), .val (.int p1), .val (.int p2), .val (.int p3), .val (.int p4), .val (.int p5), .val (.int c0_), .val (.int c1_), .val (.int c2_), .unset, .unset, .unset, .unset] [(.ref b55)]))
  refine own_fwd (fun tt kt => XS.dup X57.here hx rfl (hb hby at_38) rfl rfl kt) ?_
  show own_R p.tables e below P (T57.setTop (mkF m 39 #[.val (.int p0), .val (.int p1), .val (.int p2), .val (.int p3), .val (.int p4), .val (.int p5), .val (.int c0_), .val (.int c1_), .val (.int c2_), .unset, .unset, .unset, .unset] [(.ref b55), (.ref b55)]))
  refine own_fwd (fun tt kt => XS.iconst X57.here hx rfl (hb hby at_39) kt) ?_
  show own_R p.tables e below P (T57.setTop (mkF m 40 #[.val (.int p0), .val (.int p1), .val (.int p2), .val (.int p3), .val (.int p4), .val (.int p5), .val (.int c0_), .val (.int c1_), .val (.int c2_), .unset, .unset, .unset, .unset] [(.int (2 : Int32)), (.ref b55), (.ref b55)]))
  refine own_fwd (fun tt kt => XS.iloadN X57.here hx rfl (hb hby at_40) rfl kt) ?_
  show own_R p.tables e below P (T57.setTop (mkF m 41 #[.val (.int p0), .val (.int p1), .val (.int p2), .val (.int p3), .val (.int p4), .val (.int p5), .val (.int c0_), .val (.int c1_), .val (.int c2_), .unset, .unset, .unset, .unset] [(.int p1), (.int (2 : Int32)), (.ref b55), (.ref b55)]))
  refine own_fwd (fun tt kt => XS.i2c X57.here hx rfl (hb hby at_41) rfl kt) ?_
  show own_R p.tables e below P (T57.setTop (mkF m 42 #[.val (.int p0), .val (.int p1), .val (.int p2), .val (.int p3), .val (.int p4), .val (.int p5), .val (.int c0_), .val (.int c1_), .val (.int c2_), .unset, .unset, .unset, .unset] [(.int (p1.toUInt32.toUInt16.toUInt32.toInt32)), (.int (2 : Int32)), (.ref b55), (.ref b55)]))
  obtain ⟨T58, h58, X58, e58, W58, A58_, st58⟩ := own_stC X57 hx hZ e57 A57_ (j := (2 : Int32)) 2 (by decide) (by decide) (g := (mkF m 42 #[.val (.int p0), .val (.int p1), .val (.int p2), .val (.int p3), .val (.int p4), .val (.int p5), .val (.int c0_), .val (.int c1_), .val (.int c2_), .unset, .unset, .unset, .unset] [(.int (p1.toUInt32.toUInt16.toUInt32.toInt32)), (.int (2 : Int32)), (.ref b55), (.ref b55)])) rfl rfl (hb hby at_42)
  have B55_x58 := B55_x57.wr W58
  have N58 := Fr.snoc X58 N57 ge_b55
  have Z58 : n0 ≤ h58.size := by rw [W58.size]; exact Z57
  have Y58 : h0.size ≤ h58.size := by rw [W58.size]; exact Y57
  refine own_fwd st58 ?_
  show own_R p.tables e below P (T58.setTop (mkF m 43 #[.val (.int p0), .val (.int p1), .val (.int p2), .val (.int p3), .val (.int p4), .val (.int p5), .val (.int c0_), .val (.int c1_), .val (.int c2_), .unset, .unset, .unset, .unset] [(.ref b55)]))
  refine own_fwd (fun tt kt => XS.astore X58.here hx rfl (hb hby at_43) rfl rfl (l' := #[.val (.int p0), .val (.int p1), .val (.int p2), .val (.int p3), .val (.int p4), .val (.int p5), .val (.int c0_), .val (.int c1_), .val (.int c2_), .val (.ref b55), .unset, .unset, .unset]) rfl kt) ?_
  show own_R p.tables e below P (T58.setTop (mkF m 45 #[.val (.int p0), .val (.int p1), .val (.int p2), .val (.int p3), .val (.int p4), .val (.int p5), .val (.int c0_), .val (.int c1_), .val (.int c2_), .val (.ref b55), .unset, .unset, .unset] []))
  refine own_fwd (fun tt kt => XS.iconst X58.here hx rfl (hb hby at_45) kt) ?_
  show own_R p.tables e below P (T58.setTop (mkF m 46 #[.val (.int p0), .val (.int p1), .val (.int p2), .val (.int p3), .val (.int p4), .val (.int p5), .val (.int c0_), .val (.int c1_), .val (.int c2_), .val (.ref b55), .unset, .unset, .unset] [(.int (3 : Int32))]))
  obtain ⟨T59, h59, b59, g59, X59, e59, E59, A59, B59, st59⟩ := own_newA (n := 3) X58 hx hZ (hw _ (List.mem_of_getElem? (i := 0) rfl)) e58 (z := (3 : Int32)) (by decide) (cap := 3) (by decide) (g := (mkF m 46 #[.val (.int p0), .val (.int p1), .val (.int p2), .val (.int p3), .val (.int p4), .val (.int p5), .val (.int c0_), .val (.int c1_), .val (.int c2_), .val (.ref b55), .unset, .unset, .unset] [(.int (3 : Int32))])) rfl (hb hby at_46) rfl (by decide) (by decide) (by decide) (ad := "[C") (by decide)
  have ne59_b55 : b55 ≠ b59 := Nat.ne_of_lt (by rw [g59]; exact A58_.lt)
  have ge_b59 : n0 ≤ b59 := by rw [g59]; exact Z58
  have sz_b59 : h0.size ≤ b59 := by rw [g59]; exact Y58
  have A58__x59 := A58_.ext E59
  have B55_x59 := B55_x58.ext E59
  have A59_ : own_AI Z h59 b59 .char 3 (fun _ => (0 : Int32)) := A59
  have Z59 : n0 ≤ h59.size := Nat.le_trans Z58 E59.1
  have Y59 : h0.size ≤ h59.size := Nat.le_trans Y58 E59.1
  refine own_fwd st59 ?_
  show own_R p.tables e below P (T59.setTop (mkF m 48 #[.val (.int p0), .val (.int p1), .val (.int p2), .val (.int p3), .val (.int p4), .val (.int p5), .val (.int c0_), .val (.int c1_), .val (.int c2_), .val (.ref b55), .unset, .unset, .unset] [(.ref b59)]))
  refine own_fwd (fun tt kt => XS.dup X59.here hx rfl (hb hby at_48) rfl rfl kt) ?_
  show own_R p.tables e below P (T59.setTop (mkF m 49 #[.val (.int p0), .val (.int p1), .val (.int p2), .val (.int p3), .val (.int p4), .val (.int p5), .val (.int c0_), .val (.int c1_), .val (.int c2_), .val (.ref b55), .unset, .unset, .unset] [(.ref b59), (.ref b59)]))
  refine own_fwd (fun tt kt => XS.iconst X59.here hx rfl (hb hby at_49) kt) ?_
  show own_R p.tables e below P (T59.setTop (mkF m 50 #[.val (.int p0), .val (.int p1), .val (.int p2), .val (.int p3), .val (.int p4), .val (.int p5), .val (.int c0_), .val (.int c1_), .val (.int c2_), .val (.ref b55), .unset, .unset, .unset] [(.int (0 : Int32)), (.ref b59), (.ref b59)]))
  refine own_fwd (fun tt kt => XS.iloadN X59.here hx rfl (hb hby at_50) rfl kt) ?_
  show own_R p.tables e below P (T59.setTop (mkF m 51 #[.val (.int p0), .val (.int p1), .val (.int p2), .val (.int p3), .val (.int p4), .val (.int p5), .val (.int c0_), .val (.int c1_), .val (.int c2_), .val (.ref b55), .unset, .unset, .unset] [(.int p1), (.int (0 : Int32)), (.ref b59), (.ref b59)]))
  refine own_fwd (fun tt kt => XS.bipush X59.here hx rfl (hb hby at_51) kt) ?_
  show own_R p.tables e below P (T59.setTop (mkF m 53 #[.val (.int p0), .val (.int p1), .val (.int p2), .val (.int p3), .val (.int p4), .val (.int p5), .val (.int c0_), .val (.int c1_), .val (.int c2_), .val (.ref b55), .unset, .unset, .unset] [(.int (16 : Int32)), (.int p1), (.int (0 : Int32)), (.ref b59), (.ref b59)]))
  refine own_fwd (fun tt kt => XS.iushr X59.here hx rfl (hb hby at_53) rfl kt) ?_
  show own_R p.tables e below P (T59.setTop (mkF m 54 #[.val (.int p0), .val (.int p1), .val (.int p2), .val (.int p3), .val (.int p4), .val (.int p5), .val (.int c0_), .val (.int c1_), .val (.int c2_), .val (.ref b55), .unset, .unset, .unset] [(.int ((p1.toUInt32 >>> ((16 : Int32) &&& 31).toUInt32).toInt32)), (.int (0 : Int32)), (.ref b59), (.ref b59)]))
  refine own_fwd (fun tt kt => XS.i2c X59.here hx rfl (hb hby at_54) rfl kt) ?_
  show own_R p.tables e below P (T59.setTop (mkF m 55 #[.val (.int p0), .val (.int p1), .val (.int p2), .val (.int p3), .val (.int p4), .val (.int p5), .val (.int c0_), .val (.int c1_), .val (.int c2_), .val (.ref b55), .unset, .unset, .unset] [(.int (((p1.toUInt32 >>> ((16 : Int32) &&& 31).toUInt32).toInt32).toUInt32.toUInt16.toUInt32.toInt32)), (.int (0 : Int32)), (.ref b59), (.ref b59)]))
  obtain ⟨T60, h60, X60, e60, W60, A60_, st60⟩ := own_stC X59 hx hZ e59 A59_ (j := (0 : Int32)) 0 (by decide) (by decide) (g := (mkF m 55 #[.val (.int p0), .val (.int p1), .val (.int p2), .val (.int p3), .val (.int p4), .val (.int p5), .val (.int c0_), .val (.int c1_), .val (.int c2_), .val (.ref b55), .unset, .unset, .unset] [(.int (((p1.toUInt32 >>> ((16 : Int32) &&& 31).toUInt32).toInt32).toUInt32.toUInt16.toUInt32.toInt32)), (.int (0 : Int32)), (.ref b59), (.ref b59)])) rfl rfl (hb hby at_55)
  have A58__x60 := A58__x59.other W60 ne59_b55
  have B55_x60 := B55_x59.wr W60
  have B59_x60 := B59.wr W60
  have N60 := Fr.snoc X60 N58 ge_b59
  have Z60 : n0 ≤ h60.size := by rw [W60.size]; exact Z59
  have Y60 : h0.size ≤ h60.size := by rw [W60.size]; exact Y59
  refine own_fwd st60 ?_
  show own_R p.tables e below P (T60.setTop (mkF m 56 #[.val (.int p0), .val (.int p1), .val (.int p2), .val (.int p3), .val (.int p4), .val (.int p5), .val (.int c0_), .val (.int c1_), .val (.int c2_), .val (.ref b55), .unset, .unset, .unset] [(.ref b59)]))
  refine own_fwd (fun tt kt => XS.dup X60.here hx rfl (hb hby at_56) rfl rfl kt) ?_
  show own_R p.tables e below P (T60.setTop (mkF m 57 #[.val (.int p0), .val (.int p1), .val (.int p2), .val (.int p3), .val (.int p4), .val (.int p5), .val (.int c0_), .val (.int c1_), .val (.int c2_), .val (.ref b55), .unset, .unset, .unset] [(.ref b59), (.ref b59)]))
  refine own_fwd (fun tt kt => XS.iconst X60.here hx rfl (hb hby at_57) kt) ?_
  show own_R p.tables e below P (T60.setTop (mkF m 58 #[.val (.int p0), .val (.int p1), .val (.int p2), .val (.int p3), .val (.int p4), .val (.int p5), .val (.int c0_), .val (.int c1_), .val (.int c2_), .val (.ref b55), .unset, .unset, .unset] [(.int (1 : Int32)), (.ref b59), (.ref b59)]))
  refine own_fwd (fun tt kt => XS.iloadN X60.here hx rfl (hb hby at_58) rfl kt) ?_
  show own_R p.tables e below P (T60.setTop (mkF m 59 #[.val (.int p0), .val (.int p1), .val (.int p2), .val (.int p3), .val (.int p4), .val (.int p5), .val (.int c0_), .val (.int c1_), .val (.int c2_), .val (.ref b55), .unset, .unset, .unset] [(.int p2), (.int (1 : Int32)), (.ref b59), (.ref b59)]))
  refine own_fwd (fun tt kt => XS.i2c X60.here hx rfl (hb hby at_59) rfl kt) ?_
  show own_R p.tables e below P (T60.setTop (mkF m 60 #[.val (.int p0), .val (.int p1), .val (.int p2), .val (.int p3), .val (.int p4), .val (.int p5), .val (.int c0_), .val (.int c1_), .val (.int c2_), .val (.ref b55), .unset, .unset, .unset] [(.int (p2.toUInt32.toUInt16.toUInt32.toInt32)), (.int (1 : Int32)), (.ref b59), (.ref b59)]))
  obtain ⟨T61, h61, X61, e61, W61, A61_, st61⟩ := own_stC X60 hx hZ e60 A60_ (j := (1 : Int32)) 1 (by decide) (by decide) (g := (mkF m 60 #[.val (.int p0), .val (.int p1), .val (.int p2), .val (.int p3), .val (.int p4), .val (.int p5), .val (.int c0_), .val (.int c1_), .val (.int c2_), .val (.ref b55), .unset, .unset, .unset] [(.int (p2.toUInt32.toUInt16.toUInt32.toInt32)), (.int (1 : Int32)), (.ref b59), (.ref b59)])) rfl rfl (hb hby at_60)
  have A58__x61 := A58__x60.other W61 ne59_b55
  have B55_x61 := B55_x60.wr W61
  have B59_x61 := B59_x60.wr W61
  have N61 := Fr.snoc X61 N60 ge_b59
  have Z61 : n0 ≤ h61.size := by rw [W61.size]; exact Z60
  have Y61 : h0.size ≤ h61.size := by rw [W61.size]; exact Y60
  refine own_fwd st61 ?_
  show own_R p.tables e below P (T61.setTop (mkF m 61 #[.val (.int p0), .val (.int p1), .val (.int p2), .val (.int p3), .val (.int p4), .val (.int p5), .val (.int c0_), .val (.int c1_), .val (.int c2_), .val (.ref b55), .unset, .unset, .unset] [(.ref b59)]))
  refine own_fwd (fun tt kt => XS.dup X61.here hx rfl (hb hby at_61) rfl rfl kt) ?_
  show own_R p.tables e below P (T61.setTop (mkF m 62 #[.val (.int p0), .val (.int p1), .val (.int p2), .val (.int p3), .val (.int p4), .val (.int p5), .val (.int c0_), .val (.int c1_), .val (.int c2_), .val (.ref b55), .unset, .unset, .unset] [(.ref b59), (.ref b59)]))
  refine own_fwd (fun tt kt => XS.iconst X61.here hx rfl (hb hby at_62) kt) ?_
  show own_R p.tables e below P (T61.setTop (mkF m 63 #[.val (.int p0), .val (.int p1), .val (.int p2), .val (.int p3), .val (.int p4), .val (.int p5), .val (.int c0_), .val (.int c1_), .val (.int c2_), .val (.ref b55), .unset, .unset, .unset] [(.int (2 : Int32)), (.ref b59), (.ref b59)]))
  refine own_fwd (fun tt kt => XS.iloadN X61.here hx rfl (hb hby at_63) rfl kt) ?_
  show own_R p.tables e below P (T61.setTop (mkF m 64 #[.val (.int p0), .val (.int p1), .val (.int p2), .val (.int p3), .val (.int p4), .val (.int p5), .val (.int c0_), .val (.int c1_), .val (.int c2_), .val (.ref b55), .unset, .unset, .unset] [(.int p2), (.int (2 : Int32)), (.ref b59), (.ref b59)]))
  refine own_fwd (fun tt kt => XS.bipush X61.here hx rfl (hb hby at_64) kt) ?_
  show own_R p.tables e below P (T61.setTop (mkF m 66 #[.val (.int p0), .val (.int p1), .val (.int p2), .val (.int p3), .val (.int p4), .val (.int p5), .val (.int c0_), .val (.int c1_), .val (.int c2_), .val (.ref b55), .unset, .unset, .unset] [(.int (16 : Int32)), (.int p2), (.int (2 : Int32)), (.ref b59), (.ref b59)]))
  refine own_fwd (fun tt kt => XS.iushr X61.here hx rfl (hb hby at_66) rfl kt) ?_
  show own_R p.tables e below P (T61.setTop (mkF m 67 #[.val (.int p0), .val (.int p1), .val (.int p2), .val (.int p3), .val (.int p4), .val (.int p5), .val (.int c0_), .val (.int c1_), .val (.int c2_), .val (.ref b55), .unset, .unset, .unset] [(.int ((p2.toUInt32 >>> ((16 : Int32) &&& 31).toUInt32).toInt32)), (.int (2 : Int32)), (.ref b59), (.ref b59)]))
  refine own_fwd (fun tt kt => XS.i2c X61.here hx rfl (hb hby at_67) rfl kt) ?_
  show own_R p.tables e below P (T61.setTop (mkF m 68 #[.val (.int p0), .val (.int p1), .val (.int p2), .val (.int p3), .val (.int p4), .val (.int p5), .val (.int c0_), .val (.int c1_), .val (.int c2_), .val (.ref b55), .unset, .unset, .unset] [(.int (((p2.toUInt32 >>> ((16 : Int32) &&& 31).toUInt32).toInt32).toUInt32.toUInt16.toUInt32.toInt32)), (.int (2 : Int32)), (.ref b59), (.ref b59)]))
  obtain ⟨T62, h62, X62, e62, W62, A62_, st62⟩ := own_stC X61 hx hZ e61 A61_ (j := (2 : Int32)) 2 (by decide) (by decide) (g := (mkF m 68 #[.val (.int p0), .val (.int p1), .val (.int p2), .val (.int p3), .val (.int p4), .val (.int p5), .val (.int c0_), .val (.int c1_), .val (.int c2_), .val (.ref b55), .unset, .unset, .unset] [(.int (((p2.toUInt32 >>> ((16 : Int32) &&& 31).toUInt32).toInt32).toUInt32.toUInt16.toUInt32.toInt32)), (.int (2 : Int32)), (.ref b59), (.ref b59)])) rfl rfl (hb hby at_68)
  have A58__x62 := A58__x61.other W62 ne59_b55
  have B55_x62 := B55_x61.wr W62
  have B59_x62 := B59_x61.wr W62
  have N62 := Fr.snoc X62 N61 ge_b59
  have Z62 : n0 ≤ h62.size := by rw [W62.size]; exact Z61
  have Y62 : h0.size ≤ h62.size := by rw [W62.size]; exact Y61
  refine own_fwd st62 ?_
  show own_R p.tables e below P (T62.setTop (mkF m 69 #[.val (.int p0), .val (.int p1), .val (.int p2), .val (.int p3), .val (.int p4), .val (.int p5), .val (.int c0_), .val (.int c1_), .val (.int c2_), .val (.ref b55), .unset, .unset, .unset] [(.ref b59)]))
  refine own_fwd (fun tt kt => XS.astore X62.here hx rfl (hb hby at_69) rfl rfl (l' := #[.val (.int p0), .val (.int p1), .val (.int p2), .val (.int p3), .val (.int p4), .val (.int p5), .val (.int c0_), .val (.int c1_), .val (.int c2_), .val (.ref b55), .val (.ref b59), .unset, .unset]) rfl kt) ?_
  show own_R p.tables e below P (T62.setTop (mkF m 71 #[.val (.int p0), .val (.int p1), .val (.int p2), .val (.int p3), .val (.int p4), .val (.int p5), .val (.int c0_), .val (.int c1_), .val (.int c2_), .val (.ref b55), .val (.ref b59), .unset, .unset] []))
  refine own_fwd (fun tt kt => XS.iconst X62.here hx rfl (hb hby at_71) kt) ?_
  show own_R p.tables e below P (T62.setTop (mkF m 72 #[.val (.int p0), .val (.int p1), .val (.int p2), .val (.int p3), .val (.int p4), .val (.int p5), .val (.int c0_), .val (.int c1_), .val (.int c2_), .val (.ref b55), .val (.ref b59), .unset, .unset] [(.int (3 : Int32))]))
  obtain ⟨T63, h63, b63, g63, X63, e63, E63, A63, B63, st63⟩ := own_newA (n := 3) X62 hx hZ (hw _ (List.mem_of_getElem? (i := 0) rfl)) e62 (z := (3 : Int32)) (by decide) (cap := 3) (by decide) (g := (mkF m 72 #[.val (.int p0), .val (.int p1), .val (.int p2), .val (.int p3), .val (.int p4), .val (.int p5), .val (.int c0_), .val (.int c1_), .val (.int c2_), .val (.ref b55), .val (.ref b59), .unset, .unset] [(.int (3 : Int32))])) rfl (hb hby at_72) rfl (by decide) (by decide) (by decide) (ad := "[C") (by decide)
  have ne63_b55 : b55 ≠ b63 := Nat.ne_of_lt (by rw [g63]; exact A58__x62.lt)
  have ne63_b59 : b59 ≠ b63 := Nat.ne_of_lt (by rw [g63]; exact A62_.lt)
  have ge_b63 : n0 ≤ b63 := by rw [g63]; exact Z62
  have sz_b63 : h0.size ≤ b63 := by rw [g63]; exact Y62
  have A58__x63 := A58__x62.ext E63
  have B55_x63 := B55_x62.ext E63
  have A62__x63 := A62_.ext E63
  have B59_x63 := B59_x62.ext E63
  have A63_ : own_AI Z h63 b63 .char 3 (fun _ => (0 : Int32)) := A63
  have Z63 : n0 ≤ h63.size := Nat.le_trans Z62 E63.1
  have Y63 : h0.size ≤ h63.size := Nat.le_trans Y62 E63.1
  refine own_fwd st63 ?_
  show own_R p.tables e below P (T63.setTop (mkF m 74 #[.val (.int p0), .val (.int p1), .val (.int p2), .val (.int p3), .val (.int p4), .val (.int p5), .val (.int c0_), .val (.int c1_), .val (.int c2_), .val (.ref b55), .val (.ref b59), .unset, .unset] [(.ref b63)]))
  refine own_fwd (fun tt kt => XS.dup X63.here hx rfl (hb hby at_74) rfl rfl kt) ?_
  show own_R p.tables e below P (T63.setTop (mkF m 75 #[.val (.int p0), .val (.int p1), .val (.int p2), .val (.int p3), .val (.int p4), .val (.int p5), .val (.int c0_), .val (.int c1_), .val (.int c2_), .val (.ref b55), .val (.ref b59), .unset, .unset] [(.ref b63), (.ref b63)]))
  refine own_fwd (fun tt kt => XS.iconst X63.here hx rfl (hb hby at_75) kt) ?_
  show own_R p.tables e below P (T63.setTop (mkF m 76 #[.val (.int p0), .val (.int p1), .val (.int p2), .val (.int p3), .val (.int p4), .val (.int p5), .val (.int c0_), .val (.int c1_), .val (.int c2_), .val (.ref b55), .val (.ref b59), .unset, .unset] [(.int (0 : Int32)), (.ref b63), (.ref b63)]))
  refine own_fwd (fun tt kt => XS.iloadN X63.here hx rfl (hb hby at_76) rfl kt) ?_
  show own_R p.tables e below P (T63.setTop (mkF m 77 #[.val (.int p0), .val (.int p1), .val (.int p2), .val (.int p3), .val (.int p4), .val (.int p5), .val (.int c0_), .val (.int c1_), .val (.int c2_), .val (.ref b55), .val (.ref b59), .unset, .unset] [(.int p3), (.int (0 : Int32)), (.ref b63), (.ref b63)]))
  refine own_fwd (fun tt kt => XS.i2c X63.here hx rfl (hb hby at_77) rfl kt) ?_
  show own_R p.tables e below P (T63.setTop (mkF m 78 #[.val (.int p0), .val (.int p1), .val (.int p2), .val (.int p3), .val (.int p4), .val (.int p5), .val (.int c0_), .val (.int c1_), .val (.int c2_), .val (.ref b55), .val (.ref b59), .unset, .unset] [(.int (p3.toUInt32.toUInt16.toUInt32.toInt32)), (.int (0 : Int32)), (.ref b63), (.ref b63)]))
  obtain ⟨T64, h64, X64, e64, W64, A64_, st64⟩ := own_stC X63 hx hZ e63 A63_ (j := (0 : Int32)) 0 (by decide) (by decide) (g := (mkF m 78 #[.val (.int p0), .val (.int p1), .val (.int p2), .val (.int p3), .val (.int p4), .val (.int p5), .val (.int c0_), .val (.int c1_), .val (.int c2_), .val (.ref b55), .val (.ref b59), .unset, .unset] [(.int (p3.toUInt32.toUInt16.toUInt32.toInt32)), (.int (0 : Int32)), (.ref b63), (.ref b63)])) rfl rfl (hb hby at_78)
  have A58__x64 := A58__x63.other W64 ne63_b55
  have B55_x64 := B55_x63.wr W64
  have A62__x64 := A62__x63.other W64 ne63_b59
  have B59_x64 := B59_x63.wr W64
  have B63_x64 := B63.wr W64
  have N64 := Fr.snoc X64 N62 ge_b63
  have Z64 : n0 ≤ h64.size := by rw [W64.size]; exact Z63
  have Y64 : h0.size ≤ h64.size := by rw [W64.size]; exact Y63
  refine own_fwd st64 ?_
  show own_R p.tables e below P (T64.setTop (mkF m 79 #[.val (.int p0), .val (.int p1), .val (.int p2), .val (.int p3), .val (.int p4), .val (.int p5), .val (.int c0_), .val (.int c1_), .val (.int c2_), .val (.ref b55), .val (.ref b59), .unset, .unset] [(.ref b63)]))
  refine own_fwd (fun tt kt => XS.dup X64.here hx rfl (hb hby at_79) rfl rfl kt) ?_
  show own_R p.tables e below P (T64.setTop (mkF m 80 #[.val (.int p0), .val (.int p1), .val (.int p2), .val (.int p3), .val (.int p4), .val (.int p5), .val (.int c0_), .val (.int c1_), .val (.int c2_), .val (.ref b55), .val (.ref b59), .unset, .unset] [(.ref b63), (.ref b63)]))
  refine own_fwd (fun tt kt => XS.iconst X64.here hx rfl (hb hby at_80) kt) ?_
  show own_R p.tables e below P (T64.setTop (mkF m 81 #[.val (.int p0), .val (.int p1), .val (.int p2), .val (.int p3), .val (.int p4), .val (.int p5), .val (.int c0_), .val (.int c1_), .val (.int c2_), .val (.ref b55), .val (.ref b59), .unset, .unset] [(.int (1 : Int32)), (.ref b63), (.ref b63)]))
  refine own_fwd (fun tt kt => XS.iloadN X64.here hx rfl (hb hby at_81) rfl kt) ?_
  show own_R p.tables e below P (T64.setTop (mkF m 82 #[.val (.int p0), .val (.int p1), .val (.int p2), .val (.int p3), .val (.int p4), .val (.int p5), .val (.int c0_), .val (.int c1_), .val (.int c2_), .val (.ref b55), .val (.ref b59), .unset, .unset] [(.int p3), (.int (1 : Int32)), (.ref b63), (.ref b63)]))
  refine own_fwd (fun tt kt => XS.bipush X64.here hx rfl (hb hby at_82) kt) ?_
  show own_R p.tables e below P (T64.setTop (mkF m 84 #[.val (.int p0), .val (.int p1), .val (.int p2), .val (.int p3), .val (.int p4), .val (.int p5), .val (.int c0_), .val (.int c1_), .val (.int c2_), .val (.ref b55), .val (.ref b59), .unset, .unset] [(.int (16 : Int32)), (.int p3), (.int (1 : Int32)), (.ref b63), (.ref b63)]))
  refine own_fwd (fun tt kt => XS.iushr X64.here hx rfl (hb hby at_84) rfl kt) ?_
  show own_R p.tables e below P (T64.setTop (mkF m 85 #[.val (.int p0), .val (.int p1), .val (.int p2), .val (.int p3), .val (.int p4), .val (.int p5), .val (.int c0_), .val (.int c1_), .val (.int c2_), .val (.ref b55), .val (.ref b59), .unset, .unset] [(.int ((p3.toUInt32 >>> ((16 : Int32) &&& 31).toUInt32).toInt32)), (.int (1 : Int32)), (.ref b63), (.ref b63)]))
  refine own_fwd (fun tt kt => XS.i2c X64.here hx rfl (hb hby at_85) rfl kt) ?_
  show own_R p.tables e below P (T64.setTop (mkF m 86 #[.val (.int p0), .val (.int p1), .val (.int p2), .val (.int p3), .val (.int p4), .val (.int p5), .val (.int c0_), .val (.int c1_), .val (.int c2_), .val (.ref b55), .val (.ref b59), .unset, .unset] [(.int (((p3.toUInt32 >>> ((16 : Int32) &&& 31).toUInt32).toInt32).toUInt32.toUInt16.toUInt32.toInt32)), (.int (1 : Int32)), (.ref b63), (.ref b63)]))
  obtain ⟨T65, h65, X65, e65, W65, A65_, st65⟩ := own_stC X64 hx hZ e64 A64_ (j := (1 : Int32)) 1 (by decide) (by decide) (g := (mkF m 86 #[.val (.int p0), .val (.int p1), .val (.int p2), .val (.int p3), .val (.int p4), .val (.int p5), .val (.int c0_), .val (.int c1_), .val (.int c2_), .val (.ref b55), .val (.ref b59), .unset, .unset] [(.int (((p3.toUInt32 >>> ((16 : Int32) &&& 31).toUInt32).toInt32).toUInt32.toUInt16.toUInt32.toInt32)), (.int (1 : Int32)), (.ref b63), (.ref b63)])) rfl rfl (hb hby at_86)
  have A58__x65 := A58__x64.other W65 ne63_b55
  have B55_x65 := B55_x64.wr W65
  have A62__x65 := A62__x64.other W65 ne63_b59
  have B59_x65 := B59_x64.wr W65
  have B63_x65 := B63_x64.wr W65
  have N65 := Fr.snoc X65 N64 ge_b63
  have Z65 : n0 ≤ h65.size := by rw [W65.size]; exact Z64
  have Y65 : h0.size ≤ h65.size := by rw [W65.size]; exact Y64
  refine own_fwd st65 ?_
  show own_R p.tables e below P (T65.setTop (mkF m 87 #[.val (.int p0), .val (.int p1), .val (.int p2), .val (.int p3), .val (.int p4), .val (.int p5), .val (.int c0_), .val (.int c1_), .val (.int c2_), .val (.ref b55), .val (.ref b59), .unset, .unset] [(.ref b63)]))
  refine own_fwd (fun tt kt => XS.dup X65.here hx rfl (hb hby at_87) rfl rfl kt) ?_
  show own_R p.tables e below P (T65.setTop (mkF m 88 #[.val (.int p0), .val (.int p1), .val (.int p2), .val (.int p3), .val (.int p4), .val (.int p5), .val (.int c0_), .val (.int c1_), .val (.int c2_), .val (.ref b55), .val (.ref b59), .unset, .unset] [(.ref b63), (.ref b63)]))
  refine own_fwd (fun tt kt => XS.iconst X65.here hx rfl (hb hby at_88) kt) ?_
  show own_R p.tables e below P (T65.setTop (mkF m 89 #[.val (.int p0), .val (.int p1), .val (.int p2), .val (.int p3), .val (.int p4), .val (.int p5), .val (.int c0_), .val (.int c1_), .val (.int c2_), .val (.ref b55), .val (.ref b59), .unset, .unset] [(.int (2 : Int32)), (.ref b63), (.ref b63)]))
  refine own_fwd (fun tt kt => XS.iload X65.here hx rfl (hb hby at_89) rfl kt) ?_
  show own_R p.tables e below P (T65.setTop (mkF m 91 #[.val (.int p0), .val (.int p1), .val (.int p2), .val (.int p3), .val (.int p4), .val (.int p5), .val (.int c0_), .val (.int c1_), .val (.int c2_), .val (.ref b55), .val (.ref b59), .unset, .unset] [(.int p4), (.int (2 : Int32)), (.ref b63), (.ref b63)]))
  refine own_fwd (fun tt kt => XS.i2c X65.here hx rfl (hb hby at_91) rfl kt) ?_
  show own_R p.tables e below P (T65.setTop (mkF m 92 #[.val (.int p0), .val (.int p1), .val (.int p2), .val (.int p3), .val (.int p4), .val (.int p5), .val (.int c0_), .val (.int c1_), .val (.int c2_), .val (.ref b55), .val (.ref b59), .unset, .unset] [(.int (p4.toUInt32.toUInt16.toUInt32.toInt32)), (.int (2 : Int32)), (.ref b63), (.ref b63)]))
  obtain ⟨T66, h66, X66, e66, W66, A66_, st66⟩ := own_stC X65 hx hZ e65 A65_ (j := (2 : Int32)) 2 (by decide) (by decide) (g := (mkF m 92 #[.val (.int p0), .val (.int p1), .val (.int p2), .val (.int p3), .val (.int p4), .val (.int p5), .val (.int c0_), .val (.int c1_), .val (.int c2_), .val (.ref b55), .val (.ref b59), .unset, .unset] [(.int (p4.toUInt32.toUInt16.toUInt32.toInt32)), (.int (2 : Int32)), (.ref b63), (.ref b63)])) rfl rfl (hb hby at_92)
  have A58__x66 := A58__x65.other W66 ne63_b55
  have B55_x66 := B55_x65.wr W66
  have A62__x66 := A62__x65.other W66 ne63_b59
  have B59_x66 := B59_x65.wr W66
  have B63_x66 := B63_x65.wr W66
  have N66 := Fr.snoc X66 N65 ge_b63
  have Z66 : n0 ≤ h66.size := by rw [W66.size]; exact Z65
  have Y66 : h0.size ≤ h66.size := by rw [W66.size]; exact Y65
  refine own_fwd st66 ?_
  show own_R p.tables e below P (T66.setTop (mkF m 93 #[.val (.int p0), .val (.int p1), .val (.int p2), .val (.int p3), .val (.int p4), .val (.int p5), .val (.int c0_), .val (.int c1_), .val (.int c2_), .val (.ref b55), .val (.ref b59), .unset, .unset] [(.ref b63)]))
  refine own_fwd (fun tt kt => XS.astore X66.here hx rfl (hb hby at_93) rfl rfl (l' := #[.val (.int p0), .val (.int p1), .val (.int p2), .val (.int p3), .val (.int p4), .val (.int p5), .val (.int c0_), .val (.int c1_), .val (.int c2_), .val (.ref b55), .val (.ref b59), .val (.ref b63), .unset]) rfl kt) ?_
  show own_R p.tables e below P (T66.setTop (mkF m 95 #[.val (.int p0), .val (.int p1), .val (.int p2), .val (.int p3), .val (.int p4), .val (.int p5), .val (.int c0_), .val (.int c1_), .val (.int c2_), .val (.ref b55), .val (.ref b59), .val (.ref b63), .unset] []))
  obtain ⟨T67, h67, X67, e67, E67, A67, D67, -, st67⟩ := newO X66 hx hZ hown (hw _ (List.mem_of_getElem? (i := 1) rfl)) (hw _ (List.mem_of_getElem? (i := 2) rfl)) (hw _ (List.mem_of_getElem? (i := 3) rfl)) e66 (g := (mkF m 95 #[.val (.int p0), .val (.int p1), .val (.int p2), .val (.int p3), .val (.int p4), .val (.int p5), .val (.int c0_), .val (.int c1_), .val (.int c2_), .val (.ref b55), .val (.ref b59), .val (.ref b63), .unset] [])) rfl (hb hby at_95) (by decide) (by decide)
  obtain ⟨b67, g67⟩ : ∃ z, z = h66.size := ⟨_, rfl⟩
  rw [← g67] at A67 D67 st67
  have ne67_b55 : b55 ≠ b67 := Nat.ne_of_lt (by rw [g67]; exact A58__x66.lt)
  have ne67_b59 : b59 ≠ b67 := Nat.ne_of_lt (by rw [g67]; exact A62__x66.lt)
  have ne67_b63 : b63 ≠ b67 := Nat.ne_of_lt (by rw [g67]; exact A66_.lt)
  have ge_b67 : n0 ≤ b67 := by rw [g67]; exact Z66
  have sz_b67 : h0.size ≤ b67 := by rw [g67]; exact Y66
  have A58__x67 := A58__x66.ext E67
  have B55_x67 := B55_x66.ext E67
  have A62__x67 := A62__x66.ext E67
  have B59_x67 := B59_x66.ext E67
  have A66__x67 := A66_.ext E67
  have B63_x67 := B63_x66.ext E67
  have F67_chars : Fld Z h67 b67 "com/example/rankbucket/rankbucket/IdList" "chars" "[C" .null := D67 (Or.inl (hw _ (List.mem_of_getElem? (i := 11) rfl))) (ty := (.array .char)) (by decide)
  have F67_ends : Fld Z h67 b67 "com/example/rankbucket/rankbucket/IdList" "ends" "[I" .null := D67 (Or.inl (hw _ (List.mem_of_getElem? (i := 14) rfl))) (ty := (.array .int)) (by decide)
  have F67_size : Fld Z h67 b67 "com/example/rankbucket/rankbucket/IdList" "size" "I" (.int (0 : Int32)) := D67 (Or.inl (hw _ (List.mem_of_getElem? (i := 30) rfl))) (ty := .int) (by decide)
  have Z67 : n0 ≤ h67.size := Nat.le_trans Z66 E67.1
  have Y67 : h0.size ≤ h67.size := Nat.le_trans Y66 E67.1
  refine own_fwd st67 ?_
  show own_R p.tables e below P (T67.setTop (mkF m 98 #[.val (.int p0), .val (.int p1), .val (.int p2), .val (.int p3), .val (.int p4), .val (.int p5), .val (.int c0_), .val (.int c1_), .val (.int c2_), .val (.ref b55), .val (.ref b59), .val (.ref b63), .unset] [(.ref b67)]))
  refine own_fwd (fun tt kt => XS.dup X67.here hx rfl (hb hby at_98) rfl rfl kt) ?_
  show own_R p.tables e below P (T67.setTop (mkF m 99 #[.val (.int p0), .val (.int p1), .val (.int p2), .val (.int p3), .val (.int p4), .val (.int p5), .val (.int c0_), .val (.int c1_), .val (.int c2_), .val (.ref b55), .val (.ref b59), .val (.ref b63), .unset] [(.ref b67), (.ref b67)]))
  obtain ⟨_, _, ⟨T68, L68, k68, n68⟩, -, X68, ⟨Lc68, hQ68, l68, y68, z68⟩, st68⟩ := X67.specialBack hx (y := (⟨"com/example/rankbucket/rankbucket/IdList", "<init>", "()V"⟩ : MethodName)) rfl hown (mvT hZ (hw _ (List.mem_of_getElem? (i := 4) rfl))) (mvT hZ (hw _ (List.mem_of_getElem? (i := 5) rfl))) (mvT hZ (hw _ (List.mem_of_getElem? (i := 6) rfl))) (by decide) (backOf (W := 1) (own_rm1 l Z a0 hw [] b67 h67 n0 Z67 A67 F67_chars F67_ends F67_size ge_b67) hZ (hw _ (List.mem_of_getElem? (i := 6) rfl)) (hw _ (List.mem_of_getElem? (i := 3) rfl)) (by decide) (by decide)) (g := (mkF m 99 #[.val (.int p0), .val (.int p1), .val (.int p2), .val (.int p3), .val (.int p4), .val (.int p5), .val (.int c0_), .val (.int c1_), .val (.int c2_), .val (.ref b55), .val (.ref b59), .val (.ref b63), .unset] [(.ref b67), (.ref b67)])) rfl (by rw [hml]; rfl) (Steps.refl _) (a := b67) (argsL := []) (rest := [(.ref b67)]) (lenOf own_pd2 rfl) rfl (by show 2 * 0 + _ ≤ _; exact Nat.le_of_eq rfl) (hb hby at_99) (fun _ _ => ⟨rfl, e67, (by decide : 4 + 2 ≤ _), (by decide : 12 + 1040 ≤ _)⟩)
  dsimp only [Pt.U, Pt.locs, Pt.cells, Pt.slots] at X68 l68 y68 z68 st68 hQ68
  subst l68 y68 z68
  obtain ⟨h68, e68⟩ : ∃ z, T68.heap = z := ⟨_, rfl⟩
  rw [e68] at hQ68
  obtain ⟨hq68, N68q, K68, E68_, cA, eA, G68_, H68_, I68_, C68_, A68_, szc, sze, nce⟩ := hQ68
  subst hq68
  have N68 := Fr.app N66 N68q
  have nc_b55 : b55 ≠ cA := Nat.ne_of_lt (Nat.lt_of_lt_of_le A58__x67.lt szc)
  have nE_b55 : b55 ≠ eA := Nat.ne_of_lt (Nat.lt_of_lt_of_le A58__x67.lt sze)
  have nc_b59 : b59 ≠ cA := Nat.ne_of_lt (Nat.lt_of_lt_of_le A62__x67.lt szc)
  have nE_b59 : b59 ≠ eA := Nat.ne_of_lt (Nat.lt_of_lt_of_le A62__x67.lt sze)
  have nc_b63 : b63 ≠ cA := Nat.ne_of_lt (Nat.lt_of_lt_of_le A66__x67.lt szc)
  have nE_b63 : b63 ≠ eA := Nat.ne_of_lt (Nat.lt_of_lt_of_le A66__x67.lt sze)
  have nc_b67 : b67 ≠ cA := Nat.ne_of_lt (Nat.lt_of_lt_of_le A67.lt szc)
  have nE_b67 : b67 ≠ eA := Nat.ne_of_lt (Nat.lt_of_lt_of_le A67.lt sze)
  have gec : n0 ≤ cA := Nat.le_trans Z67 szc
  have gee : n0 ≤ eA := Nat.le_trans Z67 sze
  have A58__x68 := A58__x67.keep K68 (ninS ne67_b55 nin0)
  have B55_x68 := B55_x67.keep K68
  have A62__x68 := A62__x67.keep K68 (ninS ne67_b59 nin0)
  have B59_x68 := B59_x67.keep K68
  have A66__x68 := A66__x67.keep K68 (ninS ne67_b63 nin0)
  have B63_x68 := B63_x67.keep K68
  have A67_x68 := A67.keep K68
  have Z68 : n0 ≤ h68.size := Nat.le_trans Z67 K68.1
  have Y68 : h0.size ≤ h68.size := Nat.le_trans Y67 K68.1
  refine own_trn st68 ?_
  show own_R p.tables e below P (T68.setTop (mkF m 102 #[.val (.int p0), .val (.int p1), .val (.int p2), .val (.int p3), .val (.int p4), .val (.int p5), .val (.int c0_), .val (.int c1_), .val (.int c2_), .val (.ref b55), .val (.ref b59), .val (.ref b63), .unset] [(.ref b67)]))
  refine own_fwd (fun tt kt => XS.astore X68.here hx rfl (hb hby at_102) rfl rfl (l' := #[.val (.int p0), .val (.int p1), .val (.int p2), .val (.int p3), .val (.int p4), .val (.int p5), .val (.int c0_), .val (.int c1_), .val (.int c2_), .val (.ref b55), .val (.ref b59), .val (.ref b63), .val (.ref b67)]) rfl kt) ?_
  show own_R p.tables e below P (T68.setTop (mkF m 104 #[.val (.int p0), .val (.int p1), .val (.int p2), .val (.int p3), .val (.int p4), .val (.int p5), .val (.int c0_), .val (.int c1_), .val (.int c2_), .val (.ref b55), .val (.ref b59), .val (.ref b63), .val (.ref b67)] []))
  refine own_fwd (fun tt kt => XS.aload X68.here hx rfl (hb hby at_104) rfl rfl kt) ?_
  show own_R p.tables e below P (T68.setTop (mkF m 106 #[.val (.int p0), .val (.int p1), .val (.int p2), .val (.int p3), .val (.int p4), .val (.int p5), .val (.int c0_), .val (.int c1_), .val (.int c2_), .val (.ref b55), .val (.ref b59), .val (.ref b63), .val (.ref b67)] [(.ref b67)]))
  refine own_fwd (fun tt kt => XS.aload X68.here hx rfl (hb hby at_106) rfl rfl kt) ?_
  show own_R p.tables e below P (T68.setTop (mkF m 108 #[.val (.int p0), .val (.int p1), .val (.int p2), .val (.int p3), .val (.int p4), .val (.int p5), .val (.int c0_), .val (.int c1_), .val (.int c2_), .val (.ref b55), .val (.ref b59), .val (.ref b63), .val (.ref b67)] [(.ref b55), (.ref b67)]))
  refine own_fwd (fun tt kt => XS.iload X68.here hx rfl (hb hby at_108) rfl kt) ?_
  show own_R p.tables e below P (T68.setTop (mkF m 110 #[.val (.int p0), .val (.int p1), .val (.int p2), .val (.int p3), .val (.int p4), .val (.int p5), .val (.int c0_), .val (.int c1_), .val (.int c2_), .val (.ref b55), .val (.ref b59), .val (.ref b63), .val (.ref b67)] [(.int c0_), (.ref b55), (.ref b67)]))
  have ff0 : own_Fc (own_upd (own_upd (own_upd (fun _ => (0 : Int32)) 0 (nar .char (p0.toUInt32.toUInt16.toUInt32.toInt32))) 1 (nar .char (((p0.toUInt32 >>> ((16 : Int32) &&& 31).toUInt32).toInt32).toUInt32.toUInt16.toUInt32.toInt32))) 2 (nar .char (p1.toUInt32.toUInt16.toUInt32.toInt32))) := own_Fc.upd (own_Fc.upd (own_Fc.upd own_Fc.zero))
  have gf0 : own_Fc (fun _ => (0 : Int32)) := own_Fc.zero
  obtain ⟨cq69, kq69, q69a, q69b, q69c⟩ := isOf hZ e68 E68_
  obtain ⟨_, _, ⟨T69, L69, k69, n69⟩, -, X69, ⟨Lc69, hQ69, l69, y69, z69⟩, st69⟩ := X68.virtualBack hx (y := (⟨"com/example/rankbucket/rankbucket/IdList", "add", "([CI)V"⟩ : MethodName)) (z := (⟨"com/example/rankbucket/rankbucket/IdList", "add", "([CI)V"⟩ : MethodName)) hown (mvT hZ (hw _ (List.mem_of_getElem? (i := 15) rfl))) (mvT hZ (hw _ (List.mem_of_getElem? (i := 16) rfl))) (notFace_of_selects (args := #[]) (mvT hZ (hw _ (List.mem_of_getElem? (i := 18) rfl)))) (mvT hZ (hw _ (List.mem_of_getElem? (i := 18) rfl))) (mvT hZ (hw _ (List.mem_of_getElem? (i := 17) rfl))) (by decide) (backOf (W := 0) (own_rm3 l Z a0 hw [] b67 b55 cA eA (0 : Int32) c0_ (fun _ => (0 : Int32)) (fun _ => (0 : Int32)) (own_upd (own_upd (own_upd (fun _ => (0 : Int32)) 0 (nar .char (p0.toUInt32.toUInt16.toUInt32.toInt32))) 1 (nar .char (((p0.toUInt32 >>> ((16 : Int32) &&& 31).toUInt32).toInt32).toUInt32.toUInt16.toUInt32.toInt32))) 2 (nar .char (p1.toUInt32.toUInt16.toUInt32.toInt32))) 0 n0_ 0 h68 n0 Z68 E68_ G68_ H68_ I68_ C68_ A68_ ge_b67 gec gee nc_b67 nE_b67 nce rfl (by omega) hn0 bn0 (by omega) (fun _ => rfl) (fun q => absurd rfl q) A58__x68 ne67_b55 nc_b55 nE_b55 ff0 gf0) hZ (hw _ (List.mem_of_getElem? (i := 19) rfl)) (hw _ (List.mem_of_getElem? (i := 3) rfl)) (by decide) (by decide)) q69a q69c (g := (mkF m 110 #[.val (.int p0), .val (.int p1), .val (.int p2), .val (.int p3), .val (.int p4), .val (.int p5), .val (.int c0_), .val (.int c1_), .val (.int c2_), .val (.ref b55), .val (.ref b59), .val (.ref b63), .val (.ref b67)] [(.int c0_), (.ref b55), (.ref b67)])) rfl (by rw [hml]; rfl) (Steps.refl _) (argsL := [(.ref b55), (.int c0_)]) (rest := []) (lenOf own_pd3 rfl) rfl (by show 2 * 0 + _ ≤ _; exact Nat.le_of_eq rfl) (hb hby at_110) (fun _ _ => ⟨rfl, e68, (by decide : 6 + 0 ≤ _), (by decide : 1052 + 0 ≤ _)⟩)
  dsimp only [Pt.U, Pt.locs, Pt.cells, Pt.slots] at X69 l69 y69 z69 st69 hQ69
  subst l69 y69 z69
  obtain ⟨h69, e69⟩ : ∃ z, T69.heap = z := ⟨_, rfl⟩
  rw [e69] at hQ69
  obtain ⟨hq69, N69q, K69, E69_, G69_, H69_, I69_, B69_, st0_, hst0_, A69_⟩ := hQ69
  subst hq69
  have N69 := Fr.app N68 N69q
  have A58__x69 := A58__x68.keep K69 (ninS ne67_b55 (ninS nE_b55 (ninS nc_b55 nin0)))
  have B55_x69 := B55_x68.keep K69
  have A62__x69 := A62__x68.keep K69 (ninS ne67_b59 (ninS nE_b59 (ninS nc_b59 nin0)))
  have B59_x69 := B59_x68.keep K69
  have A66__x69 := A66__x68.keep K69 (ninS ne67_b63 (ninS nE_b63 (ninS nc_b63 nin0)))
  have B63_x69 := B63_x68.keep K69
  have E68__x69 := E68_.keep K69
  have Z69 : n0 ≤ h69.size := Nat.le_trans Z68 K69.1
  have Y69 : h0.size ≤ h69.size := Nat.le_trans Y68 K69.1
  refine own_trn st69 ?_
  show own_R p.tables e below P (T69.setTop (mkF m 113 #[.val (.int p0), .val (.int p1), .val (.int p2), .val (.int p3), .val (.int p4), .val (.int p5), .val (.int c0_), .val (.int c1_), .val (.int c2_), .val (.ref b55), .val (.ref b59), .val (.ref b63), .val (.ref b67)] []))
  refine own_fwd (fun tt kt => XS.aload X69.here hx rfl (hb hby at_113) rfl rfl kt) ?_
  show own_R p.tables e below P (T69.setTop (mkF m 115 #[.val (.int p0), .val (.int p1), .val (.int p2), .val (.int p3), .val (.int p4), .val (.int p5), .val (.int c0_), .val (.int c1_), .val (.int c2_), .val (.ref b55), .val (.ref b59), .val (.ref b63), .val (.ref b67)] [(.ref b67)]))
  refine own_fwd (fun tt kt => XS.aload X69.here hx rfl (hb hby at_115) rfl rfl kt) ?_
  show own_R p.tables e below P (T69.setTop (mkF m 117 #[.val (.int p0), .val (.int p1), .val (.int p2), .val (.int p3), .val (.int p4), .val (.int p5), .val (.int c0_), .val (.int c1_), .val (.int c2_), .val (.ref b55), .val (.ref b59), .val (.ref b63), .val (.ref b67)] [(.ref b59), (.ref b67)]))
  refine own_fwd (fun tt kt => XS.iload X69.here hx rfl (hb hby at_117) rfl kt) ?_
  show own_R p.tables e below P (T69.setTop (mkF m 119 #[.val (.int p0), .val (.int p1), .val (.int p2), .val (.int p3), .val (.int p4), .val (.int p5), .val (.int c0_), .val (.int c1_), .val (.int c2_), .val (.ref b55), .val (.ref b59), .val (.ref b63), .val (.ref b67)] [(.int c1_), (.ref b59), (.ref b67)]))
  have ff1 : own_Fc (own_upd (own_upd (own_upd (fun _ => (0 : Int32)) 0 (nar .char (((p1.toUInt32 >>> ((16 : Int32) &&& 31).toUInt32).toInt32).toUInt32.toUInt16.toUInt32.toInt32))) 1 (nar .char (p2.toUInt32.toUInt16.toUInt32.toInt32))) 2 (nar .char (((p2.toUInt32 >>> ((16 : Int32) &&& 31).toUInt32).toInt32).toUInt32.toUInt16.toUInt32.toInt32))) := own_Fc.upd (own_Fc.upd (own_Fc.upd own_Fc.zero))
  have gf1 : own_Fc (own_put (own_upd (own_upd (own_upd (fun _ => (0 : Int32)) 0 (nar .char (p0.toUInt32.toUInt16.toUInt32.toInt32))) 1 (nar .char (((p0.toUInt32 >>> ((16 : Int32) &&& 31).toUInt32).toInt32).toUInt32.toUInt16.toUInt32.toInt32))) 2 (nar .char (p1.toUInt32.toUInt16.toUInt32.toInt32))) (fun _ => (0 : Int32)) 0 n0_) := own_Fc.put ff0 gf0
  obtain ⟨cq70, kq70, q70a, q70b, q70c⟩ := isOf hZ e69 E69_
  obtain ⟨_, _, ⟨T70, L70, k70, n70⟩, -, X70, ⟨Lc70, hQ70, l70, y70, z70⟩, st70⟩ := X69.virtualBack hx (y := (⟨"com/example/rankbucket/rankbucket/IdList", "add", "([CI)V"⟩ : MethodName)) (z := (⟨"com/example/rankbucket/rankbucket/IdList", "add", "([CI)V"⟩ : MethodName)) hown (mvT hZ (hw _ (List.mem_of_getElem? (i := 15) rfl))) (mvT hZ (hw _ (List.mem_of_getElem? (i := 16) rfl))) (notFace_of_selects (args := #[]) (mvT hZ (hw _ (List.mem_of_getElem? (i := 18) rfl)))) (mvT hZ (hw _ (List.mem_of_getElem? (i := 18) rfl))) (mvT hZ (hw _ (List.mem_of_getElem? (i := 17) rfl))) (by decide) (backOf (W := 0) (own_rm3 l Z a0 hw [] b67 b59 cA eA ((0 : Int32) + (1 : Int32)) c1_ (own_put (own_upd (own_upd (own_upd (fun _ => (0 : Int32)) 0 (nar .char (p0.toUInt32.toUInt16.toUInt32.toInt32))) 1 (nar .char (((p0.toUInt32 >>> ((16 : Int32) &&& 31).toUInt32).toInt32).toUInt32.toUInt16.toUInt32.toInt32))) 2 (nar .char (p1.toUInt32.toUInt16.toUInt32.toInt32))) (fun _ => (0 : Int32)) 0 n0_) (own_upd (fun _ => (0 : Int32)) 0 (st0_ + c0_)) (own_upd (own_upd (own_upd (fun _ => (0 : Int32)) 0 (nar .char (((p1.toUInt32 >>> ((16 : Int32) &&& 31).toUInt32).toInt32).toUInt32.toUInt16.toUInt32.toInt32))) 1 (nar .char (p2.toUInt32.toUInt16.toUInt32.toInt32))) 2 (nar .char (((p2.toUInt32 >>> ((16 : Int32) &&& 31).toUInt32).toInt32).toUInt32.toUInt16.toUInt32.toInt32))) 1 n1_ (0 + n0_) h69 n0 Z69 E69_ G69_ H69_ I69_ B69_ A69_ ge_b67 gec gee nc_b67 nE_b67 nce (by decide) (by omega) hn1 bn1 (by omega) (fun q => absurd q (by decide)) (fun _ => show (st0_ + c0_).toInt = _ from own_add hst0_ hn0 (by omega)) A62__x69 ne67_b59 nc_b59 nE_b59 ff1 gf1) hZ (hw _ (List.mem_of_getElem? (i := 19) rfl)) (hw _ (List.mem_of_getElem? (i := 3) rfl)) (by decide) (by decide)) q70a q70c (g := (mkF m 119 #[.val (.int p0), .val (.int p1), .val (.int p2), .val (.int p3), .val (.int p4), .val (.int p5), .val (.int c0_), .val (.int c1_), .val (.int c2_), .val (.ref b55), .val (.ref b59), .val (.ref b63), .val (.ref b67)] [(.int c1_), (.ref b59), (.ref b67)])) rfl (by rw [hml]; rfl) (Steps.refl _) (argsL := [(.ref b59), (.int c1_)]) (rest := []) (lenOf own_pd3 rfl) rfl (by show 2 * 0 + _ ≤ _; exact Nat.le_of_eq rfl) (hb hby at_119) (fun _ _ => ⟨rfl, e69, (by decide : 6 + 0 ≤ _), (by decide : 1052 + 0 ≤ _)⟩)
  dsimp only [Pt.U, Pt.locs, Pt.cells, Pt.slots] at X70 l70 y70 z70 st70 hQ70
  subst l70 y70 z70
  obtain ⟨h70, e70⟩ : ∃ z, T70.heap = z := ⟨_, rfl⟩
  rw [e70] at hQ70
  obtain ⟨hq70, N70q, K70, E70_, G70_, H70_, I70_, B70_, st1_, hst1_, A70_⟩ := hQ70
  subst hq70
  have N70 := Fr.app N69 N70q
  have A58__x70 := A58__x69.keep K70 (ninS ne67_b55 (ninS nE_b55 (ninS nc_b55 nin0)))
  have B55_x70 := B55_x69.keep K70
  have A62__x70 := A62__x69.keep K70 (ninS ne67_b59 (ninS nE_b59 (ninS nc_b59 nin0)))
  have B59_x70 := B59_x69.keep K70
  have A66__x70 := A66__x69.keep K70 (ninS ne67_b63 (ninS nE_b63 (ninS nc_b63 nin0)))
  have B63_x70 := B63_x69.keep K70
  have E69__x70 := E69_.keep K70
  have Z70 : n0 ≤ h70.size := Nat.le_trans Z69 K70.1
  have Y70 : h0.size ≤ h70.size := Nat.le_trans Y69 K70.1
  refine own_trn st70 ?_
  show own_R p.tables e below P (T70.setTop (mkF m 122 #[.val (.int p0), .val (.int p1), .val (.int p2), .val (.int p3), .val (.int p4), .val (.int p5), .val (.int c0_), .val (.int c1_), .val (.int c2_), .val (.ref b55), .val (.ref b59), .val (.ref b63), .val (.ref b67)] []))
  refine own_fwd (fun tt kt => XS.aload X70.here hx rfl (hb hby at_122) rfl rfl kt) ?_
  show own_R p.tables e below P (T70.setTop (mkF m 124 #[.val (.int p0), .val (.int p1), .val (.int p2), .val (.int p3), .val (.int p4), .val (.int p5), .val (.int c0_), .val (.int c1_), .val (.int c2_), .val (.ref b55), .val (.ref b59), .val (.ref b63), .val (.ref b67)] [(.ref b67)]))
  refine own_fwd (fun tt kt => XS.aload X70.here hx rfl (hb hby at_124) rfl rfl kt) ?_
  show own_R p.tables e below P (T70.setTop (mkF m 126 #[.val (.int p0), .val (.int p1), .val (.int p2), .val (.int p3), .val (.int p4), .val (.int p5), .val (.int c0_), .val (.int c1_), .val (.int c2_), .val (.ref b55), .val (.ref b59), .val (.ref b63), .val (.ref b67)] [(.ref b63), (.ref b67)]))
  refine own_fwd (fun tt kt => XS.iload X70.here hx rfl (hb hby at_126) rfl kt) ?_
  show own_R p.tables e below P (T70.setTop (mkF m 128 #[.val (.int p0), .val (.int p1), .val (.int p2), .val (.int p3), .val (.int p4), .val (.int p5), .val (.int c0_), .val (.int c1_), .val (.int c2_), .val (.ref b55), .val (.ref b59), .val (.ref b63), .val (.ref b67)] [(.int c2_), (.ref b63), (.ref b67)]))
  have ff2 : own_Fc (own_upd (own_upd (own_upd (fun _ => (0 : Int32)) 0 (nar .char (p3.toUInt32.toUInt16.toUInt32.toInt32))) 1 (nar .char (((p3.toUInt32 >>> ((16 : Int32) &&& 31).toUInt32).toInt32).toUInt32.toUInt16.toUInt32.toInt32))) 2 (nar .char (p4.toUInt32.toUInt16.toUInt32.toInt32))) := own_Fc.upd (own_Fc.upd (own_Fc.upd own_Fc.zero))
  have gf2 : own_Fc (own_put (own_upd (own_upd (own_upd (fun _ => (0 : Int32)) 0 (nar .char (((p1.toUInt32 >>> ((16 : Int32) &&& 31).toUInt32).toInt32).toUInt32.toUInt16.toUInt32.toInt32))) 1 (nar .char (p2.toUInt32.toUInt16.toUInt32.toInt32))) 2 (nar .char (((p2.toUInt32 >>> ((16 : Int32) &&& 31).toUInt32).toInt32).toUInt32.toUInt16.toUInt32.toInt32))) (own_put (own_upd (own_upd (own_upd (fun _ => (0 : Int32)) 0 (nar .char (p0.toUInt32.toUInt16.toUInt32.toInt32))) 1 (nar .char (((p0.toUInt32 >>> ((16 : Int32) &&& 31).toUInt32).toInt32).toUInt32.toUInt16.toUInt32.toInt32))) 2 (nar .char (p1.toUInt32.toUInt16.toUInt32.toInt32))) (fun _ => (0 : Int32)) 0 n0_) (0 + n0_) n1_) := own_Fc.put ff1 gf1
  obtain ⟨cq71, kq71, q71a, q71b, q71c⟩ := isOf hZ e70 E70_
  obtain ⟨_, _, ⟨T71, L71, k71, n71⟩, -, X71, ⟨Lc71, hQ71, l71, y71, z71⟩, st71⟩ := X70.virtualBack hx (y := (⟨"com/example/rankbucket/rankbucket/IdList", "add", "([CI)V"⟩ : MethodName)) (z := (⟨"com/example/rankbucket/rankbucket/IdList", "add", "([CI)V"⟩ : MethodName)) hown (mvT hZ (hw _ (List.mem_of_getElem? (i := 15) rfl))) (mvT hZ (hw _ (List.mem_of_getElem? (i := 16) rfl))) (notFace_of_selects (args := #[]) (mvT hZ (hw _ (List.mem_of_getElem? (i := 18) rfl)))) (mvT hZ (hw _ (List.mem_of_getElem? (i := 18) rfl))) (mvT hZ (hw _ (List.mem_of_getElem? (i := 17) rfl))) (by decide) (backOf (W := 0) (own_rm3 l Z a0 hw [] b67 b63 cA eA (((0 : Int32) + (1 : Int32)) + (1 : Int32)) c2_ (own_put (own_upd (own_upd (own_upd (fun _ => (0 : Int32)) 0 (nar .char (((p1.toUInt32 >>> ((16 : Int32) &&& 31).toUInt32).toInt32).toUInt32.toUInt16.toUInt32.toInt32))) 1 (nar .char (p2.toUInt32.toUInt16.toUInt32.toInt32))) 2 (nar .char (((p2.toUInt32 >>> ((16 : Int32) &&& 31).toUInt32).toInt32).toUInt32.toUInt16.toUInt32.toInt32))) (own_put (own_upd (own_upd (own_upd (fun _ => (0 : Int32)) 0 (nar .char (p0.toUInt32.toUInt16.toUInt32.toInt32))) 1 (nar .char (((p0.toUInt32 >>> ((16 : Int32) &&& 31).toUInt32).toInt32).toUInt32.toUInt16.toUInt32.toInt32))) 2 (nar .char (p1.toUInt32.toUInt16.toUInt32.toInt32))) (fun _ => (0 : Int32)) 0 n0_) (0 + n0_) n1_) (own_upd (own_upd (fun _ => (0 : Int32)) 0 (st0_ + c0_)) 1 (st1_ + c1_)) (own_upd (own_upd (own_upd (fun _ => (0 : Int32)) 0 (nar .char (p3.toUInt32.toUInt16.toUInt32.toInt32))) 1 (nar .char (((p3.toUInt32 >>> ((16 : Int32) &&& 31).toUInt32).toInt32).toUInt32.toUInt16.toUInt32.toInt32))) 2 (nar .char (p4.toUInt32.toUInt16.toUInt32.toInt32))) 2 n2_ ((0 + n0_) + n1_) h70 n0 Z70 E70_ G70_ H70_ I70_ B70_ A70_ ge_b67 gec gee nc_b67 nE_b67 nce (by decide) (by omega) hn2 bn2 (by omega) (fun q => absurd q (by decide)) (fun _ => show (st1_ + c1_).toInt = _ from own_add hst1_ hn1 (by omega)) A66__x70 ne67_b63 nc_b63 nE_b63 ff2 gf2) hZ (hw _ (List.mem_of_getElem? (i := 19) rfl)) (hw _ (List.mem_of_getElem? (i := 3) rfl)) (by decide) (by decide)) q71a q71c (g := (mkF m 128 #[.val (.int p0), .val (.int p1), .val (.int p2), .val (.int p3), .val (.int p4), .val (.int p5), .val (.int c0_), .val (.int c1_), .val (.int c2_), .val (.ref b55), .val (.ref b59), .val (.ref b63), .val (.ref b67)] [(.int c2_), (.ref b63), (.ref b67)])) rfl (by rw [hml]; rfl) (Steps.refl _) (argsL := [(.ref b63), (.int c2_)]) (rest := []) (lenOf own_pd3 rfl) rfl (by show 2 * 0 + _ ≤ _; exact Nat.le_of_eq rfl) (hb hby at_128) (fun _ _ => ⟨rfl, e70, (by decide : 6 + 0 ≤ _), (by decide : 1052 + 0 ≤ _)⟩)
  dsimp only [Pt.U, Pt.locs, Pt.cells, Pt.slots] at X71 l71 y71 z71 st71 hQ71
  subst l71 y71 z71
  obtain ⟨h71, e71⟩ : ∃ z, T71.heap = z := ⟨_, rfl⟩
  rw [e71] at hQ71
  obtain ⟨hq71, N71q, K71, E71_, G71_, H71_, I71_, B71_, st2_, hst2_, A71_⟩ := hQ71
  subst hq71
  have N71 := Fr.app N70 N71q
  have A58__x71 := A58__x70.keep K71 (ninS ne67_b55 (ninS nE_b55 (ninS nc_b55 nin0)))
  have B55_x71 := B55_x70.keep K71
  have A62__x71 := A62__x70.keep K71 (ninS ne67_b59 (ninS nE_b59 (ninS nc_b59 nin0)))
  have B59_x71 := B59_x70.keep K71
  have A66__x71 := A66__x70.keep K71 (ninS ne67_b63 (ninS nE_b63 (ninS nc_b63 nin0)))
  have B63_x71 := B63_x70.keep K71
  have E70__x71 := E70_.keep K71
  have Z71 : n0 ≤ h71.size := Nat.le_trans Z70 K71.1
  have Y71 : h0.size ≤ h71.size := Nat.le_trans Y70 K71.1
  refine own_trn st71 ?_
  show own_R p.tables e below P (T71.setTop (mkF m 131 #[.val (.int p0), .val (.int p1), .val (.int p2), .val (.int p3), .val (.int p4), .val (.int p5), .val (.int c0_), .val (.int c1_), .val (.int c2_), .val (.ref b55), .val (.ref b59), .val (.ref b63), .val (.ref b67)] []))
  refine own_fwd (fun tt kt => XS.aload X71.here hx rfl (hb hby at_131) rfl rfl kt) ?_
  show own_R p.tables e below P (T71.setTop (mkF m 133 #[.val (.int p0), .val (.int p1), .val (.int p2), .val (.int p3), .val (.int p4), .val (.int p5), .val (.int c0_), .val (.int c1_), .val (.int c2_), .val (.ref b55), .val (.ref b59), .val (.ref b63), .val (.ref b67)] [(.ref b67)]))
  refine own_fwd (fun tt kt => XS.iconst X71.here hx rfl (hb hby at_133) kt) ?_
  show own_R p.tables e below P (T71.setTop (mkF m 134 #[.val (.int p0), .val (.int p1), .val (.int p2), .val (.int p3), .val (.int p4), .val (.int p5), .val (.int c0_), .val (.int c1_), .val (.int c2_), .val (.ref b55), .val (.ref b59), .val (.ref b63), .val (.ref b67)] [(.int (0 : Int32)), (.ref b67)]))
  obtain ⟨cq72, kq72, q72a, q72b, q72c⟩ := isOf hZ e71 E71_
  obtain ⟨_, _, ⟨T72, L72, k72, n72⟩, -, X72, ⟨Lc72, hQ72, l72, y72, z72⟩, st72⟩ := X71.virtualBack hx (y := (⟨"com/example/rankbucket/rankbucket/IdList", "hash", "(I)I"⟩ : MethodName)) (z := (⟨"com/example/rankbucket/rankbucket/IdList", "hash", "(I)I"⟩ : MethodName)) hown (mvT hZ (hw _ (List.mem_of_getElem? (i := 35) rfl))) (mvT hZ (hw _ (List.mem_of_getElem? (i := 36) rfl))) (notFace_of_selects (args := #[]) (mvT hZ (hw _ (List.mem_of_getElem? (i := 38) rfl)))) (mvT hZ (hw _ (List.mem_of_getElem? (i := 38) rfl))) (mvT hZ (hw _ (List.mem_of_getElem? (i := 37) rfl))) (by decide) (backOf (W := 0) (own_rm6 l Z a0 hw [] b67 cA eA 0 (own_put (own_upd (own_upd (own_upd (fun _ => (0 : Int32)) 0 (nar .char (p3.toUInt32.toUInt16.toUInt32.toInt32))) 1 (nar .char (((p3.toUInt32 >>> ((16 : Int32) &&& 31).toUInt32).toInt32).toUInt32.toUInt16.toUInt32.toInt32))) 2 (nar .char (p4.toUInt32.toUInt16.toUInt32.toInt32))) (own_put (own_upd (own_upd (own_upd (fun _ => (0 : Int32)) 0 (nar .char (((p1.toUInt32 >>> ((16 : Int32) &&& 31).toUInt32).toInt32).toUInt32.toUInt16.toUInt32.toInt32))) 1 (nar .char (p2.toUInt32.toUInt16.toUInt32.toInt32))) 2 (nar .char (((p2.toUInt32 >>> ((16 : Int32) &&& 31).toUInt32).toInt32).toUInt32.toUInt16.toUInt32.toInt32))) (own_put (own_upd (own_upd (own_upd (fun _ => (0 : Int32)) 0 (nar .char (p0.toUInt32.toUInt16.toUInt32.toInt32))) 1 (nar .char (((p0.toUInt32 >>> ((16 : Int32) &&& 31).toUInt32).toInt32).toUInt32.toUInt16.toUInt32.toInt32))) 2 (nar .char (p1.toUInt32.toUInt16.toUInt32.toInt32))) (fun _ => (0 : Int32)) 0 n0_) (0 + n0_) n1_) ((0 + n0_) + n1_) n2_) (own_upd (own_upd (own_upd (fun _ => (0 : Int32)) 0 (st0_ + c0_)) 1 (st1_ + c1_)) 2 (st2_ + c2_)) 0 0 n0_ h71 n0 Z71 G71_ H71_ B71_ A71_ rfl (by decide) (fun _ => rfl) (fun q => absurd rfl q) (show (st0_ + c0_).toInt = _ from own_add hst0_ hn0 (by omega)) (by omega)) hZ (hw _ (List.mem_of_getElem? (i := 39) rfl)) (hw _ (List.mem_of_getElem? (i := 3) rfl)) (by decide) (by decide)) q72a q72c (g := (mkF m 134 #[.val (.int p0), .val (.int p1), .val (.int p2), .val (.int p3), .val (.int p4), .val (.int p5), .val (.int c0_), .val (.int c1_), .val (.int c2_), .val (.ref b55), .val (.ref b59), .val (.ref b63), .val (.ref b67)] [(.int (0 : Int32)), (.ref b67)])) rfl (by rw [hml]; rfl) (Steps.refl _) (argsL := [(.int (0 : Int32))]) (rest := []) (lenOf own_pd0 rfl) rfl (by show 2 * 0 + _ ≤ _; exact Nat.le_of_eq rfl) (hb hby at_134) (fun _ _ => ⟨rfl, e71, (by decide : 6 + 0 ≤ _), (by decide : 1052 + 0 ≤ _)⟩)
  dsimp only [Pt.U, Pt.locs, Pt.cells, Pt.slots] at X72 l72 y72 z72 st72 hQ72
  subst l72 y72 z72
  obtain ⟨h72, e72⟩ : ∃ z, T72.heap = z := ⟨_, rfl⟩
  rw [e72] at hQ72
  obtain ⟨hq72, N72q, q72⟩ := hQ72
  rw [q72] at e72
  subst hq72
  have N72 := Fr.app N71 N72q
  refine own_trn st72 ?_
  show own_R p.tables e below P (T72.setTop (mkF m 137 #[.val (.int p0), .val (.int p1), .val (.int p2), .val (.int p3), .val (.int p4), .val (.int p5), .val (.int c0_), .val (.int c1_), .val (.int c2_), .val (.ref b55), .val (.ref b59), .val (.ref b63), .val (.ref b67)] [(.int (own_hash (own_put (own_upd (own_upd (own_upd (fun _ => (0 : Int32)) 0 (nar .char (p3.toUInt32.toUInt16.toUInt32.toInt32))) 1 (nar .char (((p3.toUInt32 >>> ((16 : Int32) &&& 31).toUInt32).toInt32).toUInt32.toUInt16.toUInt32.toInt32))) 2 (nar .char (p4.toUInt32.toUInt16.toUInt32.toInt32))) (own_put (own_upd (own_upd (own_upd (fun _ => (0 : Int32)) 0 (nar .char (((p1.toUInt32 >>> ((16 : Int32) &&& 31).toUInt32).toInt32).toUInt32.toUInt16.toUInt32.toInt32))) 1 (nar .char (p2.toUInt32.toUInt16.toUInt32.toInt32))) 2 (nar .char (((p2.toUInt32 >>> ((16 : Int32) &&& 31).toUInt32).toInt32).toUInt32.toUInt16.toUInt32.toInt32))) (own_put (own_upd (own_upd (own_upd (fun _ => (0 : Int32)) 0 (nar .char (p0.toUInt32.toUInt16.toUInt32.toInt32))) 1 (nar .char (((p0.toUInt32 >>> ((16 : Int32) &&& 31).toUInt32).toInt32).toUInt32.toUInt16.toUInt32.toInt32))) 2 (nar .char (p1.toUInt32.toUInt16.toUInt32.toInt32))) (fun _ => (0 : Int32)) 0 n0_) (0 + n0_) n1_) ((0 + n0_) + n1_) n2_) 0 n0_))]))
  refine own_fwd (fun tt kt => XS.aload X72.here hx rfl (hb hby at_137) rfl rfl kt) ?_
  show own_R p.tables e below P (T72.setTop (mkF m 139 #[.val (.int p0), .val (.int p1), .val (.int p2), .val (.int p3), .val (.int p4), .val (.int p5), .val (.int c0_), .val (.int c1_), .val (.int c2_), .val (.ref b55), .val (.ref b59), .val (.ref b63), .val (.ref b67)] [(.ref b55), (.int (own_hash (own_put (own_upd (own_upd (own_upd (fun _ => (0 : Int32)) 0 (nar .char (p3.toUInt32.toUInt16.toUInt32.toInt32))) 1 (nar .char (((p3.toUInt32 >>> ((16 : Int32) &&& 31).toUInt32).toInt32).toUInt32.toUInt16.toUInt32.toInt32))) 2 (nar .char (p4.toUInt32.toUInt16.toUInt32.toInt32))) (own_put (own_upd (own_upd (own_upd (fun _ => (0 : Int32)) 0 (nar .char (((p1.toUInt32 >>> ((16 : Int32) &&& 31).toUInt32).toInt32).toUInt32.toUInt16.toUInt32.toInt32))) 1 (nar .char (p2.toUInt32.toUInt16.toUInt32.toInt32))) 2 (nar .char (((p2.toUInt32 >>> ((16 : Int32) &&& 31).toUInt32).toInt32).toUInt32.toUInt16.toUInt32.toInt32))) (own_put (own_upd (own_upd (own_upd (fun _ => (0 : Int32)) 0 (nar .char (p0.toUInt32.toUInt16.toUInt32.toInt32))) 1 (nar .char (((p0.toUInt32 >>> ((16 : Int32) &&& 31).toUInt32).toInt32).toUInt32.toUInt16.toUInt32.toInt32))) 2 (nar .char (p1.toUInt32.toUInt16.toUInt32.toInt32))) (fun _ => (0 : Int32)) 0 n0_) (0 + n0_) n1_) ((0 + n0_) + n1_) n2_) 0 n0_))]))
  refine own_fwd (fun tt kt => XS.iload X72.here hx rfl (hb hby at_139) rfl kt) ?_
  show own_R p.tables e below P (T72.setTop (mkF m 141 #[.val (.int p0), .val (.int p1), .val (.int p2), .val (.int p3), .val (.int p4), .val (.int p5), .val (.int c0_), .val (.int c1_), .val (.int c2_), .val (.ref b55), .val (.ref b59), .val (.ref b63), .val (.ref b67)] [(.int c0_), (.ref b55), (.int (own_hash (own_put (own_upd (own_upd (own_upd (fun _ => (0 : Int32)) 0 (nar .char (p3.toUInt32.toUInt16.toUInt32.toInt32))) 1 (nar .char (((p3.toUInt32 >>> ((16 : Int32) &&& 31).toUInt32).toInt32).toUInt32.toUInt16.toUInt32.toInt32))) 2 (nar .char (p4.toUInt32.toUInt16.toUInt32.toInt32))) (own_put (own_upd (own_upd (own_upd (fun _ => (0 : Int32)) 0 (nar .char (((p1.toUInt32 >>> ((16 : Int32) &&& 31).toUInt32).toInt32).toUInt32.toUInt16.toUInt32.toInt32))) 1 (nar .char (p2.toUInt32.toUInt16.toUInt32.toInt32))) 2 (nar .char (((p2.toUInt32 >>> ((16 : Int32) &&& 31).toUInt32).toInt32).toUInt32.toUInt16.toUInt32.toInt32))) (own_put (own_upd (own_upd (own_upd (fun _ => (0 : Int32)) 0 (nar .char (p0.toUInt32.toUInt16.toUInt32.toInt32))) 1 (nar .char (((p0.toUInt32 >>> ((16 : Int32) &&& 31).toUInt32).toInt32).toUInt32.toUInt16.toUInt32.toInt32))) 2 (nar .char (p1.toUInt32.toUInt16.toUInt32.toInt32))) (fun _ => (0 : Int32)) 0 n0_) (0 + n0_) n1_) ((0 + n0_) + n1_) n2_) 0 n0_))]))
  obtain ⟨_, _, ⟨T73, L73, k73, n73⟩, -, X73, ⟨Lc73, hQ73, l73, y73, z73⟩, st73⟩ := Jvm.LawKit.callS X72 hx (y := (⟨"com/example/rankbucket/rankbucket/IdListHashPinLaw", "ref", "([CI)I"⟩ : MethodName)) hown (mvT hZ (hw _ (List.mem_of_getElem? (i := 40) rfl))) (mvT hZ (hw _ (List.mem_of_getElem? (i := 41) rfl))) (mvT hZ (hw _ (List.mem_of_getElem? (i := 42) rfl))) (mvT hZ (hw _ (List.mem_of_getElem? (i := 43) rfl))) (by decide) (backOf (W := 1) (own_rm7 l Z a0 hw [] b55 c0_ (own_upd (own_upd (own_upd (fun _ => (0 : Int32)) 0 (nar .char (p0.toUInt32.toUInt16.toUInt32.toInt32))) 1 (nar .char (((p0.toUInt32 >>> ((16 : Int32) &&& 31).toUInt32).toInt32).toUInt32.toUInt16.toUInt32.toInt32))) 2 (nar .char (p1.toUInt32.toUInt16.toUInt32.toInt32))) n0_ h71 n0 Z71 A58__x71 hn0 bn0) hZ (hw _ (List.mem_of_getElem? (i := 43) rfl)) (hw _ (List.mem_of_getElem? (i := 42) rfl)) (by decide) (by decide)) (g := (mkF m 141 #[.val (.int p0), .val (.int p1), .val (.int p2), .val (.int p3), .val (.int p4), .val (.int p5), .val (.int c0_), .val (.int c1_), .val (.int c2_), .val (.ref b55), .val (.ref b59), .val (.ref b63), .val (.ref b67)] [(.int c0_), (.ref b55), (.int (own_hash (own_put (own_upd (own_upd (own_upd (fun _ => (0 : Int32)) 0 (nar .char (p3.toUInt32.toUInt16.toUInt32.toInt32))) 1 (nar .char (((p3.toUInt32 >>> ((16 : Int32) &&& 31).toUInt32).toInt32).toUInt32.toUInt16.toUInt32.toInt32))) 2 (nar .char (p4.toUInt32.toUInt16.toUInt32.toInt32))) (own_put (own_upd (own_upd (own_upd (fun _ => (0 : Int32)) 0 (nar .char (((p1.toUInt32 >>> ((16 : Int32) &&& 31).toUInt32).toInt32).toUInt32.toUInt16.toUInt32.toInt32))) 1 (nar .char (p2.toUInt32.toUInt16.toUInt32.toInt32))) 2 (nar .char (((p2.toUInt32 >>> ((16 : Int32) &&& 31).toUInt32).toInt32).toUInt32.toUInt16.toUInt32.toInt32))) (own_put (own_upd (own_upd (own_upd (fun _ => (0 : Int32)) 0 (nar .char (p0.toUInt32.toUInt16.toUInt32.toInt32))) 1 (nar .char (((p0.toUInt32 >>> ((16 : Int32) &&& 31).toUInt32).toInt32).toUInt32.toUInt16.toUInt32.toInt32))) 2 (nar .char (p1.toUInt32.toUInt16.toUInt32.toInt32))) (fun _ => (0 : Int32)) 0 n0_) (0 + n0_) n1_) ((0 + n0_) + n1_) n2_) 0 n0_))])) rfl (by rw [hml]; rfl) (argsL := [(.ref b55), (.int c0_)]) (rest := [(.int (own_hash (own_put (own_upd (own_upd (own_upd (fun _ => (0 : Int32)) 0 (nar .char (p3.toUInt32.toUInt16.toUInt32.toInt32))) 1 (nar .char (((p3.toUInt32 >>> ((16 : Int32) &&& 31).toUInt32).toInt32).toUInt32.toUInt16.toUInt32.toInt32))) 2 (nar .char (p4.toUInt32.toUInt16.toUInt32.toInt32))) (own_put (own_upd (own_upd (own_upd (fun _ => (0 : Int32)) 0 (nar .char (((p1.toUInt32 >>> ((16 : Int32) &&& 31).toUInt32).toInt32).toUInt32.toUInt16.toUInt32.toInt32))) 1 (nar .char (p2.toUInt32.toUInt16.toUInt32.toInt32))) 2 (nar .char (((p2.toUInt32 >>> ((16 : Int32) &&& 31).toUInt32).toInt32).toUInt32.toUInt16.toUInt32.toInt32))) (own_put (own_upd (own_upd (own_upd (fun _ => (0 : Int32)) 0 (nar .char (p0.toUInt32.toUInt16.toUInt32.toInt32))) 1 (nar .char (((p0.toUInt32 >>> ((16 : Int32) &&& 31).toUInt32).toInt32).toUInt32.toUInt16.toUInt32.toInt32))) 2 (nar .char (p1.toUInt32.toUInt16.toUInt32.toInt32))) (fun _ => (0 : Int32)) 0 n0_) (0 + n0_) n1_) ((0 + n0_) + n1_) n2_) 0 n0_))]) (lenOf own_pd4 rfl) rfl (by show 2 * 0 + _ ≤ _; exact Nat.le_of_eq rfl) (hb hby at_141) (fun _ _ => ⟨rfl, e72, (by decide : 6 + 0 ≤ _), (by decide : 1052 + 0 ≤ _)⟩)
  dsimp only [Pt.U, Pt.locs, Pt.cells, Pt.slots] at X73 l73 y73 z73 st73 hQ73
  subst l73 y73 z73
  obtain ⟨h73, e73⟩ : ∃ z, T73.heap = z := ⟨_, rfl⟩
  rw [e73] at hQ73
  obtain ⟨hq73, N73q, q73⟩ := hQ73
  rw [q73] at e73
  subst hq73
  have N73 := Fr.app N72 N73q
  refine own_fwd st73 ?_
  show own_R p.tables e below P (T73.setTop (mkF m 144 #[.val (.int p0), .val (.int p1), .val (.int p2), .val (.int p3), .val (.int p4), .val (.int p5), .val (.int c0_), .val (.int c1_), .val (.int c2_), .val (.ref b55), .val (.ref b59), .val (.ref b63), .val (.ref b67)] [(.int (own_hash (own_upd (own_upd (own_upd (fun _ => (0 : Int32)) 0 (nar .char (p0.toUInt32.toUInt16.toUInt32.toInt32))) 1 (nar .char (((p0.toUInt32 >>> ((16 : Int32) &&& 31).toUInt32).toInt32).toUInt32.toUInt16.toUInt32.toInt32))) 2 (nar .char (p1.toUInt32.toUInt16.toUInt32.toInt32))) 0 n0_)), (.int (own_hash (own_put (own_upd (own_upd (own_upd (fun _ => (0 : Int32)) 0 (nar .char (p3.toUInt32.toUInt16.toUInt32.toInt32))) 1 (nar .char (((p3.toUInt32 >>> ((16 : Int32) &&& 31).toUInt32).toInt32).toUInt32.toUInt16.toUInt32.toInt32))) 2 (nar .char (p4.toUInt32.toUInt16.toUInt32.toInt32))) (own_put (own_upd (own_upd (own_upd (fun _ => (0 : Int32)) 0 (nar .char (((p1.toUInt32 >>> ((16 : Int32) &&& 31).toUInt32).toInt32).toUInt32.toUInt16.toUInt32.toInt32))) 1 (nar .char (p2.toUInt32.toUInt16.toUInt32.toInt32))) 2 (nar .char (((p2.toUInt32 >>> ((16 : Int32) &&& 31).toUInt32).toInt32).toUInt32.toUInt16.toUInt32.toInt32))) (own_put (own_upd (own_upd (own_upd (fun _ => (0 : Int32)) 0 (nar .char (p0.toUInt32.toUInt16.toUInt32.toInt32))) 1 (nar .char (((p0.toUInt32 >>> ((16 : Int32) &&& 31).toUInt32).toInt32).toUInt32.toUInt16.toUInt32.toInt32))) 2 (nar .char (p1.toUInt32.toUInt16.toUInt32.toInt32))) (fun _ => (0 : Int32)) 0 n0_) (0 + n0_) n1_) ((0 + n0_) + n1_) n2_) 0 n0_))]))
  have hc74 : (own_hash (own_put (own_upd (own_upd (own_upd (fun _ => (0 : Int32)) 0 (nar .char (p3.toUInt32.toUInt16.toUInt32.toInt32))) 1 (nar .char (((p3.toUInt32 >>> ((16 : Int32) &&& 31).toUInt32).toInt32).toUInt32.toUInt16.toUInt32.toInt32))) 2 (nar .char (p4.toUInt32.toUInt16.toUInt32.toInt32))) (own_put (own_upd (own_upd (own_upd (fun _ => (0 : Int32)) 0 (nar .char (((p1.toUInt32 >>> ((16 : Int32) &&& 31).toUInt32).toInt32).toUInt32.toUInt16.toUInt32.toInt32))) 1 (nar .char (p2.toUInt32.toUInt16.toUInt32.toInt32))) 2 (nar .char (((p2.toUInt32 >>> ((16 : Int32) &&& 31).toUInt32).toInt32).toUInt32.toUInt16.toUInt32.toInt32))) (own_put (own_upd (own_upd (own_upd (fun _ => (0 : Int32)) 0 (nar .char (p0.toUInt32.toUInt16.toUInt32.toInt32))) 1 (nar .char (((p0.toUInt32 >>> ((16 : Int32) &&& 31).toUInt32).toInt32).toUInt32.toUInt16.toUInt32.toInt32))) 2 (nar .char (p1.toUInt32.toUInt16.toUInt32.toInt32))) (fun _ => (0 : Int32)) 0 n0_) (0 + n0_) n1_) ((0 + n0_) + n1_) n2_) 0 n0_) = (own_hash (own_upd (own_upd (own_upd (fun _ => (0 : Int32)) 0 (nar .char (p0.toUInt32.toUInt16.toUInt32.toInt32))) 1 (nar .char (((p0.toUInt32 >>> ((16 : Int32) &&& 31).toUInt32).toInt32).toUInt32.toUInt16.toUInt32.toInt32))) 2 (nar .char (p1.toUInt32.toUInt16.toUInt32.toInt32))) 0 n0_) := own_hash_cong fun j hj => by
        simp only [own_put]
        rw [if_neg (by omega), if_neg (by omega), if_pos (by omega)]; congr 1; omega
  refine own_fwd (fun tt kt => XS.icmpNo X73.here hx rfl (hb hby at_144) rfl (teq hc74).2 kt) ?_
  show own_R p.tables e below P (T73.setTop (mkF m 147 #[.val (.int p0), .val (.int p1), .val (.int p2), .val (.int p3), .val (.int p4), .val (.int p5), .val (.int c0_), .val (.int c1_), .val (.int c2_), .val (.ref b55), .val (.ref b59), .val (.ref b63), .val (.ref b67)] []))
  refine own_fwd (fun tt kt => XS.aload X73.here hx rfl (hb hby at_147) rfl rfl kt) ?_
  show own_R p.tables e below P (T73.setTop (mkF m 149 #[.val (.int p0), .val (.int p1), .val (.int p2), .val (.int p3), .val (.int p4), .val (.int p5), .val (.int c0_), .val (.int c1_), .val (.int c2_), .val (.ref b55), .val (.ref b59), .val (.ref b63), .val (.ref b67)] [(.ref b67)]))
  refine own_fwd (fun tt kt => XS.iconst X73.here hx rfl (hb hby at_149) kt) ?_
  show own_R p.tables e below P (T73.setTop (mkF m 150 #[.val (.int p0), .val (.int p1), .val (.int p2), .val (.int p3), .val (.int p4), .val (.int p5), .val (.int c0_), .val (.int c1_), .val (.int c2_), .val (.ref b55), .val (.ref b59), .val (.ref b63), .val (.ref b67)] [(.int (1 : Int32)), (.ref b67)]))
  obtain ⟨cq75, kq75, q75a, q75b, q75c⟩ := isOf hZ e73 E71_
  obtain ⟨_, _, ⟨T75, L75, k75, n75⟩, -, X75, ⟨Lc75, hQ75, l75, y75, z75⟩, st75⟩ := X73.virtualBack hx (y := (⟨"com/example/rankbucket/rankbucket/IdList", "hash", "(I)I"⟩ : MethodName)) (z := (⟨"com/example/rankbucket/rankbucket/IdList", "hash", "(I)I"⟩ : MethodName)) hown (mvT hZ (hw _ (List.mem_of_getElem? (i := 35) rfl))) (mvT hZ (hw _ (List.mem_of_getElem? (i := 36) rfl))) (notFace_of_selects (args := #[]) (mvT hZ (hw _ (List.mem_of_getElem? (i := 38) rfl)))) (mvT hZ (hw _ (List.mem_of_getElem? (i := 38) rfl))) (mvT hZ (hw _ (List.mem_of_getElem? (i := 37) rfl))) (by decide) (backOf (W := 0) (own_rm6 l Z a0 hw [] b67 cA eA 1 (own_put (own_upd (own_upd (own_upd (fun _ => (0 : Int32)) 0 (nar .char (p3.toUInt32.toUInt16.toUInt32.toInt32))) 1 (nar .char (((p3.toUInt32 >>> ((16 : Int32) &&& 31).toUInt32).toInt32).toUInt32.toUInt16.toUInt32.toInt32))) 2 (nar .char (p4.toUInt32.toUInt16.toUInt32.toInt32))) (own_put (own_upd (own_upd (own_upd (fun _ => (0 : Int32)) 0 (nar .char (((p1.toUInt32 >>> ((16 : Int32) &&& 31).toUInt32).toInt32).toUInt32.toUInt16.toUInt32.toInt32))) 1 (nar .char (p2.toUInt32.toUInt16.toUInt32.toInt32))) 2 (nar .char (((p2.toUInt32 >>> ((16 : Int32) &&& 31).toUInt32).toInt32).toUInt32.toUInt16.toUInt32.toInt32))) (own_put (own_upd (own_upd (own_upd (fun _ => (0 : Int32)) 0 (nar .char (p0.toUInt32.toUInt16.toUInt32.toInt32))) 1 (nar .char (((p0.toUInt32 >>> ((16 : Int32) &&& 31).toUInt32).toInt32).toUInt32.toUInt16.toUInt32.toInt32))) 2 (nar .char (p1.toUInt32.toUInt16.toUInt32.toInt32))) (fun _ => (0 : Int32)) 0 n0_) (0 + n0_) n1_) ((0 + n0_) + n1_) n2_) (own_upd (own_upd (own_upd (fun _ => (0 : Int32)) 0 (st0_ + c0_)) 1 (st1_ + c1_)) 2 (st2_ + c2_)) 1 (0 + n0_) n1_ h71 n0 Z71 G71_ H71_ B71_ A71_ rfl (by decide) (fun q => absurd q (by decide)) (fun _ => show (st0_ + c0_).toInt = _ from own_add hst0_ hn0 (by omega)) (show (st1_ + c1_).toInt = _ from own_add hst1_ hn1 (by omega)) (by omega)) hZ (hw _ (List.mem_of_getElem? (i := 39) rfl)) (hw _ (List.mem_of_getElem? (i := 3) rfl)) (by decide) (by decide)) q75a q75c (g := (mkF m 150 #[.val (.int p0), .val (.int p1), .val (.int p2), .val (.int p3), .val (.int p4), .val (.int p5), .val (.int c0_), .val (.int c1_), .val (.int c2_), .val (.ref b55), .val (.ref b59), .val (.ref b63), .val (.ref b67)] [(.int (1 : Int32)), (.ref b67)])) rfl (by rw [hml]; rfl) (Steps.refl _) (argsL := [(.int (1 : Int32))]) (rest := []) (lenOf own_pd0 rfl) rfl (by show 2 * 0 + _ ≤ _; exact Nat.le_of_eq rfl) (hb hby at_150) (fun _ _ => ⟨rfl, e73, (by decide : 6 + 0 ≤ _), (by decide : 1052 + 0 ≤ _)⟩)
  dsimp only [Pt.U, Pt.locs, Pt.cells, Pt.slots] at X75 l75 y75 z75 st75 hQ75
  subst l75 y75 z75
  obtain ⟨h75, e75⟩ : ∃ z, T75.heap = z := ⟨_, rfl⟩
  rw [e75] at hQ75
  obtain ⟨hq75, N75q, q75⟩ := hQ75
  rw [q75] at e75
  subst hq75
  have N75 := Fr.app N73 N75q
  refine own_trn st75 ?_
  show own_R p.tables e below P (T75.setTop (mkF m 153 #[.val (.int p0), .val (.int p1), .val (.int p2), .val (.int p3), .val (.int p4), .val (.int p5), .val (.int c0_), .val (.int c1_), .val (.int c2_), .val (.ref b55), .val (.ref b59), .val (.ref b63), .val (.ref b67)] [(.int (own_hash (own_put (own_upd (own_upd (own_upd (fun _ => (0 : Int32)) 0 (nar .char (p3.toUInt32.toUInt16.toUInt32.toInt32))) 1 (nar .char (((p3.toUInt32 >>> ((16 : Int32) &&& 31).toUInt32).toInt32).toUInt32.toUInt16.toUInt32.toInt32))) 2 (nar .char (p4.toUInt32.toUInt16.toUInt32.toInt32))) (own_put (own_upd (own_upd (own_upd (fun _ => (0 : Int32)) 0 (nar .char (((p1.toUInt32 >>> ((16 : Int32) &&& 31).toUInt32).toInt32).toUInt32.toUInt16.toUInt32.toInt32))) 1 (nar .char (p2.toUInt32.toUInt16.toUInt32.toInt32))) 2 (nar .char (((p2.toUInt32 >>> ((16 : Int32) &&& 31).toUInt32).toInt32).toUInt32.toUInt16.toUInt32.toInt32))) (own_put (own_upd (own_upd (own_upd (fun _ => (0 : Int32)) 0 (nar .char (p0.toUInt32.toUInt16.toUInt32.toInt32))) 1 (nar .char (((p0.toUInt32 >>> ((16 : Int32) &&& 31).toUInt32).toInt32).toUInt32.toUInt16.toUInt32.toInt32))) 2 (nar .char (p1.toUInt32.toUInt16.toUInt32.toInt32))) (fun _ => (0 : Int32)) 0 n0_) (0 + n0_) n1_) ((0 + n0_) + n1_) n2_) (0 + n0_) n1_))]))
  refine own_fwd (fun tt kt => XS.aload X75.here hx rfl (hb hby at_153) rfl rfl kt) ?_
  show own_R p.tables e below P (T75.setTop (mkF m 155 #[.val (.int p0), .val (.int p1), .val (.int p2), .val (.int p3), .val (.int p4), .val (.int p5), .val (.int c0_), .val (.int c1_), .val (.int c2_), .val (.ref b55), .val (.ref b59), .val (.ref b63), .val (.ref b67)] [(.ref b59), (.int (own_hash (own_put (own_upd (own_upd (own_upd (fun _ => (0 : Int32)) 0 (nar .char (p3.toUInt32.toUInt16.toUInt32.toInt32))) 1 (nar .char (((p3.toUInt32 >>> ((16 : Int32) &&& 31).toUInt32).toInt32).toUInt32.toUInt16.toUInt32.toInt32))) 2 (nar .char (p4.toUInt32.toUInt16.toUInt32.toInt32))) (own_put (own_upd (own_upd (own_upd (fun _ => (0 : Int32)) 0 (nar .char (((p1.toUInt32 >>> ((16 : Int32) &&& 31).toUInt32).toInt32).toUInt32.toUInt16.toUInt32.toInt32))) 1 (nar .char (p2.toUInt32.toUInt16.toUInt32.toInt32))) 2 (nar .char (((p2.toUInt32 >>> ((16 : Int32) &&& 31).toUInt32).toInt32).toUInt32.toUInt16.toUInt32.toInt32))) (own_put (own_upd (own_upd (own_upd (fun _ => (0 : Int32)) 0 (nar .char (p0.toUInt32.toUInt16.toUInt32.toInt32))) 1 (nar .char (((p0.toUInt32 >>> ((16 : Int32) &&& 31).toUInt32).toInt32).toUInt32.toUInt16.toUInt32.toInt32))) 2 (nar .char (p1.toUInt32.toUInt16.toUInt32.toInt32))) (fun _ => (0 : Int32)) 0 n0_) (0 + n0_) n1_) ((0 + n0_) + n1_) n2_) (0 + n0_) n1_))]))
  refine own_fwd (fun tt kt => XS.iload X75.here hx rfl (hb hby at_155) rfl kt) ?_
  show own_R p.tables e below P (T75.setTop (mkF m 157 #[.val (.int p0), .val (.int p1), .val (.int p2), .val (.int p3), .val (.int p4), .val (.int p5), .val (.int c0_), .val (.int c1_), .val (.int c2_), .val (.ref b55), .val (.ref b59), .val (.ref b63), .val (.ref b67)] [(.int c1_), (.ref b59), (.int (own_hash (own_put (own_upd (own_upd (own_upd (fun _ => (0 : Int32)) 0 (nar .char (p3.toUInt32.toUInt16.toUInt32.toInt32))) 1 (nar .char (((p3.toUInt32 >>> ((16 : Int32) &&& 31).toUInt32).toInt32).toUInt32.toUInt16.toUInt32.toInt32))) 2 (nar .char (p4.toUInt32.toUInt16.toUInt32.toInt32))) (own_put (own_upd (own_upd (own_upd (fun _ => (0 : Int32)) 0 (nar .char (((p1.toUInt32 >>> ((16 : Int32) &&& 31).toUInt32).toInt32).toUInt32.toUInt16.toUInt32.toInt32))) 1 (nar .char (p2.toUInt32.toUInt16.toUInt32.toInt32))) 2 (nar .char (((p2.toUInt32 >>> ((16 : Int32) &&& 31).toUInt32).toInt32).toUInt32.toUInt16.toUInt32.toInt32))) (own_put (own_upd (own_upd (own_upd (fun _ => (0 : Int32)) 0 (nar .char (p0.toUInt32.toUInt16.toUInt32.toInt32))) 1 (nar .char (((p0.toUInt32 >>> ((16 : Int32) &&& 31).toUInt32).toInt32).toUInt32.toUInt16.toUInt32.toInt32))) 2 (nar .char (p1.toUInt32.toUInt16.toUInt32.toInt32))) (fun _ => (0 : Int32)) 0 n0_) (0 + n0_) n1_) ((0 + n0_) + n1_) n2_) (0 + n0_) n1_))]))
  obtain ⟨_, _, ⟨T76, L76, k76, n76⟩, -, X76, ⟨Lc76, hQ76, l76, y76, z76⟩, st76⟩ := Jvm.LawKit.callS X75 hx (y := (⟨"com/example/rankbucket/rankbucket/IdListHashPinLaw", "ref", "([CI)I"⟩ : MethodName)) hown (mvT hZ (hw _ (List.mem_of_getElem? (i := 40) rfl))) (mvT hZ (hw _ (List.mem_of_getElem? (i := 41) rfl))) (mvT hZ (hw _ (List.mem_of_getElem? (i := 42) rfl))) (mvT hZ (hw _ (List.mem_of_getElem? (i := 43) rfl))) (by decide) (backOf (W := 1) (own_rm7 l Z a0 hw [] b59 c1_ (own_upd (own_upd (own_upd (fun _ => (0 : Int32)) 0 (nar .char (((p1.toUInt32 >>> ((16 : Int32) &&& 31).toUInt32).toInt32).toUInt32.toUInt16.toUInt32.toInt32))) 1 (nar .char (p2.toUInt32.toUInt16.toUInt32.toInt32))) 2 (nar .char (((p2.toUInt32 >>> ((16 : Int32) &&& 31).toUInt32).toInt32).toUInt32.toUInt16.toUInt32.toInt32))) n1_ h71 n0 Z71 A62__x71 hn1 bn1) hZ (hw _ (List.mem_of_getElem? (i := 43) rfl)) (hw _ (List.mem_of_getElem? (i := 42) rfl)) (by decide) (by decide)) (g := (mkF m 157 #[.val (.int p0), .val (.int p1), .val (.int p2), .val (.int p3), .val (.int p4), .val (.int p5), .val (.int c0_), .val (.int c1_), .val (.int c2_), .val (.ref b55), .val (.ref b59), .val (.ref b63), .val (.ref b67)] [(.int c1_), (.ref b59), (.int (own_hash (own_put (own_upd (own_upd (own_upd (fun _ => (0 : Int32)) 0 (nar .char (p3.toUInt32.toUInt16.toUInt32.toInt32))) 1 (nar .char (((p3.toUInt32 >>> ((16 : Int32) &&& 31).toUInt32).toInt32).toUInt32.toUInt16.toUInt32.toInt32))) 2 (nar .char (p4.toUInt32.toUInt16.toUInt32.toInt32))) (own_put (own_upd (own_upd (own_upd (fun _ => (0 : Int32)) 0 (nar .char (((p1.toUInt32 >>> ((16 : Int32) &&& 31).toUInt32).toInt32).toUInt32.toUInt16.toUInt32.toInt32))) 1 (nar .char (p2.toUInt32.toUInt16.toUInt32.toInt32))) 2 (nar .char (((p2.toUInt32 >>> ((16 : Int32) &&& 31).toUInt32).toInt32).toUInt32.toUInt16.toUInt32.toInt32))) (own_put (own_upd (own_upd (own_upd (fun _ => (0 : Int32)) 0 (nar .char (p0.toUInt32.toUInt16.toUInt32.toInt32))) 1 (nar .char (((p0.toUInt32 >>> ((16 : Int32) &&& 31).toUInt32).toInt32).toUInt32.toUInt16.toUInt32.toInt32))) 2 (nar .char (p1.toUInt32.toUInt16.toUInt32.toInt32))) (fun _ => (0 : Int32)) 0 n0_) (0 + n0_) n1_) ((0 + n0_) + n1_) n2_) (0 + n0_) n1_))])) rfl (by rw [hml]; rfl) (argsL := [(.ref b59), (.int c1_)]) (rest := [(.int (own_hash (own_put (own_upd (own_upd (own_upd (fun _ => (0 : Int32)) 0 (nar .char (p3.toUInt32.toUInt16.toUInt32.toInt32))) 1 (nar .char (((p3.toUInt32 >>> ((16 : Int32) &&& 31).toUInt32).toInt32).toUInt32.toUInt16.toUInt32.toInt32))) 2 (nar .char (p4.toUInt32.toUInt16.toUInt32.toInt32))) (own_put (own_upd (own_upd (own_upd (fun _ => (0 : Int32)) 0 (nar .char (((p1.toUInt32 >>> ((16 : Int32) &&& 31).toUInt32).toInt32).toUInt32.toUInt16.toUInt32.toInt32))) 1 (nar .char (p2.toUInt32.toUInt16.toUInt32.toInt32))) 2 (nar .char (((p2.toUInt32 >>> ((16 : Int32) &&& 31).toUInt32).toInt32).toUInt32.toUInt16.toUInt32.toInt32))) (own_put (own_upd (own_upd (own_upd (fun _ => (0 : Int32)) 0 (nar .char (p0.toUInt32.toUInt16.toUInt32.toInt32))) 1 (nar .char (((p0.toUInt32 >>> ((16 : Int32) &&& 31).toUInt32).toInt32).toUInt32.toUInt16.toUInt32.toInt32))) 2 (nar .char (p1.toUInt32.toUInt16.toUInt32.toInt32))) (fun _ => (0 : Int32)) 0 n0_) (0 + n0_) n1_) ((0 + n0_) + n1_) n2_) (0 + n0_) n1_))]) (lenOf own_pd4 rfl) rfl (by show 2 * 0 + _ ≤ _; exact Nat.le_of_eq rfl) (hb hby at_157) (fun _ _ => ⟨rfl, e75, (by decide : 6 + 0 ≤ _), (by decide : 1052 + 0 ≤ _)⟩)
  dsimp only [Pt.U, Pt.locs, Pt.cells, Pt.slots] at X76 l76 y76 z76 st76 hQ76
  subst l76 y76 z76
  obtain ⟨h76, e76⟩ : ∃ z, T76.heap = z := ⟨_, rfl⟩
  rw [e76] at hQ76
  obtain ⟨hq76, N76q, q76⟩ := hQ76
  rw [q76] at e76
  subst hq76
  have N76 := Fr.app N75 N76q
  refine own_fwd st76 ?_
  show own_R p.tables e below P (T76.setTop (mkF m 160 #[.val (.int p0), .val (.int p1), .val (.int p2), .val (.int p3), .val (.int p4), .val (.int p5), .val (.int c0_), .val (.int c1_), .val (.int c2_), .val (.ref b55), .val (.ref b59), .val (.ref b63), .val (.ref b67)] [(.int (own_hash (own_upd (own_upd (own_upd (fun _ => (0 : Int32)) 0 (nar .char (((p1.toUInt32 >>> ((16 : Int32) &&& 31).toUInt32).toInt32).toUInt32.toUInt16.toUInt32.toInt32))) 1 (nar .char (p2.toUInt32.toUInt16.toUInt32.toInt32))) 2 (nar .char (((p2.toUInt32 >>> ((16 : Int32) &&& 31).toUInt32).toInt32).toUInt32.toUInt16.toUInt32.toInt32))) 0 n1_)), (.int (own_hash (own_put (own_upd (own_upd (own_upd (fun _ => (0 : Int32)) 0 (nar .char (p3.toUInt32.toUInt16.toUInt32.toInt32))) 1 (nar .char (((p3.toUInt32 >>> ((16 : Int32) &&& 31).toUInt32).toInt32).toUInt32.toUInt16.toUInt32.toInt32))) 2 (nar .char (p4.toUInt32.toUInt16.toUInt32.toInt32))) (own_put (own_upd (own_upd (own_upd (fun _ => (0 : Int32)) 0 (nar .char (((p1.toUInt32 >>> ((16 : Int32) &&& 31).toUInt32).toInt32).toUInt32.toUInt16.toUInt32.toInt32))) 1 (nar .char (p2.toUInt32.toUInt16.toUInt32.toInt32))) 2 (nar .char (((p2.toUInt32 >>> ((16 : Int32) &&& 31).toUInt32).toInt32).toUInt32.toUInt16.toUInt32.toInt32))) (own_put (own_upd (own_upd (own_upd (fun _ => (0 : Int32)) 0 (nar .char (p0.toUInt32.toUInt16.toUInt32.toInt32))) 1 (nar .char (((p0.toUInt32 >>> ((16 : Int32) &&& 31).toUInt32).toInt32).toUInt32.toUInt16.toUInt32.toInt32))) 2 (nar .char (p1.toUInt32.toUInt16.toUInt32.toInt32))) (fun _ => (0 : Int32)) 0 n0_) (0 + n0_) n1_) ((0 + n0_) + n1_) n2_) (0 + n0_) n1_))]))
  have hc77 : (own_hash (own_put (own_upd (own_upd (own_upd (fun _ => (0 : Int32)) 0 (nar .char (p3.toUInt32.toUInt16.toUInt32.toInt32))) 1 (nar .char (((p3.toUInt32 >>> ((16 : Int32) &&& 31).toUInt32).toInt32).toUInt32.toUInt16.toUInt32.toInt32))) 2 (nar .char (p4.toUInt32.toUInt16.toUInt32.toInt32))) (own_put (own_upd (own_upd (own_upd (fun _ => (0 : Int32)) 0 (nar .char (((p1.toUInt32 >>> ((16 : Int32) &&& 31).toUInt32).toInt32).toUInt32.toUInt16.toUInt32.toInt32))) 1 (nar .char (p2.toUInt32.toUInt16.toUInt32.toInt32))) 2 (nar .char (((p2.toUInt32 >>> ((16 : Int32) &&& 31).toUInt32).toInt32).toUInt32.toUInt16.toUInt32.toInt32))) (own_put (own_upd (own_upd (own_upd (fun _ => (0 : Int32)) 0 (nar .char (p0.toUInt32.toUInt16.toUInt32.toInt32))) 1 (nar .char (((p0.toUInt32 >>> ((16 : Int32) &&& 31).toUInt32).toInt32).toUInt32.toUInt16.toUInt32.toInt32))) 2 (nar .char (p1.toUInt32.toUInt16.toUInt32.toInt32))) (fun _ => (0 : Int32)) 0 n0_) (0 + n0_) n1_) ((0 + n0_) + n1_) n2_) (0 + n0_) n1_) = (own_hash (own_upd (own_upd (own_upd (fun _ => (0 : Int32)) 0 (nar .char (((p1.toUInt32 >>> ((16 : Int32) &&& 31).toUInt32).toInt32).toUInt32.toUInt16.toUInt32.toInt32))) 1 (nar .char (p2.toUInt32.toUInt16.toUInt32.toInt32))) 2 (nar .char (((p2.toUInt32 >>> ((16 : Int32) &&& 31).toUInt32).toInt32).toUInt32.toUInt16.toUInt32.toInt32))) 0 n1_) := own_hash_cong fun j hj => by
        simp only [own_put]
        rw [if_neg (by omega), if_pos (by omega)]; congr 1; omega
  refine own_fwd (fun tt kt => XS.icmpNo X76.here hx rfl (hb hby at_160) rfl (teq hc77).2 kt) ?_
  show own_R p.tables e below P (T76.setTop (mkF m 163 #[.val (.int p0), .val (.int p1), .val (.int p2), .val (.int p3), .val (.int p4), .val (.int p5), .val (.int c0_), .val (.int c1_), .val (.int c2_), .val (.ref b55), .val (.ref b59), .val (.ref b63), .val (.ref b67)] []))
  refine own_fwd (fun tt kt => XS.aload X76.here hx rfl (hb hby at_163) rfl rfl kt) ?_
  show own_R p.tables e below P (T76.setTop (mkF m 165 #[.val (.int p0), .val (.int p1), .val (.int p2), .val (.int p3), .val (.int p4), .val (.int p5), .val (.int c0_), .val (.int c1_), .val (.int c2_), .val (.ref b55), .val (.ref b59), .val (.ref b63), .val (.ref b67)] [(.ref b67)]))
  refine own_fwd (fun tt kt => XS.iconst X76.here hx rfl (hb hby at_165) kt) ?_
  show own_R p.tables e below P (T76.setTop (mkF m 166 #[.val (.int p0), .val (.int p1), .val (.int p2), .val (.int p3), .val (.int p4), .val (.int p5), .val (.int c0_), .val (.int c1_), .val (.int c2_), .val (.ref b55), .val (.ref b59), .val (.ref b63), .val (.ref b67)] [(.int (2 : Int32)), (.ref b67)]))
  obtain ⟨cq78, kq78, q78a, q78b, q78c⟩ := isOf hZ e76 E71_
  obtain ⟨_, _, ⟨T78, L78, k78, n78⟩, -, X78, ⟨Lc78, hQ78, l78, y78, z78⟩, st78⟩ := X76.virtualBack hx (y := (⟨"com/example/rankbucket/rankbucket/IdList", "hash", "(I)I"⟩ : MethodName)) (z := (⟨"com/example/rankbucket/rankbucket/IdList", "hash", "(I)I"⟩ : MethodName)) hown (mvT hZ (hw _ (List.mem_of_getElem? (i := 35) rfl))) (mvT hZ (hw _ (List.mem_of_getElem? (i := 36) rfl))) (notFace_of_selects (args := #[]) (mvT hZ (hw _ (List.mem_of_getElem? (i := 38) rfl)))) (mvT hZ (hw _ (List.mem_of_getElem? (i := 38) rfl))) (mvT hZ (hw _ (List.mem_of_getElem? (i := 37) rfl))) (by decide) (backOf (W := 0) (own_rm6 l Z a0 hw [] b67 cA eA 2 (own_put (own_upd (own_upd (own_upd (fun _ => (0 : Int32)) 0 (nar .char (p3.toUInt32.toUInt16.toUInt32.toInt32))) 1 (nar .char (((p3.toUInt32 >>> ((16 : Int32) &&& 31).toUInt32).toInt32).toUInt32.toUInt16.toUInt32.toInt32))) 2 (nar .char (p4.toUInt32.toUInt16.toUInt32.toInt32))) (own_put (own_upd (own_upd (own_upd (fun _ => (0 : Int32)) 0 (nar .char (((p1.toUInt32 >>> ((16 : Int32) &&& 31).toUInt32).toInt32).toUInt32.toUInt16.toUInt32.toInt32))) 1 (nar .char (p2.toUInt32.toUInt16.toUInt32.toInt32))) 2 (nar .char (((p2.toUInt32 >>> ((16 : Int32) &&& 31).toUInt32).toInt32).toUInt32.toUInt16.toUInt32.toInt32))) (own_put (own_upd (own_upd (own_upd (fun _ => (0 : Int32)) 0 (nar .char (p0.toUInt32.toUInt16.toUInt32.toInt32))) 1 (nar .char (((p0.toUInt32 >>> ((16 : Int32) &&& 31).toUInt32).toInt32).toUInt32.toUInt16.toUInt32.toInt32))) 2 (nar .char (p1.toUInt32.toUInt16.toUInt32.toInt32))) (fun _ => (0 : Int32)) 0 n0_) (0 + n0_) n1_) ((0 + n0_) + n1_) n2_) (own_upd (own_upd (own_upd (fun _ => (0 : Int32)) 0 (st0_ + c0_)) 1 (st1_ + c1_)) 2 (st2_ + c2_)) 2 ((0 + n0_) + n1_) n2_ h71 n0 Z71 G71_ H71_ B71_ A71_ rfl (by decide) (fun q => absurd q (by decide)) (fun _ => show (st1_ + c1_).toInt = _ from own_add hst1_ hn1 (by omega)) (show (st2_ + c2_).toInt = _ from own_add hst2_ hn2 (by omega)) (by omega)) hZ (hw _ (List.mem_of_getElem? (i := 39) rfl)) (hw _ (List.mem_of_getElem? (i := 3) rfl)) (by decide) (by decide)) q78a q78c (g := (mkF m 166 #[.val (.int p0), .val (.int p1), .val (.int p2), .val (.int p3), .val (.int p4), .val (.int p5), .val (.int c0_), .val (.int c1_), .val (.int c2_), .val (.ref b55), .val (.ref b59), .val (.ref b63), .val (.ref b67)] [(.int (2 : Int32)), (.ref b67)])) rfl (by rw [hml]; rfl) (Steps.refl _) (argsL := [(.int (2 : Int32))]) (rest := []) (lenOf own_pd0 rfl) rfl (by show 2 * 0 + _ ≤ _; exact Nat.le_of_eq rfl) (hb hby at_166) (fun _ _ => ⟨rfl, e76, (by decide : 6 + 0 ≤ _), (by decide : 1052 + 0 ≤ _)⟩)
  dsimp only [Pt.U, Pt.locs, Pt.cells, Pt.slots] at X78 l78 y78 z78 st78 hQ78
  subst l78 y78 z78
  obtain ⟨h78, e78⟩ : ∃ z, T78.heap = z := ⟨_, rfl⟩
  rw [e78] at hQ78
  obtain ⟨hq78, N78q, q78⟩ := hQ78
  rw [q78] at e78
  subst hq78
  have N78 := Fr.app N76 N78q
  refine own_trn st78 ?_
  show own_R p.tables e below P (T78.setTop (mkF m 169 #[.val (.int p0), .val (.int p1), .val (.int p2), .val (.int p3), .val (.int p4), .val (.int p5), .val (.int c0_), .val (.int c1_), .val (.int c2_), .val (.ref b55), .val (.ref b59), .val (.ref b63), .val (.ref b67)] [(.int (own_hash (own_put (own_upd (own_upd (own_upd (fun _ => (0 : Int32)) 0 (nar .char (p3.toUInt32.toUInt16.toUInt32.toInt32))) 1 (nar .char (((p3.toUInt32 >>> ((16 : Int32) &&& 31).toUInt32).toInt32).toUInt32.toUInt16.toUInt32.toInt32))) 2 (nar .char (p4.toUInt32.toUInt16.toUInt32.toInt32))) (own_put (own_upd (own_upd (own_upd (fun _ => (0 : Int32)) 0 (nar .char (((p1.toUInt32 >>> ((16 : Int32) &&& 31).toUInt32).toInt32).toUInt32.toUInt16.toUInt32.toInt32))) 1 (nar .char (p2.toUInt32.toUInt16.toUInt32.toInt32))) 2 (nar .char (((p2.toUInt32 >>> ((16 : Int32) &&& 31).toUInt32).toInt32).toUInt32.toUInt16.toUInt32.toInt32))) (own_put (own_upd (own_upd (own_upd (fun _ => (0 : Int32)) 0 (nar .char (p0.toUInt32.toUInt16.toUInt32.toInt32))) 1 (nar .char (((p0.toUInt32 >>> ((16 : Int32) &&& 31).toUInt32).toInt32).toUInt32.toUInt16.toUInt32.toInt32))) 2 (nar .char (p1.toUInt32.toUInt16.toUInt32.toInt32))) (fun _ => (0 : Int32)) 0 n0_) (0 + n0_) n1_) ((0 + n0_) + n1_) n2_) ((0 + n0_) + n1_) n2_))]))
  refine own_fwd (fun tt kt => XS.aload X78.here hx rfl (hb hby at_169) rfl rfl kt) ?_
  show own_R p.tables e below P (T78.setTop (mkF m 171 #[.val (.int p0), .val (.int p1), .val (.int p2), .val (.int p3), .val (.int p4), .val (.int p5), .val (.int c0_), .val (.int c1_), .val (.int c2_), .val (.ref b55), .val (.ref b59), .val (.ref b63), .val (.ref b67)] [(.ref b63), (.int (own_hash (own_put (own_upd (own_upd (own_upd (fun _ => (0 : Int32)) 0 (nar .char (p3.toUInt32.toUInt16.toUInt32.toInt32))) 1 (nar .char (((p3.toUInt32 >>> ((16 : Int32) &&& 31).toUInt32).toInt32).toUInt32.toUInt16.toUInt32.toInt32))) 2 (nar .char (p4.toUInt32.toUInt16.toUInt32.toInt32))) (own_put (own_upd (own_upd (own_upd (fun _ => (0 : Int32)) 0 (nar .char (((p1.toUInt32 >>> ((16 : Int32) &&& 31).toUInt32).toInt32).toUInt32.toUInt16.toUInt32.toInt32))) 1 (nar .char (p2.toUInt32.toUInt16.toUInt32.toInt32))) 2 (nar .char (((p2.toUInt32 >>> ((16 : Int32) &&& 31).toUInt32).toInt32).toUInt32.toUInt16.toUInt32.toInt32))) (own_put (own_upd (own_upd (own_upd (fun _ => (0 : Int32)) 0 (nar .char (p0.toUInt32.toUInt16.toUInt32.toInt32))) 1 (nar .char (((p0.toUInt32 >>> ((16 : Int32) &&& 31).toUInt32).toInt32).toUInt32.toUInt16.toUInt32.toInt32))) 2 (nar .char (p1.toUInt32.toUInt16.toUInt32.toInt32))) (fun _ => (0 : Int32)) 0 n0_) (0 + n0_) n1_) ((0 + n0_) + n1_) n2_) ((0 + n0_) + n1_) n2_))]))
  refine own_fwd (fun tt kt => XS.iload X78.here hx rfl (hb hby at_171) rfl kt) ?_
  show own_R p.tables e below P (T78.setTop (mkF m 173 #[.val (.int p0), .val (.int p1), .val (.int p2), .val (.int p3), .val (.int p4), .val (.int p5), .val (.int c0_), .val (.int c1_), .val (.int c2_), .val (.ref b55), .val (.ref b59), .val (.ref b63), .val (.ref b67)] [(.int c2_), (.ref b63), (.int (own_hash (own_put (own_upd (own_upd (own_upd (fun _ => (0 : Int32)) 0 (nar .char (p3.toUInt32.toUInt16.toUInt32.toInt32))) 1 (nar .char (((p3.toUInt32 >>> ((16 : Int32) &&& 31).toUInt32).toInt32).toUInt32.toUInt16.toUInt32.toInt32))) 2 (nar .char (p4.toUInt32.toUInt16.toUInt32.toInt32))) (own_put (own_upd (own_upd (own_upd (fun _ => (0 : Int32)) 0 (nar .char (((p1.toUInt32 >>> ((16 : Int32) &&& 31).toUInt32).toInt32).toUInt32.toUInt16.toUInt32.toInt32))) 1 (nar .char (p2.toUInt32.toUInt16.toUInt32.toInt32))) 2 (nar .char (((p2.toUInt32 >>> ((16 : Int32) &&& 31).toUInt32).toInt32).toUInt32.toUInt16.toUInt32.toInt32))) (own_put (own_upd (own_upd (own_upd (fun _ => (0 : Int32)) 0 (nar .char (p0.toUInt32.toUInt16.toUInt32.toInt32))) 1 (nar .char (((p0.toUInt32 >>> ((16 : Int32) &&& 31).toUInt32).toInt32).toUInt32.toUInt16.toUInt32.toInt32))) 2 (nar .char (p1.toUInt32.toUInt16.toUInt32.toInt32))) (fun _ => (0 : Int32)) 0 n0_) (0 + n0_) n1_) ((0 + n0_) + n1_) n2_) ((0 + n0_) + n1_) n2_))]))
  obtain ⟨_, _, ⟨T79, L79, k79, n79⟩, -, X79, ⟨Lc79, hQ79, l79, y79, z79⟩, st79⟩ := Jvm.LawKit.callS X78 hx (y := (⟨"com/example/rankbucket/rankbucket/IdListHashPinLaw", "ref", "([CI)I"⟩ : MethodName)) hown (mvT hZ (hw _ (List.mem_of_getElem? (i := 40) rfl))) (mvT hZ (hw _ (List.mem_of_getElem? (i := 41) rfl))) (mvT hZ (hw _ (List.mem_of_getElem? (i := 42) rfl))) (mvT hZ (hw _ (List.mem_of_getElem? (i := 43) rfl))) (by decide) (backOf (W := 1) (own_rm7 l Z a0 hw [] b63 c2_ (own_upd (own_upd (own_upd (fun _ => (0 : Int32)) 0 (nar .char (p3.toUInt32.toUInt16.toUInt32.toInt32))) 1 (nar .char (((p3.toUInt32 >>> ((16 : Int32) &&& 31).toUInt32).toInt32).toUInt32.toUInt16.toUInt32.toInt32))) 2 (nar .char (p4.toUInt32.toUInt16.toUInt32.toInt32))) n2_ h71 n0 Z71 A66__x71 hn2 bn2) hZ (hw _ (List.mem_of_getElem? (i := 43) rfl)) (hw _ (List.mem_of_getElem? (i := 42) rfl)) (by decide) (by decide)) (g := (mkF m 173 #[.val (.int p0), .val (.int p1), .val (.int p2), .val (.int p3), .val (.int p4), .val (.int p5), .val (.int c0_), .val (.int c1_), .val (.int c2_), .val (.ref b55), .val (.ref b59), .val (.ref b63), .val (.ref b67)] [(.int c2_), (.ref b63), (.int (own_hash (own_put (own_upd (own_upd (own_upd (fun _ => (0 : Int32)) 0 (nar .char (p3.toUInt32.toUInt16.toUInt32.toInt32))) 1 (nar .char (((p3.toUInt32 >>> ((16 : Int32) &&& 31).toUInt32).toInt32).toUInt32.toUInt16.toUInt32.toInt32))) 2 (nar .char (p4.toUInt32.toUInt16.toUInt32.toInt32))) (own_put (own_upd (own_upd (own_upd (fun _ => (0 : Int32)) 0 (nar .char (((p1.toUInt32 >>> ((16 : Int32) &&& 31).toUInt32).toInt32).toUInt32.toUInt16.toUInt32.toInt32))) 1 (nar .char (p2.toUInt32.toUInt16.toUInt32.toInt32))) 2 (nar .char (((p2.toUInt32 >>> ((16 : Int32) &&& 31).toUInt32).toInt32).toUInt32.toUInt16.toUInt32.toInt32))) (own_put (own_upd (own_upd (own_upd (fun _ => (0 : Int32)) 0 (nar .char (p0.toUInt32.toUInt16.toUInt32.toInt32))) 1 (nar .char (((p0.toUInt32 >>> ((16 : Int32) &&& 31).toUInt32).toInt32).toUInt32.toUInt16.toUInt32.toInt32))) 2 (nar .char (p1.toUInt32.toUInt16.toUInt32.toInt32))) (fun _ => (0 : Int32)) 0 n0_) (0 + n0_) n1_) ((0 + n0_) + n1_) n2_) ((0 + n0_) + n1_) n2_))])) rfl (by rw [hml]; rfl) (argsL := [(.ref b63), (.int c2_)]) (rest := [(.int (own_hash (own_put (own_upd (own_upd (own_upd (fun _ => (0 : Int32)) 0 (nar .char (p3.toUInt32.toUInt16.toUInt32.toInt32))) 1 (nar .char (((p3.toUInt32 >>> ((16 : Int32) &&& 31).toUInt32).toInt32).toUInt32.toUInt16.toUInt32.toInt32))) 2 (nar .char (p4.toUInt32.toUInt16.toUInt32.toInt32))) (own_put (own_upd (own_upd (own_upd (fun _ => (0 : Int32)) 0 (nar .char (((p1.toUInt32 >>> ((16 : Int32) &&& 31).toUInt32).toInt32).toUInt32.toUInt16.toUInt32.toInt32))) 1 (nar .char (p2.toUInt32.toUInt16.toUInt32.toInt32))) 2 (nar .char (((p2.toUInt32 >>> ((16 : Int32) &&& 31).toUInt32).toInt32).toUInt32.toUInt16.toUInt32.toInt32))) (own_put (own_upd (own_upd (own_upd (fun _ => (0 : Int32)) 0 (nar .char (p0.toUInt32.toUInt16.toUInt32.toInt32))) 1 (nar .char (((p0.toUInt32 >>> ((16 : Int32) &&& 31).toUInt32).toInt32).toUInt32.toUInt16.toUInt32.toInt32))) 2 (nar .char (p1.toUInt32.toUInt16.toUInt32.toInt32))) (fun _ => (0 : Int32)) 0 n0_) (0 + n0_) n1_) ((0 + n0_) + n1_) n2_) ((0 + n0_) + n1_) n2_))]) (lenOf own_pd4 rfl) rfl (by show 2 * 0 + _ ≤ _; exact Nat.le_of_eq rfl) (hb hby at_173) (fun _ _ => ⟨rfl, e78, (by decide : 6 + 0 ≤ _), (by decide : 1052 + 0 ≤ _)⟩)
  dsimp only [Pt.U, Pt.locs, Pt.cells, Pt.slots] at X79 l79 y79 z79 st79 hQ79
  subst l79 y79 z79
  obtain ⟨h79, e79⟩ : ∃ z, T79.heap = z := ⟨_, rfl⟩
  rw [e79] at hQ79
  obtain ⟨hq79, N79q, q79⟩ := hQ79
  rw [q79] at e79
  subst hq79
  have N79 := Fr.app N78 N79q
  refine own_fwd st79 ?_
  show own_R p.tables e below P (T79.setTop (mkF m 176 #[.val (.int p0), .val (.int p1), .val (.int p2), .val (.int p3), .val (.int p4), .val (.int p5), .val (.int c0_), .val (.int c1_), .val (.int c2_), .val (.ref b55), .val (.ref b59), .val (.ref b63), .val (.ref b67)] [(.int (own_hash (own_upd (own_upd (own_upd (fun _ => (0 : Int32)) 0 (nar .char (p3.toUInt32.toUInt16.toUInt32.toInt32))) 1 (nar .char (((p3.toUInt32 >>> ((16 : Int32) &&& 31).toUInt32).toInt32).toUInt32.toUInt16.toUInt32.toInt32))) 2 (nar .char (p4.toUInt32.toUInt16.toUInt32.toInt32))) 0 n2_)), (.int (own_hash (own_put (own_upd (own_upd (own_upd (fun _ => (0 : Int32)) 0 (nar .char (p3.toUInt32.toUInt16.toUInt32.toInt32))) 1 (nar .char (((p3.toUInt32 >>> ((16 : Int32) &&& 31).toUInt32).toInt32).toUInt32.toUInt16.toUInt32.toInt32))) 2 (nar .char (p4.toUInt32.toUInt16.toUInt32.toInt32))) (own_put (own_upd (own_upd (own_upd (fun _ => (0 : Int32)) 0 (nar .char (((p1.toUInt32 >>> ((16 : Int32) &&& 31).toUInt32).toInt32).toUInt32.toUInt16.toUInt32.toInt32))) 1 (nar .char (p2.toUInt32.toUInt16.toUInt32.toInt32))) 2 (nar .char (((p2.toUInt32 >>> ((16 : Int32) &&& 31).toUInt32).toInt32).toUInt32.toUInt16.toUInt32.toInt32))) (own_put (own_upd (own_upd (own_upd (fun _ => (0 : Int32)) 0 (nar .char (p0.toUInt32.toUInt16.toUInt32.toInt32))) 1 (nar .char (((p0.toUInt32 >>> ((16 : Int32) &&& 31).toUInt32).toInt32).toUInt32.toUInt16.toUInt32.toInt32))) 2 (nar .char (p1.toUInt32.toUInt16.toUInt32.toInt32))) (fun _ => (0 : Int32)) 0 n0_) (0 + n0_) n1_) ((0 + n0_) + n1_) n2_) ((0 + n0_) + n1_) n2_))]))
  have hc80 : (own_hash (own_put (own_upd (own_upd (own_upd (fun _ => (0 : Int32)) 0 (nar .char (p3.toUInt32.toUInt16.toUInt32.toInt32))) 1 (nar .char (((p3.toUInt32 >>> ((16 : Int32) &&& 31).toUInt32).toInt32).toUInt32.toUInt16.toUInt32.toInt32))) 2 (nar .char (p4.toUInt32.toUInt16.toUInt32.toInt32))) (own_put (own_upd (own_upd (own_upd (fun _ => (0 : Int32)) 0 (nar .char (((p1.toUInt32 >>> ((16 : Int32) &&& 31).toUInt32).toInt32).toUInt32.toUInt16.toUInt32.toInt32))) 1 (nar .char (p2.toUInt32.toUInt16.toUInt32.toInt32))) 2 (nar .char (((p2.toUInt32 >>> ((16 : Int32) &&& 31).toUInt32).toInt32).toUInt32.toUInt16.toUInt32.toInt32))) (own_put (own_upd (own_upd (own_upd (fun _ => (0 : Int32)) 0 (nar .char (p0.toUInt32.toUInt16.toUInt32.toInt32))) 1 (nar .char (((p0.toUInt32 >>> ((16 : Int32) &&& 31).toUInt32).toInt32).toUInt32.toUInt16.toUInt32.toInt32))) 2 (nar .char (p1.toUInt32.toUInt16.toUInt32.toInt32))) (fun _ => (0 : Int32)) 0 n0_) (0 + n0_) n1_) ((0 + n0_) + n1_) n2_) ((0 + n0_) + n1_) n2_) = (own_hash (own_upd (own_upd (own_upd (fun _ => (0 : Int32)) 0 (nar .char (p3.toUInt32.toUInt16.toUInt32.toInt32))) 1 (nar .char (((p3.toUInt32 >>> ((16 : Int32) &&& 31).toUInt32).toInt32).toUInt32.toUInt16.toUInt32.toInt32))) 2 (nar .char (p4.toUInt32.toUInt16.toUInt32.toInt32))) 0 n2_) := own_hash_cong fun j hj => by
        simp only [own_put]
        rw [if_pos (by omega)]; congr 1; omega
  refine own_fwd (fun tt kt => XS.icmpNo X79.here hx rfl (hb hby at_176) rfl (teq hc80).2 kt) ?_
  show own_R p.tables e below P (T79.setTop (mkF m 179 #[.val (.int p0), .val (.int p1), .val (.int p2), .val (.int p3), .val (.int p4), .val (.int p5), .val (.int c0_), .val (.int c1_), .val (.int c2_), .val (.ref b55), .val (.ref b59), .val (.ref b63), .val (.ref b67)] []))
  refine own_fwd (fun tt kt => XS.iconst X79.here hx rfl (hb hby at_179) kt) ?_
  show own_R p.tables e below P (T79.setTop (mkF m 180 #[.val (.int p0), .val (.int p1), .val (.int p2), .val (.int p3), .val (.int p4), .val (.int p5), .val (.int c0_), .val (.int c1_), .val (.int c2_), .val (.ref b55), .val (.ref b59), .val (.ref b63), .val (.ref b67)] [(.int (1 : Int32))]))
  refine own_fwd (fun tt kt => XS.goto X79.here hx rfl (pc0 := 180) (pc' := 184) rfl (hb hby at_180) (by decide) (by decide) kt) ?_
  show own_R p.tables e below P (T79.setTop (mkF m 184 #[.val (.int p0), .val (.int p1), .val (.int p2), .val (.int p3), .val (.int p4), .val (.int p5), .val (.int c0_), .val (.int c1_), .val (.int c2_), .val (.ref b55), .val (.ref b59), .val (.ref b63), .val (.ref b67)] [(.int (1 : Int32))]))
  obtain ⟨fs81, hr81, hrun81, hended81, hW81, hsame81⟩ := X79.leave (v := some (.int (1 : Int32))) (fun h => by rw [Bd.returns] at h; cases h)
  refine ⟨_, _, X79.ireturnOut hx (w := (1 : Int32)) Bd.returns rfl (by simp) (hb hby at_184) hr81, fin _ _ ⟨hrun81, hended81, _, _, rfl, ?_, ⟨_, rfl⟩, hW81, hsame81.mono (by decide) (by decide)⟩⟩
  show own_Qlaw Z p0 p1 p2 p3 p4 p5 h0 n0 _ T79.heap _
  rw [e79]
  exact ⟨rfl, N79⟩
set_option maxRecDepth 65536 in
set_option maxHeartbeats 40000000 in
theorem own_comes {Post : Tables → Env → Array Value → State → Outcome → State → Prop} (hpost : ∀ tb e args s v u, (limb_1_1.after args s (.returned v) u = true ∧ limb_1_2.after args s (.returned v) u = true ∧ True) → FrameEnd s (.returned v) u (Jvm.fieldLocs frame_1_writes args s ++ Jvm.arrayLocs frame_1_arrays args s ++ Jvm.staticLocs frame_1_statics s) 24 2176 → Post tb e args s (.returned v) u) :
    ArmFor flags0 classFile x code maxLocals ret World_1 tables_1 room_1 Calls_1 rest_1 Pre_1 Post := by
  intro l hfl _ _ p e ha hc hk s m args below hf hA hF happ hP
  obtain ⟨hcalls, hrest, hpre⟩ := hP
  obtain ⟨-, -, -, hnamed, -, -, -, hat⟩ := (Spec.applies_iff hf).mp happ
  obtain ⟨hg, hn⟩ := and_e (Cond.before_iff.mp (show (Jvm.Cond.and given_1 narrow_1).before args s = true from hpre))
  obtain ⟨g1, g2⟩ := and_e hg
  obtain ⟨g3, g4⟩ := and_e g2
  obtain ⟨g5, g6⟩ := and_e g4
  obtain ⟨g7, g8⟩ := and_e g6
  obtain ⟨g9, g10⟩ := and_e g8
  obtain ⟨g11, g12⟩ := and_e g10
  obtain ⟨w0, w1, w2, w3, w4, w5, rfl⟩ : ∃ w0 w1 w2 w3 w4 w5 : Value, args = #[w0, w1, w2, w3, w4, w5] := by
    have hs : args.size = 6 := by simpa [Cond.value, given_1] using g1
    obtain ⟨L⟩ := args
    match L, hs with
    | [w0, w1, w2, w3, w4, w5], _ => exact ⟨w0, w1, w2, w3, w4, w5, rfl⟩
  have hw := fun d (hd : d ∈ tables_1) => atoms_spec (ws := Jvm.Cond.code x code maxLocals ret :: tables_1) hat d (List.mem_cons_of_mem _ hd)
  obtain ⟨i0, ei0⟩ := is_v g3
  obtain rfl : w0 = (.int i0) := Option.some.inj ei0
  obtain ⟨i1, ei1⟩ := is_v g5
  obtain rfl : w1 = (.int i1) := Option.some.inj ei1
  obtain ⟨i2, ei2⟩ := is_v g7
  obtain rfl : w2 = (.int i2) := Option.some.inj ei2
  obtain ⟨i3, ei3⟩ := is_v g9
  obtain rfl : w3 = (.int i3) := Option.some.inj ei3
  obtain ⟨i4, ei4⟩ := is_v g11
  obtain rfl : w4 = (.int i4) := Option.some.inj ei4
  obtain ⟨i5, ei5⟩ := is_v g12
  obtain rfl : w5 = (.int i5) := Option.some.inj ei5
  obtain ⟨n, o, h1, h2, h3, _, L, rfl, ⟨rfl, N⟩, hq⟩ := own_rmlaw l s _ hw tables_1 i0 i1 i2 i3 i4 i5 s.heap s.heap.size (Nat.le_refl _) p e ha hc hk s m _ below hf ((Spec.applies_iff_loose hf).mp happ).1 ⟨rfl, State.Warmed39.refl s, rfl⟩ trivial
  refine ⟨n, _, h1, h2, h3, hpost _ _ _ _ _ _ ⟨Cond.after_iff.mpr rfl, Cond.after_iff.mpr (eq_i res_at (Term.int_eval (1)) rfl), trivial⟩ ⟨hq.1, hq.2.1, (hq.2.2.sift fun y hy => Or.inr (N y hy)).mono (by decide) (by decide)⟩⟩
theorem main_1_1 : Claimed_1_1 := own_comes fun _ _ _ _ _ _ h hF => ⟨h.1, hF⟩
theorem main_1_2 : Claimed_1_2 := own_comes fun _ _ _ _ _ _ h hF => ⟨h.2.1, hF⟩
end Jvm.Pilot.@@N@@
namespace Jvm.Pilot.@@N@@
open Jvm Jvm.ClassFile Sem Op Lib Jvm.Free Jvm.Stand Jvm.Pilot.@@N@@.Jvm.D
/-! MADE BY PROGRAM (witnessworld.py) out of the Statement's table words and the real class files: 12 classes; the members and pool entries that the words name. The judged class is class 1, her method 1. -/
namespace start1
open Jvm.ClassFile
def u (s : String) : CpInfo := .utf8 (stringToUtf16 s)
/-- a pool by its gaps: so many unusable entries, then the entry; so many at the end -/
def gap : Nat → List CpInfo → List CpInfo
  | 0, r => r
  | n + 1, r => .unusable :: gap n r
def poolList (es : List (Nat × CpInfo)) (last : Nat) : List CpInfo := es.foldr (fun e r => gap e.1 (e.2 :: r)) (gap last [])
def pool (es : List (Nat × CpInfo)) (last : Nat) : Array CpInfo := ⟨poolList es last⟩
def fileOf (pool : Array CpInfo) (this : Nat) (attrs : Array Attribute := #[]) (ms : Array MethodInfo := #[]) (fl : Nat := 33) (sup : Nat := 0) (ifs : Array Nat := #[]) (fds : Array FieldInfo := #[]) : ClassFile where
  minorVersion := 0
  majorVersion := 65
  constantPool := pool
  accessFlags := fl
  thisClass := this
  superClass := sup
  interfaces := ifs
  fields := fds
  methods := ms
  attributes := attrs
def plain (name : String) (sup : Option ClassId) : Class where
  name := name
  kind := .ordinary
  loader := none
  accessFlags := 33
  super := sup
  interfaces := #[]
  cf := none
  fields := #[]
  methods := #[]
  instanceTypes := #[]
  staticTypes := #[]
  resolved := #[]
  callSites := []
  init := .initialized
  statics := none
  mirror := none

def pool0 : Array CpInfo := pool [(5, u "<init>"), (0, u "()V"), (1, .class_ 10), (1, u "java/lang/Object")] 113

def k0c0 : Code := { maxStack := 0, maxLocals := 1, code := object_method_1_code, exceptionTable := #[], attributes := #[] }
def k0m0 : Method := { name := "<init>", desc := "()V", sig := { parameters := [], returnType := none }, accessFlags := 1, code := some k0c0 }
/-- java/lang/Object -/
def k0 : Class := { plain "java/lang/Object" none with
  accessFlags := 33
  interfaces := #[]
  cf := some (fileOf pool0 8 #[] #[{ accessFlags := 1, nameIndex := 5, descriptorIndex := 6, attributes := #[] }] 33 0 #[] #[])
  fields := #[]
  methods := #[k0m0]
  instanceTypes := #[]
  staticTypes := #[]
  resolved := Array.replicate 124 none
  statics := none }

def pool1 : Array CpInfo := pool [(2, .class_ 4), (0, .nameAndType 5 6), (0, u "java/lang/Object"), (0, u "<init>"), (0, u "()V"), (0, .class_ 8), (0, u "com/example/rankbucket/rankbucket/IdList"), (0, .methodref 7 3), (0, .methodref 7 11), (0, .nameAndType 12 13), (0, u "add"), (0, u "([CI)V"), (0, .methodref 7 15), (0, .nameAndType 16 17), (0, u "hash"), (0, u "(I)I"), (0, .methodref 19 20), (0, .class_ 21), (0, .nameAndType 22 23), (0, u "com/example/rankbucket/rankbucket/IdListHashPinLaw"), (0, u "ref"), (0, u "([CI)I"), (2, u "law"), (0, u "(IIIIII)Z")] 5

def k1m0 : Method := { name := "<init>", desc := "()V", sig := { parameters := [], returnType := none }, accessFlags := 1, code := none }
def k1c1 : Code := { maxStack := 5, maxLocals := 13, code := code, exceptionTable := #[], attributes := #[] }
def k1m1 : Method := { name := "law", desc := "(IIIIII)Z", sig := { parameters := [.int, .int, .int, .int, .int, .int], returnType := some .boolean }, accessFlags := 9, code := some k1c1 }
def k1c2 : Code := { maxStack := 3, maxLocals := 5, code := method_3_code, exceptionTable := #[], attributes := #[] }
def k1m2 : Method := { name := "ref", desc := "([CI)I", sig := { parameters := [(.array .char), .int], returnType := some .int }, accessFlags := 10, code := some k1c2 }
/-- com/example/rankbucket/rankbucket/IdListHashPinLaw -/
def k1 : Class := { plain "com/example/rankbucket/rankbucket/IdListHashPinLaw" (some 0) with
  accessFlags := 49
  interfaces := #[]
  cf := some (fileOf pool1 19 #[] #[{ accessFlags := 1, nameIndex := 5, descriptorIndex := 6, attributes := #[] }, { accessFlags := 9, nameIndex := 26, descriptorIndex := 27, attributes := #[] }, { accessFlags := 10, nameIndex := 22, descriptorIndex := 23, attributes := #[] }] 49 2 #[] #[])
  fields := #[]
  methods := #[k1m0, k1m1, k1m2]
  instanceTypes := #[]
  staticTypes := #[]
  resolved := Array.replicate 33 none
  statics := none }

def pool2 : Array CpInfo := pool [(1, .methodref 2 3), (0, .class_ 4), (0, .nameAndType 5 6), (0, u "java/lang/Object"), (0, u "<init>"), (0, u "()V"), (0, .fieldref 8 9), (0, .class_ 10), (0, .nameAndType 11 12), (0, u "com/example/rankbucket/rankbucket/IdList"), (0, u "chars"), (0, u "[C"), (0, .fieldref 8 14), (0, .nameAndType 15 16), (0, u "ends"), (0, u "[I"), (0, .fieldref 8 18), (0, .nameAndType 19 20), (0, u "size"), (0, u "I"), (0, .methodref 8 22), (0, .nameAndType 23 24), (0, u "add"), (0, u "([CII)V"), (0, .methodref 8 26), (0, .nameAndType 27 28), (0, u "room"), (0, u "(I)I"), (0, .methodref 30 31), (0, .class_ 32), (0, .nameAndType 33 34), (0, u "java/lang/System"), (0, u "arraycopy"), (0, u "(Ljava/lang/Object;ILjava/lang/Object;II)V"), (52, u "([CI)V"), (2, u "hash")] 7

def k2c0 : Code := { maxStack := 2, maxLocals := 1, code := prog_26_method_1_code, exceptionTable := #[], attributes := #[] }
def k2m0 : Method := { name := "<init>", desc := "()V", sig := { parameters := [], returnType := none }, accessFlags := 0, code := some k2c0 }
def k2c1 : Code := { maxStack := 4, maxLocals := 3, code := prog_26_method_3_code, exceptionTable := #[], attributes := #[] }
def k2m1 : Method := { name := "add", desc := "([CI)V", sig := { parameters := [(.array .char), .int], returnType := none }, accessFlags := 0, code := some k2c1 }
def k2c2 : Code := { maxStack := 6, maxLocals := 5, code := prog_26_method_4_code, exceptionTable := #[], attributes := #[] }
def k2m2 : Method := { name := "add", desc := "([CII)V", sig := { parameters := [(.array .char), .int, .int], returnType := none }, accessFlags := 0, code := some k2c2 }
def k2c3 : Code := { maxStack := 5, maxLocals := 3, code := prog_26_method_6_code, exceptionTable := #[], attributes := #[] }
def k2m3 : Method := { name := "room", desc := "(I)I", sig := { parameters := [.int], returnType := some .int }, accessFlags := 2, code := some k2c3 }
def k2c4 : Code := { maxStack := 3, maxLocals := 5, code := prog_26_method_8_code, exceptionTable := #[], attributes := #[] }
def k2m4 : Method := { name := "hash", desc := "(I)I", sig := { parameters := [.int], returnType := some .int }, accessFlags := 0, code := some k2c4 }
/-- com/example/rankbucket/rankbucket/IdList -/
def k2 : Class := { plain "com/example/rankbucket/rankbucket/IdList" (some 0) with
  accessFlags := 48
  interfaces := #[]
  cf := some (fileOf pool2 8 #[] #[{ accessFlags := 0, nameIndex := 5, descriptorIndex := 6, attributes := #[] }, { accessFlags := 0, nameIndex := 23, descriptorIndex := 87, attributes := #[] }, { accessFlags := 0, nameIndex := 23, descriptorIndex := 24, attributes := #[] }, { accessFlags := 2, nameIndex := 27, descriptorIndex := 28, attributes := #[] }, { accessFlags := 0, nameIndex := 90, descriptorIndex := 28, attributes := #[] }] 48 2 #[] #[{ accessFlags := 2, nameIndex := 11, descriptorIndex := 12, attributes := #[] }, { accessFlags := 2, nameIndex := 15, descriptorIndex := 16, attributes := #[] }, { accessFlags := 2, nameIndex := 19, descriptorIndex := 20, attributes := #[] }])
  fields := #[{ name := "chars", type := (.array .char), accessFlags := 2, slot := 0, constantValue := 0 }, { name := "ends", type := (.array .int), accessFlags := 2, slot := 1, constantValue := 0 }, { name := "size", type := .int, accessFlags := 2, slot := 2, constantValue := 0 }]
  methods := #[k2m0, k2m1, k2m2, k2m3, k2m4]
  instanceTypes := #[(.array .char), (.array .int), .int]
  staticTypes := #[]
  resolved := Array.replicate 98 none
  statics := none }

def pool3 : Array CpInfo := pool [(2, .class_ 4), (1, u "java/lang/Object"), (0, u "<init>"), (0, u "()V"), (1, .class_ 10), (1, u "java/lang/System"), (0, u "allowSecurityManager"), (0, u "I"), (16, u "cons"), (0, u "Ljava/io/Console;"), (77, .class_ 110), (1, u "java/lang/System$CallersHolder"), (43, u "initialErrStream"), (0, u "Ljava/io/PrintStream;"), (19, u "security"), (0, u "Ljava/lang/SecurityManager;"), (31, .class_ 209), (0, u "java/lang/System$1"), (7, u "props"), (0, u "Ljava/util/Properties;"), (2, u "lineSeparator"), (0, u "Ljava/lang/String;"), (96, .class_ 321), (1, u "java/lang/System$LoggerFinder"), (5, .class_ 328), (0, u "java/lang/System$Logger"), (67, u "err"), (2, u "out"), (91, u "notSupportedJnuEncoding"), (15, u "in"), (17, u "initialIn"), (0, u "Ljava/io/InputStream;"), (35, u "bootLayer"), (0, u "Ljava/lang/ModuleLayer;"), (99, .class_ 664), (0, u "java/lang/System$2"), (9, u "NEVER"), (2, u "MAYBE"), (49, u "arraycopy"), (0, u "(Ljava/lang/Object;ILjava/lang/Object;II)V"), (72, .class_ 802), (0, u "java/lang/System$Logger$Level")] 31

def k3m0 : Method := { name := "<init>", desc := "()V", sig := { parameters := [], returnType := none }, accessFlags := 2, code := none }
def k3m1 : Method := { name := "arraycopy", desc := "(Ljava/lang/Object;ILjava/lang/Object;II)V", sig := { parameters := [(.object "java/lang/Object"), .int, (.object "java/lang/Object"), .int, .int], returnType := none }, accessFlags := 265, code := none }
/-- java/lang/System -/
def k3 : Class := { plain "java/lang/System" (some 0) with
  accessFlags := 49
  interfaces := #[]
  cf := some (fileOf pool3 8 #[.nestMembers #[319, 327, 801, 108, 663, 208]] #[{ accessFlags := 2, nameIndex := 5, descriptorIndex := 6, attributes := #[] }, { accessFlags := 265, nameIndex := 727, descriptorIndex := 728, attributes := #[] }] 49 2 #[] #[{ accessFlags := 25, nameIndex := 507, descriptorIndex := 526, attributes := #[] }, { accessFlags := 25, nameIndex := 399, descriptorIndex := 155, attributes := #[] }, { accessFlags := 25, nameIndex := 396, descriptorIndex := 155, attributes := #[] }, { accessFlags := 10, nameIndex := 525, descriptorIndex := 526, attributes := #[] }, { accessFlags := 26, nameIndex := 674, descriptorIndex := 12, attributes := #[] }, { accessFlags := 26, nameIndex := 677, descriptorIndex := 12, attributes := #[] }, { accessFlags := 10, nameIndex := 11, descriptorIndex := 12, attributes := #[] }, { accessFlags := 74, nameIndex := 175, descriptorIndex := 176, attributes := #[] }, { accessFlags := 10, nameIndex := 491, descriptorIndex := 222, attributes := #[] }, { accessFlags := 74, nameIndex := 29, descriptorIndex := 30, attributes := #[] }, { accessFlags := 74, nameIndex := 154, descriptorIndex := 155, attributes := #[] }, { accessFlags := 10, nameIndex := 217, descriptorIndex := 218, attributes := #[] }, { accessFlags := 10, nameIndex := 221, descriptorIndex := 222, attributes := #[] }, { accessFlags := 8, nameIndex := 562, descriptorIndex := 563, attributes := #[] }])
  fields := #[{ name := "in", type := (.object "java/io/InputStream"), accessFlags := 25, slot := 0, constantValue := 0 }, { name := "out", type := (.object "java/io/PrintStream"), accessFlags := 25, slot := 1, constantValue := 0 }, { name := "err", type := (.object "java/io/PrintStream"), accessFlags := 25, slot := 2, constantValue := 0 }, { name := "initialIn", type := (.object "java/io/InputStream"), accessFlags := 10, slot := 3, constantValue := 0 }, { name := "NEVER", type := .int, accessFlags := 26, slot := 4, constantValue := 0 }, { name := "MAYBE", type := .int, accessFlags := 26, slot := 5, constantValue := 0 }, { name := "allowSecurityManager", type := .int, accessFlags := 10, slot := 6, constantValue := 0 }, { name := "security", type := (.object "java/lang/SecurityManager"), accessFlags := 74, slot := 7, constantValue := 0 }, { name := "notSupportedJnuEncoding", type := (.object "java/lang/String"), accessFlags := 10, slot := 8, constantValue := 0 }, { name := "cons", type := (.object "java/io/Console"), accessFlags := 74, slot := 9, constantValue := 0 }, { name := "initialErrStream", type := (.object "java/io/PrintStream"), accessFlags := 74, slot := 10, constantValue := 0 }, { name := "props", type := (.object "java/util/Properties"), accessFlags := 10, slot := 11, constantValue := 0 }, { name := "lineSeparator", type := (.object "java/lang/String"), accessFlags := 10, slot := 12, constantValue := 0 }, { name := "bootLayer", type := (.object "java/lang/ModuleLayer"), accessFlags := 8, slot := 13, constantValue := 0 }]
  methods := #[k3m0, k3m1]
  instanceTypes := #[]
  staticTypes := #[(.object "java/io/InputStream"), (.object "java/io/PrintStream"), (.object "java/io/PrintStream"), (.object "java/io/InputStream"), .int, .int, .int, (.object "java/lang/SecurityManager"), (.object "java/lang/String"), (.object "java/io/Console"), (.object "java/io/PrintStream"), (.object "java/util/Properties"), (.object "java/lang/String"), (.object "java/lang/ModuleLayer")]
  resolved := Array.replicate 834 none
  statics := none }

def pool4 : Array CpInfo := pool [(1, u "java/lang/Cloneable"), (0, .class_ 1), (0, u "java/lang/Object"), (0, .class_ 3)] 3

/-- java/lang/Cloneable -/
def k4 : Class := { plain "java/lang/Cloneable" (some 0) with
  accessFlags := 1537
  interfaces := #[]
  cf := some (fileOf pool4 2 #[] #[] 1537 4 #[] #[])
  fields := #[]
  methods := #[]
  instanceTypes := #[]
  staticTypes := #[]
  resolved := Array.replicate 8 none
  statics := none }

def pool5 : Array CpInfo := pool [(1, u "java/io/Serializable"), (0, .class_ 1), (0, u "java/lang/Object"), (0, .class_ 3)] 3

/-- java/io/Serializable -/
def k5 : Class := { plain "java/io/Serializable" (some 0) with
  accessFlags := 1537
  interfaces := #[]
  cf := some (fileOf pool5 2 #[] #[] 1537 4 #[] #[])
  fields := #[]
  methods := #[]
  instanceTypes := #[]
  staticTypes := #[]
  resolved := Array.replicate 8 none
  statics := none }

/-- the primitive byte -/
def k6 : Class := { plain "byte" none with kind := .primitive 'B', accessFlags := 0x411 }
/-- [B -/
def k7 : Class := { plain "[B" (some 0) with kind := .array 6 .byte, interfaces := #[4, 5], accessFlags := 1041 }

/-- the primitive char -/
def k8 : Class := { plain "char" none with kind := .primitive 'C', accessFlags := 0x411 }
/-- [C -/
def k9 : Class := { plain "[C" (some 0) with kind := .array 8 .char, interfaces := #[4, 5], accessFlags := 1041 }

/-- the primitive int -/
def k10 : Class := { plain "int" none with kind := .primitive 'I', accessFlags := 0x411 }
/-- [I -/
def k11 : Class := { plain "[I" (some 0) with kind := .array 10 .int, interfaces := #[4, 5], accessFlags := 1041 }

def heap : Heap := #[]
def classes : Array Class := #[k0, k1, k2, k3, k4, k5, k6, k7, k8, k9, k10, k11]
def interned : List (Array UInt16 × Addr) := []
def slotsUsed : Nat := 0
def theMethod : MethodId := ⟨1, 1⟩
def args0 : Array Value := #[.int 2, .int 5, .int 9, .int 3, .int 4, .int 11]
def aboutOver (below : List Frame) : State where
  vm := { classes := classes, interned := interned.toArray }
  heap := heap
  slotsUsed := slotsUsed
  threads := #[{ frames := .invoking theMethod args0 :: below }]
def below0 : List Frame := [.native { method := ⟨0, 0⟩, args := #[] }]
def about1 : State := aboutOver below0
def p0 : Program := .bare "" "" ""
def e0 : Env := launch0.env 0 0 0
theorem w_frames : about1.frames = Frame.invoking theMethod args0 :: below0 := rfl
set_option maxRecDepth 65536 in
theorem w_args : argsFit about1.vm theMethod args0 = true := by decide +kernel
set_option maxRecDepth 65536 in
theorem w_heap : heapFits about1 = true := by decide +kernel
set_option maxRecDepth 65536 in
theorem w_runnable : about1.curStatus? = some .runnable := by decide +kernel
set_option maxRecDepth 65536 in
theorem w_alone : about1.alone = true := by decide +kernel
set_option maxRecDepth 65536 in
theorem w_named : about1.methodNamed? x = some theMethod := by decide +kernel
set_option maxRecDepth 65536 in
theorem w_hears : about1.hears theMethod below0 = true := by decide +kernel
set_option maxRecDepth 65536 in
theorem w_ripe : about1.ripe theMethod args0 below0 = true := by decide +kernel
theorem w_running : about1.status = .running := rfl
set_option maxRecDepth 65536 in
theorem w_room : about1.hasRoom e0.platform room_1 = true :=
  launch0.hasRoom_least _ room_1 (by decide +kernel) (by decide +kernel) (by decide +kernel) (by decide +kernel) (by decide +kernel) (by decide +kernel)
theorem allAtoms_all (ts : List Jvm.Cond) (a : Array Jvm.Value) (st : Jvm.State) : (allAtoms ts).before a st = ts.all (fun c => c.before a st) := by
  induction ts with
  | nil => rfl
  | cons c t ih =>
    show (Jvm.Cond.and c (allAtoms t)).before a st = _
    rw [Jvm.Cond.before_and, ih, List.all_cons]
def words1 : List Jvm.Cond := Jvm.Cond.code x code maxLocals ret :: tables_1
/-- a 'code' word, met by the world's own term for the bytes: nothing is compared byte by byte -/
theorem code_word {y : MethodName} {bytes : ByteArray} {mx : Nat} {rt : Option FieldType} {a : Array Value} {s : State} {m : MethodId} {meth : Method} {c : Code} (h1 : s.methodNamed? y = some m) (h2 : s.vm.method? m = some meth) (h3 : meth.code = some c) (h4 : c.code = bytes)
    (h5 : (c.maxLocals == mx && c.exceptionTable.isEmpty && decide (c.maxStack ≤ mostOperands) && decide (meth.sig.returnType = rt) && !meth.locks && decide (parseMethodDescriptor y.desc = some meth.sig)) = true) : (Jvm.Cond.code y bytes mx rt).before a s = true := by
  simp only [Bool.and_eq_true, beq_iff_eq, Bool.not_eq_true', decide_eq_true_eq] at h5
  obtain ⟨⟨⟨⟨⟨g1, g2⟩, g3⟩, g4⟩, g5⟩, g6⟩ := h5
  simp [Cond.before, Cond.holds, Cond.value, h1, h2, h3, h4, g1, g2, g3, g4, g5, g6]
def isCode : Jvm.Cond → Bool
  | .code _ _ _ _ => true
  | _ => false
theorem all_split {L : List Jvm.Cond} {P : Jvm.Cond → Bool} (h1 : L.all (fun c => isCode c || P c) = true) (h2 : ∀ c ∈ L.filter isCode, P c = true) : L.all P = true := by
  refine List.all_eq_true.mpr fun c hc => ?_
  have h := List.all_eq_true.mp h1 c hc
  rcases Bool.eq_false_or_eq_true (isCode c) with hi | hi
  · exact h2 c (List.mem_filter.mpr ⟨hc, hi⟩)
  · simpa [hi] using h
set_option maxRecDepth 65536 in
theorem w_c0 : (Jvm.Cond.code x code maxLocals ret).before args0 about1 = true := code_word (m := ⟨1, 1⟩) (meth := k1m1) (c := k1c1) (by decide +kernel) rfl rfl rfl (by decide +kernel)
set_option maxRecDepth 65536 in
theorem w_c1 : (Jvm.Cond.code ({ cls := "com/example/rankbucket/rankbucket/IdList", name := "<init>", desc := "()V" } : Jvm.MethodName) prog_26_method_1_code (1 : Nat) (Option.none : Option Jvm.ClassFile.FieldType)).before args0 about1 = true := code_word (m := ⟨2, 0⟩) (meth := k2m0) (c := k2c0) (by decide +kernel) rfl rfl rfl (by decide +kernel)
set_option maxRecDepth 65536 in
theorem w_c2 : (Jvm.Cond.code ({ cls := "java/lang/Object", name := "<init>", desc := "()V" } : Jvm.MethodName) object_method_1_code (1 : Nat) (Option.none : Option Jvm.ClassFile.FieldType)).before args0 about1 = true := code_word (m := ⟨0, 0⟩) (meth := k0m0) (c := k0c0) (by decide +kernel) rfl rfl rfl (by decide +kernel)
set_option maxRecDepth 65536 in
theorem w_c3 : (Jvm.Cond.code ({ cls := "com/example/rankbucket/rankbucket/IdList", name := "add", desc := "([CI)V" } : Jvm.MethodName) prog_26_method_3_code (3 : Nat) (Option.none : Option Jvm.ClassFile.FieldType)).before args0 about1 = true := code_word (m := ⟨2, 1⟩) (meth := k2m1) (c := k2c1) (by decide +kernel) rfl rfl rfl (by decide +kernel)
set_option maxRecDepth 65536 in
theorem w_c4 : (Jvm.Cond.code ({ cls := "com/example/rankbucket/rankbucket/IdList", name := "add", desc := "([CII)V" } : Jvm.MethodName) prog_26_method_4_code (5 : Nat) (Option.none : Option Jvm.ClassFile.FieldType)).before args0 about1 = true := code_word (m := ⟨2, 2⟩) (meth := k2m2) (c := k2c2) (by decide +kernel) rfl rfl rfl (by decide +kernel)
set_option maxRecDepth 65536 in
theorem w_c5 : (Jvm.Cond.code ({ cls := "com/example/rankbucket/rankbucket/IdList", name := "room", desc := "(I)I" } : Jvm.MethodName) prog_26_method_6_code (3 : Nat) (Option.some Jvm.ClassFile.FieldType.int)).before args0 about1 = true := code_word (m := ⟨2, 3⟩) (meth := k2m3) (c := k2c3) (by decide +kernel) rfl rfl rfl (by decide +kernel)
set_option maxRecDepth 65536 in
theorem w_c6 : (Jvm.Cond.code ({ cls := "com/example/rankbucket/rankbucket/IdList", name := "hash", desc := "(I)I" } : Jvm.MethodName) prog_26_method_8_code (5 : Nat) (Option.some Jvm.ClassFile.FieldType.int)).before args0 about1 = true := code_word (m := ⟨2, 4⟩) (meth := k2m4) (c := k2c4) (by decide +kernel) rfl rfl rfl (by decide +kernel)
set_option maxRecDepth 65536 in
theorem w_c7 : (Jvm.Cond.code ({ cls := "com/example/rankbucket/rankbucket/IdListHashPinLaw", name := "ref", desc := "([CI)I" } : Jvm.MethodName) method_3_code (5 : Nat) (Option.some Jvm.ClassFile.FieldType.int)).before args0 about1 = true := code_word (m := ⟨1, 2⟩) (meth := k1m2) (c := k1c2) (by decide +kernel) rfl rfl rfl (by decide +kernel)
def codes1 : List Jvm.Cond := [Jvm.Cond.code x code maxLocals ret, Jvm.Cond.code ({ cls := "com/example/rankbucket/rankbucket/IdList", name := "<init>", desc := "()V" } : Jvm.MethodName) prog_26_method_1_code (1 : Nat) (Option.none : Option Jvm.ClassFile.FieldType), Jvm.Cond.code ({ cls := "java/lang/Object", name := "<init>", desc := "()V" } : Jvm.MethodName) object_method_1_code (1 : Nat) (Option.none : Option Jvm.ClassFile.FieldType), Jvm.Cond.code ({ cls := "com/example/rankbucket/rankbucket/IdList", name := "add", desc := "([CI)V" } : Jvm.MethodName) prog_26_method_3_code (3 : Nat) (Option.none : Option Jvm.ClassFile.FieldType), Jvm.Cond.code ({ cls := "com/example/rankbucket/rankbucket/IdList", name := "add", desc := "([CII)V" } : Jvm.MethodName) prog_26_method_4_code (5 : Nat) (Option.none : Option Jvm.ClassFile.FieldType), Jvm.Cond.code ({ cls := "com/example/rankbucket/rankbucket/IdList", name := "room", desc := "(I)I" } : Jvm.MethodName) prog_26_method_6_code (3 : Nat) (Option.some Jvm.ClassFile.FieldType.int), Jvm.Cond.code ({ cls := "com/example/rankbucket/rankbucket/IdList", name := "hash", desc := "(I)I" } : Jvm.MethodName) prog_26_method_8_code (5 : Nat) (Option.some Jvm.ClassFile.FieldType.int), Jvm.Cond.code ({ cls := "com/example/rankbucket/rankbucket/IdListHashPinLaw", name := "ref", desc := "([CI)I" } : Jvm.MethodName) method_3_code (5 : Nat) (Option.some Jvm.ClassFile.FieldType.int)]
set_option maxRecDepth 65536 in
theorem codes_eq : words1.filter isCode = codes1 := rfl
theorem w_codes : ∀ c ∈ words1.filter isCode, c.before args0 about1 = true := by
  rw [codes_eq]
  intro c hc
  simp only [codes1, List.mem_cons, List.not_mem_nil, or_false] at hc
  rcases hc with rfl | rfl | rfl | rfl | rfl | rfl | rfl | rfl
  · exact w_c0
  · exact w_c1
  · exact w_c2
  · exact w_c3
  · exact w_c4
  · exact w_c5
  · exact w_c6
  · exact w_c7
set_option maxRecDepth 65536 in
theorem w_t1 : (words1.take 24).all (fun c => isCode c || c.before args0 about1) = true := by decide +kernel
set_option maxRecDepth 65536 in
theorem w_t2 : (words1.drop 24).all (fun c => isCode c || c.before args0 about1) = true := by decide +kernel
theorem w_tables : (allAtoms (Jvm.Cond.code x code maxLocals ret :: tables_1)).before args0 about1 = true := by
  rw [allAtoms_all]
  show words1.all (fun c => c.before args0 about1) = true
  refine all_split ?_ w_codes
  rw [← List.take_append_drop 24 words1, List.all_append, w_t1, w_t2]
  rfl
set_option maxRecDepth 65536 in
theorem w_case : (Jvm.Cond.and given_1 narrow_1).before args0 about1 = true := by decide +kernel
theorem w_applies : (headSpec (Jvm.Cond.code x code maxLocals ret :: tables_1) room_1).applies x e0.platform about1 = true :=
  (Spec.applies_iff w_frames).mpr ⟨w_running, w_runnable, w_alone, w_named, w_hears, w_ripe, w_room, w_tables⟩
theorem atStart : AtStart classFile x code maxLocals ret World_1 tables_1 room_1 Calls_1 rest_1 Pre_1 launch0 p0 e0 about1 theMethod args0 below0 :=
  ⟨lists_1, trivial, launch0.admits_env _ _ _, launch0.least_env, fairChoices_fair.cas, fairChoices_fair.clock, w_frames, w_args, w_heap, w_applies, trivial, trivial, w_case⟩
end start1
theorem witness_1 : WitnessClaimed_1 := ⟨start1.p0, start1.e0, start1.about1, start1.theMethod, start1.args0, start1.below0, start1.atStart⟩
end Jvm.Pilot.@@N@@
